import PyProof.Rows.All
import Wide.All
import OpenK.AllK
import Wide.FinOn
import PySem.Challenge.RW_dp0035_03
open PySem PySem.W PyProof.Rows
set_option Elab.async false
set_option maxRecDepth 100000
set_option maxHeartbeats 8000000
set_option linter.unusedSectionVars false
namespace Mine
open_top hd03 for PySem.Challenge.rw_dp0035_03
end Mine
namespace Mine

/-- the loop of _siftdown and its last store -/
def sdLoop {α : Type} [Inhabited α] (lt : α → α → Bool) (new : α) (sp : Nat) (l : List α) (pos : Nat) : List α :=
  if _h : sp < pos then
    if lt new (l.getD ((pos - 1) / 2) default) then sdLoop lt new sp (l.set pos (l.getD ((pos - 1) / 2) default)) ((pos - 1) / 2)
    else l.set pos new
  else l.set pos new
termination_by pos
decreasing_by omega

def sd {α : Type} [Inhabited α] (lt : α → α → Bool) (l : List α) (sp pos : Nat) : List α := sdLoop lt (l.getD pos default) sp l pos

/-- the child that _siftup goes to -/
def kid {α : Type} [Inhabited α] (lt : α → α → Bool) (l : List α) (pos : Nat) : Nat :=
  if 2 * pos + 2 < l.length ∧ lt (l.getD (2 * pos + 1) default) (l.getD (2 * pos + 2) default) = false then 2 * pos + 2 else 2 * pos + 1

theorem kid_or {α : Type} [Inhabited α] (lt : α → α → Bool) (l : List α) (pos : Nat) : kid lt l pos = 2 * pos + 1 ∨ (kid lt l pos = 2 * pos + 2 ∧ 2 * pos + 2 < l.length) := by
  unfold kid; split
  · rename_i h; exact .inr ⟨rfl, h.1⟩
  · exact .inl rfl

def suLoop {α : Type} [Inhabited α] (lt : α → α → Bool) (l : List α) (pos : Nat) : List α × Nat :=
  if _h : 2 * pos + 1 < l.length then suLoop lt (l.set pos (l.getD (kid lt l pos) default)) (kid lt l pos) else (l, pos)
termination_by l.length - pos
decreasing_by
  rw [List.length_set]
  rcases kid_or lt l pos with h | h <;> omega

def su {α : Type} [Inhabited α] (lt : α → α → Bool) (l : List α) (pos : Nat) : List α :=
  let r := suLoop lt l pos
  sd lt (r.1.set r.2 (l.getD pos default)) pos r.2

def hpush {α : Type} [Inhabited α] (lt : α → α → Bool) (l : List α) (x : α) : List α := sd lt (l ++ [x]) 0 l.length

theorem sdLoop_length {α : Type} [Inhabited α] (lt : α → α → Bool) (new : α) (sp : Nat) (l : List α) (pos : Nat) : (sdLoop lt new sp l pos).length = l.length := by
  fun_induction sdLoop lt new sp l pos <;> simp_all
theorem sd_length {α : Type} [Inhabited α] (lt : α → α → Bool) (l : List α) (sp pos : Nat) : (sd lt l sp pos).length = l.length := sdLoop_length ..
theorem suLoop_length {α : Type} [Inhabited α] (lt : α → α → Bool) (l : List α) (pos : Nat) : (suLoop lt l pos).1.length = l.length := by
  fun_induction suLoop lt l pos <;> simp_all
theorem suLoop_lt {α : Type} [Inhabited α] (lt : α → α → Bool) (l : List α) (pos : Nat) (h : pos < l.length) : (suLoop lt l pos).2 < l.length := by
  fun_induction suLoop lt l pos with
  | case1 l pos h1 ih => 
    have := ih (by rw [List.length_set]; rcases kid_or lt l pos with h | h <;> omega)
    simpa using this
  | case2 l pos h1 => exact h
theorem su_length {α : Type} [Inhabited α] (lt : α → α → Bool) (l : List α) (pos : Nat) : (su lt l pos).length = l.length := by
  unfold su; rw [sd_length, List.length_set, suLoop_length]
theorem hpush_length {α : Type} [Inhabited α] (lt : α → α → Bool) (l : List α) (x : α) : (hpush lt l x).length = l.length + 1 := by
  unfold hpush; rw [sd_length]; simp

section
variable {prog : Program} {w : World} {A : Around} {E : Value → Shared → Prop} {s : Shared} {h₀ : Heap} {L D : Addr} {m : Str → Option Value} {rest : List (Addr × Obj)} {vs : List Value} {n : Nat} {k : Int} {t : Tok} {x : Value}

theorem getD_get {vs : List Value} {i : Nat} (h : i < vs.length) : vs[i]? = some (vs.getD i default) := by
  rw [List.getD_eq_getElem?_getD, List.getElem?_eq_getElem h]; rfl

theorem item_at {news : List (Addr × Obj)} {value slice : Expr} {Q : Value → Shared → Prop} (N : News h₀ L s.heap news) (hm : (D, listOf vs.toArray n) ∈ news) (i : Nat) (hk : k = (i : Int)) (hi : i < vs.length) (hl : vs.length ≤ 1000) (h : Q (vs.getD i default) s)
    (hs : subscripted slice false (.ref D) (.int k t) = operate [.ref D, .int k t] (getItem (.ref D) (.int k t)) := by with_unfolding_all rfl) (hg : ∀ r, letTemporaryGo value (.ref D) r = pure () := by intro _; with_unfolding_all rfl) :
    wpAny (model prog w) A (subscriptTail value slice (.ref D) (.int k t)) Q E s := by
  subst hk
  exact kim_list N hm rfl rfl (by omega) (by omega) (by simpa using getD_get hi) h hs hg

theorem len_at {news : List (Addr × Obj)} {Q : Value → Shared → Prop} (N : News h₀ L s.heap news) (hm : (D, listOf vs.toArray n) ∈ news) (hl : vs.length ≤ 1000) (h : ∀ t tk, Q (.int (vs.length : Int) t) { s with toks := tk }) :
    wpAny (model prog w) A (call (.builtin "len") [.ref D]) Q E s := by
  refine len_list (PySem.IsL.isList (n := n) (N _ hm).1) (by rw [List.size_toArray]; omega) ?_
  have := h (s.toks + 1) (s.toks + 1 + 1)
  simpa using this

theorem app_at {Q : Value → Shared → Prop} (F : Fr h₀ L s.heap m) (N : News h₀ L s.heap ((D, listOf vs.toArray n) :: rest)) (hne : ∀ p ∈ rest, p.1 ≠ D) (hl : vs.length ≤ 1000)
    (h : ∀ h', Fr h₀ L h' m → News h₀ L h' ((D, listOf (vs ++ [x]).toArray (n + 1)) :: rest) → Q .none { s with heap := h' }) :
    wpAny (model prog w) A (call (.builtin "list.append") [.ref D, x]) Q E s := by
  refine append_K F N (.head hne) (fun h' F' N' => h h' F' ?_) (by rw [sizeLine_eq, List.size_toArray]; omega)
  simpa using N'

theorem set_at {Q : Unit → Shared → Prop} (F : Fr h₀ L s.heap m) (N : News h₀ L s.heap ((D, listOf vs.toArray n) :: rest)) (hne : ∀ p ∈ rest, p.1 ≠ D) (i : Nat) (hk : k = (i : Int)) (hi : i < vs.length) (hl : vs.length ≤ 1000)
    (h : ∀ h', Fr h₀ L h' m → News h₀ L h' ((D, listOf (vs.set i x).toArray n) :: rest) → Q () { s with heap := h' }) :
    wpAny (model prog w) A (setItem (.ref D) (.int k t) x) Q E s := by
  subst hk
  have z := N (D, listOf vs.toArray n) (.head _)
  refine ki_setAt z.1 (by omega) (by omega) (by simpa using hi) (h _ (F.change (Heap.SameBut.update ..) z.2.1 z.2.2) (ki_turn (pre := []) _ N (fun _ h => nomatch h) hne ?_ ?_))
  · apply Array.toList_inj.mp
    simp
  · simp
end

theorem look_int {o : Option Value} {a b : Int} {t t' : Tok} (h1 : o = some (.int a t)) (h2 : a = b) (h3 : t = t') : o = some (.int b t') := by rw [h1, h2, h3]
theorem fr_look {h₀ h : Heap} {L : Addr} {m : Str → Option Value} (_F : Fr h₀ L h m) (x : Str) (b : Int) (e : ∃ t, m x = some (.int b t)) : ∃ t, m x = some (.int b t) := e
theorem fdiv_par {p : Nat} (h : 0 < p) : ((p : Int) - 1).fdiv (2 ^ Int.toNat 1) = (((p - 1) / 2 : Nat) : Int) := by
  have e : ((p : Int) - 1) = ((p - 1 : Nat) : Int) := by omega
  rw [e, Int.fdiv_eq_ediv_of_nonneg _ (by decide)]
  show ((p - 1 : Nat) : Int) / 2 = _
  omega

theorem getD_mem {vs : List Value} {i : Nat} (h : i < vs.length) : vs.getD i default ∈ vs := List.mem_of_getElem? (getD_get h)

/-- the order of the items is known while rest stands -/
def LtOk (prog : Program) (w : World) (rest : List (Addr × Obj)) (lt : Value → Value → Bool) (vs : List Value) : Prop :=
  ∀ x ∈ vs, ∀ y ∈ vs, ∀ (A : Around) (s : Shared) (Q : Value → Shared → Prop) (E : Value → Shared → Prop), A.handled = none → A.units + 60 < cLine → (∀ p ∈ rest, s.heap.get? p.1 = some p.2) →
    (∀ tk, Q (.bool (lt x y)) { s with toks := tk }) → wpAny (model prog w) A (compareOp .Lt x y) Q E s

theorem allLt_to {d : Addr} {l : List (Addr × Obj)} (h : AllLt d l) : ∀ p ∈ l, p.1 < d := by
  induction l with
  | nil => intro p hp; nomatch hp
  | cons q r ih =>
    intro p hp
    rcases List.mem_cons.mp hp with rfl | hp
    · exact h.1
    · exact ih h.2 p hp
/-- the walk stops here -/
def Stop (P : Prop) : Prop := P
theorem Stop.out {P : Prop} (h : Stop P) : P := h
theorem Stop.go {P : Prop} (h : P) : Stop P := h
end Mine
namespace Mine

theorem sd_call (w : World) (mean : ExcName → Option Value) (mg mb : Str → Option Value)
    (dp un : Nat) (gd : Option (List Code)) (cn : Str) (cs : Scope) (a : Addr) (ccd : Value) (cl : List (Str × Addr)) (outer : List Env) (A₀ : Around) (base h₀ : Heap) (L : Addr) (m : Str → Option Value) (rest : List (Addr × Obj)) (s : Shared)
    (lt : Value → Value → Bool) (la : Addr) (vs : List Value) (n : Nat) (sp pos : Nat) (t1 t2 : Tok)
    (Q E : Value → Shared → Prop) (B : Below A₀ base outer h₀) (F : Fr h₀ L s.heap m) (X : (Mine.hd03.heap_39 w.params).In h₀) (N : News h₀ L s.heap ((la, listOf vs.toArray n) :: rest))
    (T : Top Mine.hd03.view_39 (looseW Mine.hd03.view_39 []) mean mg mb h₀) (hk : cs.kind = .function) (hd : dp + 5 < recursionLimit) (hu : un + 100 < cLine)
    (hne : ∀ p ∈ rest, p.1 ≠ la) (hp1 : pos < vs.length) (hlen : vs.length ≤ 200) (hlt : LtOk PySem.Challenge.rw_dp0035_03.row.prog w rest lt vs)
    (hret : ∀ h' tk', Fr h₀ L h' m → News h₀ L h' ((la, listOf (sd lt vs sp pos).toArray n) :: rest) → Q .none { s with heap := h', toks := tk' }) :
    wpAny (model PySem.Challenge.rw_dp0035_03.row.prog w) (ktrTop dp un gd cn cs L a ccd cl outer) (call (.ref 28) [.ref la, .int (sp : Int) t1, .int (pos : Int) t2]) Q E s := by
  have hfill : PySem.Challenge.rw_dp0035_03 = PySem.Challenge.rw_dp0035_03 ∧ Mine.hd03.heap_39 = Mine.hd03.heap_39 := by
    k_fill
    exact ⟨rfl, rfl⟩
  clear hfill
  w_top off
  k_with_none
  k_with "exec While Compare cons nil" => refine Stop.out ?_
  refine wpAny_call ?_
  k_dflt ktr_enter
  k_steps
  rename News _ _ _ _ => N1
  refine item_at N1 (.head _) pos rfl hp1 (by omega) ?_
  k_steps
  refine Stop.go ?_
  rename News _ _ _ _ => N2
  rename Fr _ _ _ _ => F2
  refine ksw_while (σ := List Value × Nat × Tok) (fun c => (la, listOf c.1.toArray n) :: rest) (fun c => [(Str.ofString "pos", .int (c.2.1 : Int) c.2.2)]) (fun c => True) [Str.ofString "parentpos", Str.ofString "parent"]
    (fun c => c.1.length = vs.length ∧ c.2.1 < vs.length ∧ sdLoop lt (vs.getD pos default) sp c.1 c.2.1 = sd lt vs sp pos ∧ ∀ x ∈ c.1, x ∈ vs) (fun c => c.2.1) (vs, pos, t2) F2 N2 trivial ?kk ⟨rfl, hp1, rfl, fun _ h => h⟩ ?_
  case kk => intro p hp; rcases List.mem_cons.mp hp with rfl | hp; exact rfl; exact nomatch hp
  rintro ⟨l, p, tp⟩ u h3 tk3 - ⟨hl1, hl2, hl3, hl4⟩ F3 N3
  dsimp only at *
  k_steps
  · rename News _ _ _ _ => N4
    rename _ < _ => hgt
    have hgt' : sp < p := by omega
    refine item_at N4 (.head _) ((p - 1) / 2) (fdiv_par (by omega)) (by omega) (by omega) ?_
    k_steps
    rename News _ _ _ _ => N5
    rename Fr _ _ _ _ => F5
    refine hlt _ (getD_mem hp1) _ (hl4 _ (getD_mem (by omega))) _ _ _ _ rfl (by show un + 3 + 60 < cLine; omega) (fun q hq => (N5 q (.tail _ hq)).1) ?_
    intro tk5
    k_steps
    · rename lt _ _ = true => hb
      refine set_at F5 N5 hne p rfl (by omega) (by omega) ?_
      intro h6 F6 N6
      k_steps
      rename News _ _ _ _ => N7
      rename Fr _ _ _ _ => F7
      rw [fdiv_par (by omega)] at F7
      refine' ksw_end (l.set p (l.getD ((p - 1) / 2) default), (p - 1) / 2, _) F7 N7 (fun _ h => h) trivial ?k1 ?k2 ⟨by simpa using hl1, by show (p - 1) / 2 < _; omega, ?k3, ?k4⟩ (by show (p - 1) / 2 < p; omega)
      case k1 => intro q hq; rcases List.mem_cons.mp hq with rfl | hq; exact rfl; exact nomatch hq
      case k2 =>
        intro z h2 h3
        have z1 : ¬ z = Str.ofString "pos" := h2 _ (.head _)
        have h3' := h3
        simp only [List.contains_cons, List.contains_nil, Bool.or_false, Bool.or_eq_false_iff, beq_eq_false_iff_ne, ne_eq] at h3'
        simp only [kstB, h3, z1, h3'.1, h3'.2, if_false, Bool.false_eq_true]
      case k3 =>
        rw [← hl3, sdLoop.eq_def _ _ _ l p]
        simp only [dif_pos hgt', hb, if_true]
      case k4 =>
        intro x hx
        rcases List.mem_or_eq_of_mem_set hx with h | h
        · exact hl4 x h
        · exact h ▸ hl4 _ (getD_mem (by omega))
    · rename lt _ _ = false => hb
      refine set_at F5 N5 hne p rfl (by omega) (by omega) ?_
      intro h6 F6 N6
      k_steps
      rename Fr h₀ _ _ _ => F7
      rename News h₀ _ _ _ => N7
      have e : sd lt vs sp pos = l.set p (vs.getD pos default) := by
        rw [← hl3, sdLoop]
        simp only [dif_pos hgt', hb]
        rfl
      refine hret _ _ F7 ?_
      rw [e]; exact N7
  · refine set_at F3 N3 hne p rfl (by omega) (by omega) ?_
    intro h5 F5 N5
    k_steps
    rename Fr h₀ _ _ _ => F6
    rename News h₀ _ _ _ => N6
    have e : sd lt vs sp pos = l.set p (vs.getD pos default) := by
      rw [← hl3, sdLoop]
      simp only [dif_neg (show ¬ sp < p by omega)]
    refine hret _ _ F6 ?_
    rw [e]; exact N6
end Mine
namespace Mine
local macro_rules | `(tactic| walk_at "call ref") => `(tactic| refine Stop.out ?_)
local macro_rules | `(tactic| walk_at "KswEnd") => `(tactic| refine Stop.out ?_)

theorem su_call (w : World) (mean : ExcName → Option Value) (mg mb : Str → Option Value)
    (dp un : Nat) (gd : Option (List Code)) (cn : Str) (cs : Scope) (a : Addr) (ccd : Value) (cl : List (Str × Addr)) (outer : List Env) (A₀ : Around) (base h₀ : Heap) (L : Addr) (m : Str → Option Value) (rest : List (Addr × Obj)) (s : Shared)
    (lt : Value → Value → Bool) (la : Addr) (vs : List Value) (n : Nat) (pos : Nat) (t1 : Tok)
    (Q E : Value → Shared → Prop) (B : Below A₀ base outer h₀) (F : Fr h₀ L s.heap m) (X : (Mine.hd03.heap_39 w.params).In h₀) (N : News h₀ L s.heap ((la, listOf vs.toArray n) :: rest))
    (T : Top Mine.hd03.view_39 (looseW Mine.hd03.view_39 []) mean mg mb h₀) (hk : cs.kind = .function) (hd : dp + 10 < recursionLimit) (hu : un + 110 < cLine)
    (hne : ∀ p ∈ rest, p.1 ≠ la) (hp1 : pos < vs.length) (hlen : vs.length ≤ 200) (hlt : LtOk PySem.Challenge.rw_dp0035_03.row.prog w rest lt vs)
    (hret : ∀ h' tk', Fr h₀ L h' m → News h₀ L h' ((la, listOf (su lt vs pos).toArray n) :: rest) → Q .none { s with heap := h', toks := tk' }) :
    wpAny (model PySem.Challenge.rw_dp0035_03.row.prog w) (ktrTop dp un gd cn cs L a ccd cl outer) (call (.ref 35) [.ref la, .int (pos : Int) t1]) Q E s := by
  have hfill : PySem.Challenge.rw_dp0035_03 = PySem.Challenge.rw_dp0035_03 ∧ Mine.hd03.heap_39 = Mine.hd03.heap_39 := by
    k_fill
    exact ⟨rfl, rfl⟩
  clear hfill
  w_top off
  k_with_none
  k_with "exec While Compare cons nil" => refine Stop.out ?_
  refine wpAny_call ?_
  k_dflt ktr_enter
  k_steps
  rename News _ _ _ _ => N1
  refine len_at N1 (.head _) (by omega) ?_
  intro t2 tk2
  k_steps
  rename News _ _ _ _ => N2
  refine item_at N2 (.head _) pos rfl hp1 (by omega) ?_
  k_steps
  refine Stop.go ?_
  rename News _ _ _ _ => N3
  rename Fr _ _ _ _ => F3
  refine' ksw_while (σ := List Value × Nat × Tok × Tok) (fun c => (la, listOf c.1.toArray n) :: rest) (fun c => [(Str.ofString "pos", .int (c.2.1 : Int) c.2.2.1), (Str.ofString "childpos", .int (2 * (c.2.1 : Int) + 1) c.2.2.2)]) (fun c => True) [Str.ofString "rightpos"]
    (fun c => c.1.length = vs.length ∧ c.2.1 < vs.length ∧ suLoop lt c.1 c.2.1 = suLoop lt vs pos ∧ ∀ x ∈ c.1, x ∈ vs) (fun c => vs.length - c.2.1) (vs, pos, t1, _) F3 N3 trivial ?kk ⟨rfl, hp1, rfl, fun _ h => h⟩ ?kt
  case kk => 
    intro p hp; rcases List.mem_cons.mp hp with rfl | hp; exact rfl; rcases List.mem_cons.mp hp with rfl | hp; exact rfl; exact nomatch hp
  case kt =>
  rintro ⟨l, p, tp, tc⟩ u h4 tk4 - ⟨hl1, hl2, hl3, hl4⟩ F4 N4
  dsimp only at *
  k_steps
  · rename News _ _ _ _ => N5
    rename 2 * (p : Int) + 1 < _ => hc1
    rename 2 * (p : Int) + 1 + 1 < _ => hc2
    refine item_at N5 (.head _) (2 * p + 1) (by omega) (by omega) (by omega) ?_
    k_steps
    refine item_at N5 (.head _) (2 * p + 2) (by omega) (by omega) (by omega) ?_
    k_steps
    refine hlt _ (hl4 _ (getD_mem (by omega))) _ (hl4 _ (getD_mem (by omega))) _ _ _ _ rfl (by show un + 3 + 60 < cLine; omega) (fun q hq => (N5 q (.tail _ hq)).1) ?_
    intro tk5
    k_steps
    · rename lt _ _ = true => hb
      have hkid : kid lt l p = 2 * p + 1 := by
        unfold kid; rw [if_neg]; rw [hb]; simp
      refine item_at N5 (.head _) (2 * p + 1) (by omega) (by omega) (by omega) ?_
      k_steps
      rename News _ _ _ _ => N6
      rename Fr _ _ _ _ => F6
      refine set_at F6 N6 hne p rfl (by omega) (by omega) ?_
      intro h7 F7 N7
      k_steps
      rename News _ _ _ _ => N8
      rename Fr _ _ _ _ => F8
      refine Stop.go ?_
      obtain ⟨u0, e0⟩ := fr_look F8 (Str.ofString "pos") ((2 * p + 1 : Nat) : Int) ⟨_, look_int rfl (by omega) rfl⟩
      obtain ⟨u1, e1⟩ := fr_look F8 (Str.ofString "childpos") (2 * ((2 * p + 1 : Nat) : Int) + 1) ⟨_, look_int rfl (by omega) rfl⟩
      refine ksw_end (l.set p (l.getD (2 * p + 1) default), 2 * p + 1, u0, u1) F8 N8 (fun _ h => h) trivial ?k1 ?k2 ⟨by simpa using hl1, by show 2 * p + 1 < _; omega, ?k3, ?k4⟩ (by show vs.length - (2 * p + 1) < vs.length - p; omega)
      case k1 => intro q hq; rcases List.mem_cons.mp hq with rfl | hq; exact e0; rcases List.mem_cons.mp hq with rfl | hq; exact e1; exact nomatch hq
      case k2 =>
        intro z h2 h3
        have z1 : ¬ z = Str.ofString "pos" := h2 _ (.head _)
        have z2 : ¬ z = Str.ofString "childpos" := h2 _ (.tail _ (.head _))
        have h3' := h3
        simp only [List.contains_cons, List.contains_nil, Bool.or_false, Bool.or_eq_false_iff, beq_eq_false_iff_ne, ne_eq] at h3'
        simp only [kstB, h3, z1, z2, h3', if_false, Bool.false_eq_true]
      case k3 =>
        rw [← hl3, suLoop.eq_def _ l p]
        simp only [dif_pos (show 2 * p + 1 < l.length by omega), hkid]
      case k4 =>
        intro x hx
        rcases List.mem_or_eq_of_mem_set hx with h | h
        · exact hl4 x h
        · exact h ▸ hl4 _ (getD_mem (by omega))
    · rename lt _ _ = false => hb
      rename News _ _ _ _ => N5'
      have hkid : kid lt l p = 2 * p + 2 := by
        unfold kid; rw [if_pos ⟨by omega, hb⟩]
      refine item_at N5' (.head _) (2 * p + 2) (by omega) (by omega) (by omega) ?_
      k_steps
      rename News _ _ _ _ => N6
      rename Fr _ _ _ _ => F6
      refine set_at F6 N6 hne p rfl (by omega) (by omega) ?_
      intro h7 F7 N7
      k_steps
      rename News _ _ _ _ => N8
      rename Fr _ _ _ _ => F8
      refine Stop.go ?_
      obtain ⟨u0, e0⟩ := fr_look F8 (Str.ofString "pos") ((2 * p + 2 : Nat) : Int) ⟨_, look_int rfl (by omega) rfl⟩
      obtain ⟨u1, e1⟩ := fr_look F8 (Str.ofString "childpos") (2 * ((2 * p + 2 : Nat) : Int) + 1) ⟨_, look_int rfl (by omega) rfl⟩
      refine ksw_end (l.set p (l.getD (2 * p + 2) default), 2 * p + 2, u0, u1) F8 N8 (fun _ h => h) trivial ?k1 ?k2 ⟨by simpa using hl1, by show 2 * p + 2 < _; omega, ?k3, ?k4⟩ (by show vs.length - (2 * p + 2) < vs.length - p; omega)
      case k1 => intro q hq; rcases List.mem_cons.mp hq with rfl | hq; exact e0; rcases List.mem_cons.mp hq with rfl | hq; exact e1; exact nomatch hq
      case k2 =>
        intro z h2 h3
        have z1 : ¬ z = Str.ofString "pos" := h2 _ (.head _)
        have z2 : ¬ z = Str.ofString "childpos" := h2 _ (.tail _ (.head _))
        have h3' := h3
        simp only [List.contains_cons, List.contains_nil, Bool.or_false, Bool.or_eq_false_iff, beq_eq_false_iff_ne, ne_eq] at h3'
        simp only [kstB, h3, z1, z2, h3', if_false, Bool.false_eq_true]
      case k3 =>
        rw [← hl3, suLoop.eq_def _ l p]
        simp only [dif_pos (show 2 * p + 1 < l.length by omega), hkid]
      case k4 =>
        intro x hx
        rcases List.mem_or_eq_of_mem_set hx with h | h
        · exact hl4 x h
        · exact h ▸ hl4 _ (getD_mem (by omega))
  · rename News _ _ _ _ => N5
    rename 2 * (p : Int) + 1 < _ => hc1
    rename ¬ 2 * (p : Int) + 1 + 1 < _ => hc2
    have hkid : kid lt l p = 2 * p + 1 := by
      unfold kid; rw [if_neg]; omega
    refine item_at N5 (.head _) (2 * p + 1) (by omega) (by omega) (by omega) ?_
    k_steps
    rename News _ _ _ _ => N6
    rename Fr _ _ _ _ => F6
    refine set_at F6 N6 hne p rfl (by omega) (by omega) ?_
    intro h7 F7 N7
    k_steps
    rename News _ _ _ _ => N8
    rename Fr _ _ _ _ => F8
    refine Stop.go ?_
    obtain ⟨u0, e0⟩ := fr_look F8 (Str.ofString "pos") ((2 * p + 1 : Nat) : Int) ⟨_, look_int rfl (by omega) rfl⟩
    obtain ⟨u1, e1⟩ := fr_look F8 (Str.ofString "childpos") (2 * ((2 * p + 1 : Nat) : Int) + 1) ⟨_, look_int rfl (by omega) rfl⟩
    refine ksw_end (l.set p (l.getD (2 * p + 1) default), 2 * p + 1, u0, u1) F8 N8 (fun _ h => h) trivial ?k1 ?k2 ⟨by simpa using hl1, by show 2 * p + 1 < _; omega, ?k3, ?k4⟩ (by show vs.length - (2 * p + 1) < vs.length - p; omega)
    case k1 => intro q hq; rcases List.mem_cons.mp hq with rfl | hq; exact e0; rcases List.mem_cons.mp hq with rfl | hq; exact e1; exact nomatch hq
    case k2 =>
      intro z h2 h3
      have z1 : ¬ z = Str.ofString "pos" := h2 _ (.head _)
      have z2 : ¬ z = Str.ofString "childpos" := h2 _ (.tail _ (.head _))
      have h3' := h3
      simp only [List.contains_cons, List.contains_nil, Bool.or_false, Bool.or_eq_false_iff, beq_eq_false_iff_ne, ne_eq] at h3'
      simp only [kstB, h3, z1, z2, h3', if_false, Bool.false_eq_true]
    case k3 =>
      rw [← hl3, suLoop.eq_def _ l p]
      simp only [dif_pos (show 2 * p + 1 < l.length by omega), hkid]
    case k4 =>
      intro x hx
      rcases List.mem_or_eq_of_mem_set hx with h | h
      · exact hl4 x h
      · exact h ▸ hl4 _ (getD_mem (by omega))
  · rename ¬ 2 * (p : Int) + 1 < _ => hc1
    refine set_at F4 N4 hne p rfl (by omega) (by omega) ?_
    intro h5 F5 N5
    k_steps
    refine Stop.go ?_
    have e : suLoop lt vs pos = (l, p) := by
      rw [← hl3, suLoop.eq_def _ l p]
      simp only [dif_neg (show ¬ 2 * p + 1 < l.length by omega)]
    have hl5 : ∀ x ∈ l.set p (vs.getD pos default), x ∈ vs := by
      intro x hx
      rcases List.mem_or_eq_of_mem_set hx with h | h
      · exact hl4 x h
      · exact h ▸ getD_mem hp1
    refine sd_call w mean mg mb (dp + 1) (un + 3) gd _ _ _ _ [] _ _ _ _ _ _ rest _ lt la (l.set p (vs.getD pos default)) n pos p t1 tp _ _ (by k_asm) F5 (by k_asm) N5 (by k_asm) rfl (by omega) (by omega) hne (by rw [List.length_set]; omega) (by rw [List.length_set]; omega) (fun x hx y hy => hlt x (hl5 x hx) y (hl5 y hy)) ?_
    intro h6 tk6 F6 N6
    k_steps
    rename Fr h₀ _ _ _ => F7
    rename News h₀ _ _ _ => N7
    have e2 : su lt vs pos = sd lt (l.set p (vs.getD pos default)) pos p := by
      unfold su; rw [e]
    refine hret _ _ F7 ?_
    rw [e2]; exact N7
end Mine
namespace Mine
local macro_rules | `(tactic| walk_at "call ref") => `(tactic| refine Stop.out ?_)

theorem hp_call (w : World) (mean : ExcName → Option Value) (mg mb : Str → Option Value)
    (dp un : Nat) (gd : Option (List Code)) (cn : Str) (cs : Scope) (a : Addr) (ccd : Value) (cl : List (Str × Addr)) (outer : List Env) (A₀ : Around) (base h₀ : Heap) (L : Addr) (m : Str → Option Value) (rest : List (Addr × Obj)) (s : Shared)
    (lt : Value → Value → Bool) (la : Addr) (vs : List Value) (n : Nat) (x : Value)
    (Q E : Value → Shared → Prop) (B : Below A₀ base outer h₀) (F : Fr h₀ L s.heap m) (X : (Mine.hd03.heap_39 w.params).In h₀) (N : News h₀ L s.heap ((la, listOf vs.toArray n) :: rest))
    (T : Top Mine.hd03.view_39 (looseW Mine.hd03.view_39 []) mean mg mb h₀) (hk : cs.kind = .function) (hd : dp + 10 < recursionLimit) (hu : un + 110 < cLine)
    (hne : ∀ p ∈ rest, p.1 ≠ la) (hlen : vs.length < 200) (hlt : LtOk PySem.Challenge.rw_dp0035_03.row.prog w rest lt (vs ++ [x]))
    (hret : ∀ h' tk', Fr h₀ L h' m → News h₀ L h' ((la, listOf (hpush lt vs x).toArray (n + 1)) :: rest) → Q .none { s with heap := h', toks := tk' }) :
    wpAny (model PySem.Challenge.rw_dp0035_03.row.prog w) (ktrTop dp un gd cn cs L a ccd cl outer) (call (.ref 21) [.ref la, x]) Q E s := by
  have hfill : PySem.Challenge.rw_dp0035_03 = PySem.Challenge.rw_dp0035_03 ∧ Mine.hd03.heap_39 = Mine.hd03.heap_39 := by
    k_fill
    exact ⟨rfl, rfl⟩
  clear hfill
  w_top off
  k_with_none
  refine wpAny_call ?_
  k_dflt ktr_enter
  k_steps
  rename News _ _ _ _ => N1
  rename Fr _ _ _ _ => F1
  refine app_at F1 N1 hne (by omega) ?_
  intro h2 F2 N2
  k_steps
  refine len_at N2 (.head _) (by simp; omega) ?_
  intro t3 tk3
  k_steps
  refine Stop.go ?_
  have e : ((vs ++ [x]).length : Int) - 1 = (vs.length : Nat) := by simp
  rw [e]
  refine sd_call w mean mg mb (dp + 1) (un + 3) gd _ _ _ _ [] _ _ _ _ _ _ rest _ lt la (vs ++ [x]) (n + 1) 0 vs.length _ _ _ _ (by k_asm) F2 (by k_asm) N2 (by k_asm) rfl (by omega) (by omega) hne (by simp) (by simp; omega) hlt ?_
  intro h6 tk6 F6 N6
  k_steps
  rename Fr h₀ _ _ _ => F7
  rename News h₀ _ _ _ => N7
  exact hret _ _ F7 N7
end Mine
namespace Mine

/-- what a turn of a for loop leaves: the loop's own iterator as it was, and the word of the next turn -/
def LpEnd (h₀ : Heap) (L I : Addr) (oI : Obj) (J : (Str → Option Value) → List (Addr × Obj) → Prop) (s s₂ : Shared) : Prop :=
  ∃ h' tk m' nx, s₂ = { s with heap := h', toks := tk } ∧ Fr h₀ L h' m' ∧ News h₀ L h' ((I, oI) :: nx) ∧ (∀ p ∈ nx, p.1 ≠ I) ∧ J m' nx
def LpPost (h₀ : Heap) (L I : Addr) (oI : Obj) (J : (Str → Option Value) → List (Addr × Obj) → Prop) (s : Shared) (Q : Flow → Shared → Prop) (f : Flow) (s₂ : Shared) : Prop :=
  match f with
  | .ret v => Q (.ret v) s₂
  | .brk => Q .next s₂
  | _ => LpEnd h₀ L I oI J s s₂

def KS {σ : Type} (Led : σ → List (Addr × Obj)) (ps : σ → List (Str × Value)) (x : Str) (stored : List Str) (m₀ : Str → Option Value) (P : Nat → σ → Prop) (i : Nat) (m : Str → Option Value) (nx : List (Addr × Obj)) : Prop :=
  ∃ c : σ, nx = Led c ∧ (∀ p ∈ ps c, m p.1 = some p.2) ∧ (∀ z, z ≠ x → (∀ p ∈ ps c, z ≠ p.1) → stored.contains z = false → m z = m₀ z) ∧ P i c

theorem lp_end {σ : Type} {Led : σ → List (Addr × Obj)} {ps : σ → List (Str × Value)} {x : Str} {stored : List Str} {m₀ m' : Str → Option Value} {P : Nat → σ → Prop} {i : Nat} {h₀ h' : Heap} {L I : Addr} {oI : Obj} {s : Shared} {tk : Nat} {news : List (Addr × Obj)} (c : σ)
    (F : Fr h₀ L h' m') (N : News h₀ L h' news) (hI : (I, oI) ∈ news) (hn : ∀ p ∈ Led c, p ∈ news) (hne : ∀ p ∈ Led c, p.1 ≠ I) (hk : ∀ p ∈ ps c, m' p.1 = some p.2) (hr : ∀ z, z ≠ x → (∀ p ∈ ps c, z ≠ p.1) → stored.contains z = false → m' z = m₀ z) (hp : P i c) :
    LpEnd h₀ L I oI (KS Led ps x stored m₀ P i) s { s with heap := h', toks := tk } :=
  ⟨h', tk, m', Led c, rfl, F, fun p hp => (List.mem_cons.mp hp).elim (fun e => e ▸ N _ hI) (fun h => N p (hn p h)), hne, c, rfl, hk, hr, hp⟩

theorem lp_next {h₀ : Heap} {L I : Addr} {oI : Obj} {J : (Str → Option Value) → List (Addr × Obj) → Prop} {s : Shared} {Q : Flow → Shared → Prop} {s₂ : Shared} (h : LpEnd h₀ L I oI J s s₂) : LpPost h₀ L I oI J s Q .next s₂ := h
theorem lp_cont {h₀ : Heap} {L I : Addr} {oI : Obj} {J : (Str → Option Value) → List (Addr × Obj) → Prop} {s : Shared} {Q : Flow → Shared → Prop} {s₂ : Shared} (h : LpEnd h₀ L I oI J s s₂) : LpPost h₀ L I oI J s Q .cont s₂ := h
theorem ints_app : ∀ {vs ws : List Value} {ns ms : List Int}, IntsAre vs ns → IntsAre ws ms → IntsAre (vs ++ ws) (ns ++ ms)
  | _, _, _, _, .nil, h => h
  | _, _, _, _, .cons a u r, h => .cons a u (ints_app r h)
/-- a name for the head's address -/
theorem name_head {h₀ h : Heap} {L a : Addr} {o : Obj} {r : List (Addr × Obj)} (_N : News h₀ L h ((a, o) :: r)) {P : Prop} (k : ∀ a', a' = a → P) : P := k a rfl
/-- a name for the head's items -/
theorem name_items {h₀ h : Heap} {L a : Addr} {vs : List Value} {n : Nat} {r : List (Addr × Obj)} (_N : News h₀ L h ((a, listOf vs.toArray n) :: r)) {P : Prop} (k : ∀ vs', vs' = vs → P) : P := k vs rfl
theorem ints_one {a b : Int} {t : Tok} (h : a = b) : IntsAre [.int a t] [b] := h ▸ .cons a t .nil
theorem news_sub {h₀ h : Heap} {L : Addr} {l l' : List (Addr × Obj)} (N : News h₀ L h l) (hs : ∀ p ∈ l', p ∈ l) : News h₀ L h l' := fun p hp => N p (hs p hp)

section
variable {prog : Program} {w : World} {A : Around} {E : Value → Shared → Prop} {s : Shared} {env : Env} {h₀ : Heap} {x : Str} {body : List Stmt} {Q : Flow → Shared → Prop}

theorem lp_range {σ : Type} {r : Addr} {a₀ b₀ d : Int} {t₀ u₀ v₀ : Tok} {n : Nat} {m₀ : Str → Option Value} (Led : σ → List (Addr × Obj)) (ps : σ → List (Str × Value)) (stored : List Str) (P : Nat → σ → Prop) (val : Nat → Int) (c₀ : σ)
    (hh : A.handled = none) (hr : IsRange s.heap r a₀ b₀ d t₀ u₀ v₀) (hsmall : Builtin.Range.small a₀ b₀ d = true) (hn : Builtin.Range.rangeSize a₀ b₀ d = (n : Int)) (hval : ∀ i : Nat, i < n → a₀ + i * d = val i) (F : Fr h₀ env.locals s.heap m₀) (N : News h₀ env.locals s.heap (Led c₀)) (hk : ∀ p ∈ ps c₀, m₀ p.1 = some p.2) (hp : P 0 c₀)
    (turn : ∀ (i : Nat) (c : σ) t (u : Str → Option Value) h tk I oI, i < n → P i c → (∀ p ∈ Led c, p.1 ≠ I) →
      Fr h₀ env.locals h (fun y => if y = x then some (.int (val i) t) else kstB (fun z => if stored.contains z then u z else m₀ z) (ps c) y) → News h₀ env.locals h ((I, oI) :: Led c) →
      wpAny (model prog w) A (execs body env) (LpPost h₀ env.locals I oI (KS Led ps x stored m₀ P (i + 1)) s Q) E { s with heap := h, toks := tk })
    (done : ∀ (c : σ) (u : Str → Option Value) h tk, P n c → Fr h₀ env.locals h (fun y => if y = x then u y else kstB (fun z => if stored.contains z then u z else m₀ z) (ps c) y) → News h₀ env.locals h (Led c) → Q .next { s with heap := h, toks := tk }) :
    wpAny (model prog w) A (pyIter (.ref r)) (fun it s₂ => LoopAtV prog w A h₀ env x body Q E it s₂) E s := by
  refine wpAny_pyIter_range hr hsmall ?_
  have W : Walks prog w A s.heap.objs.size [s.heap.objs.size] [s.heap.objs.size] n (fun i v => ∃ t, v = .int (a₀ + i * d) t)
      (fun i h => IsRangeIter h s.heap.objs.size (a₀ + (i : Nat) * d) ((n : Int) - (i : Nat)) d) := Walks.range hh _ a₀ d n
  refine ⟨_, _, _, n, _, _, m₀, Led c₀, KS Led ps x stored m₀ P, rfl, W, ?_, ?_, ?_, (by show IsRangeIter _ _ _ _ _; rw [hn]; simpa using Heap.get?_push_size _ rfl), F.push _, (fun p hp => ⟨Heap.get?_push_of_some _ (N p hp).1, (N p hp).2⟩), ⟨c₀, rfl, hk, fun _ _ _ _ => rfl, hp⟩, ?_, ?_⟩
  · intro hm
    exact absurd F.ns.lt ((List.mem_singleton.mp hm) ▸ Nat.lt_irrefl _)
  · intro b hb
    rw [List.mem_singleton.mp hb]
    exact next_is_new F
  · intro p hp hI
    exact absurd (Heap.lt_size (N p hp).1) ((List.mem_singleton.mp hI) ▸ Nat.lt_irrefl _)
  · rintro i v m₁ nx s₁ own ⟨h, tk, rfl⟩ hi ⟨t, rfl⟩ ⟨c, rfl, h1, h2, hp'⟩ hoff hfp _ hown hst F₁ N₁
    have hI0 : h₀.get? s.heap.objs.size = none := next_is_new F
    rw [hval i hi] at F₁
    obtain ⟨oI, hst⟩ : ∃ oI, h.get? s.heap.objs.size = some oI := ⟨_, hst⟩
    have hoI := hown _ (.head _) hI0 _ hst
    refine wpAny_mono (turn i c t m₁ h tk s.heap.objs.size oI hi hp' (fun p hp e => hoff p hp (by rw [e]; exact .head _)) (kst_fr h1 h2 F₁) (fun p hp => ?_)) (fun f s₂ q => ?_) fun _ _ e => e
    · rcases List.mem_cons.mp hp with rfl | hp
      · exact N₁ _ (List.mem_append_left _ hoI)
      · exact N₁ _ (List.mem_append_right _ hp)
    · have fin : LpEnd h₀ env.locals s.heap.objs.size oI (KS Led ps x stored m₀ P (i + 1)) s s₂ → LoopStepU h₀ env.locals [s.heap.objs.size] own (KS Led ps x stored m₀ P (i + 1)) { s with heap := h, toks := tk } .next s₂ := by
        rintro ⟨h', tk', m', nx', rfl, F', N', hne', hJ'⟩
        refine ⟨rfl, h', tk', m', nx', rfl, F', fun p hp => ?_, fun p hp hq => hne' p hp (List.mem_singleton.mp hq), hJ'⟩
        rcases List.mem_append.mp hp with hp | hp
        · have e1 := List.mem_singleton.mp (hfp p hp)
          have e2 : p.2 = oI := Option.some.inj ((N₁ p (List.mem_append_left _ hp)).1.symm.trans (by rw [e1]; exact hst))
          have e3 : p = (s.heap.objs.size, oI) := Prod.ext e1 e2
          rw [e3]
          exact N' _ (.head _)
        · exact N' _ (.tail _ hp)
      cases f with
      | ret v => exact .ret q
      | brk => exact .brk q
      | next => exact .next (fin q)
      | cont => exact .cont (fin q)
  · rintro h' tk m' nx F' N' _ ⟨c, rfl, h1, h2, hp'⟩
    exact done c m' h' tk hp' (kst_frOut h1 h2 F') N'

theorem lp_list {σ : Type} {l : Addr} {vs : List Value} {nn : Nat} {m₀ : Str → Option Value} (Led : σ → List (Addr × Obj)) (ps : σ → List (Str × Value)) (stored : List Str) (P : Nat → σ → Prop) (c₀ : σ)
    (hh : A.handled = none) (hl : ∀ i c, P i c → (l, listOf vs.toArray nn) ∈ Led c) (F : Fr h₀ env.locals s.heap m₀) (N : News h₀ env.locals s.heap (Led c₀)) (hk : ∀ p ∈ ps c₀, m₀ p.1 = some p.2) (hp : P 0 c₀)
    (turn : ∀ (i : Nat) (c : σ) v (u : Str → Option Value) h tk I oI, i < vs.length → vs[i]? = some v → P i c → (∀ p ∈ Led c, p.1 ≠ I) →
      Fr h₀ env.locals h (fun y => if y = x then some v else kstB (fun z => if stored.contains z then u z else m₀ z) (ps c) y) → News h₀ env.locals h ((I, oI) :: Led c) →
      wpAny (model prog w) A (execs body env) (LpPost h₀ env.locals I oI (KS Led ps x stored m₀ P (i + 1)) s Q) E { s with heap := h, toks := tk })
    (done : ∀ (c : σ) (u : Str → Option Value) h tk, P vs.length c → Fr h₀ env.locals h (fun y => if y = x then u y else kstB (fun z => if stored.contains z then u z else m₀ z) (ps c) y) → News h₀ env.locals h (Led c) → Q .next { s with heap := h, toks := tk }) :
    wpAny (model prog w) A (pyIter (.ref l)) (fun it s₂ => LoopAtV prog w A h₀ env x body Q E it s₂) E s := by
  have hl0 := N _ (hl 0 c₀ hp)
  have hls : s.heap.IsList l vs.toArray := PySem.IsL.isList (n := nn) hl0.1
  have hne : l ≠ s.heap.objs.size := Nat.ne_of_lt (Heap.lt_size hl0.1)
  refine wpAny_pyIter_list hls ?_
  have W := Walks.list (prog := prog) (w := w) hh s.heap.objs.size l hne vs.toArray
  rw [List.size_toArray] at W
  refine ⟨_, _, _, vs.length, _, _, m₀, Led c₀, KS Led ps x stored m₀ P, rfl, W, ?_, ?_, ?_, ⟨⟨_, Heap.get?_push_size _ rfl, rfl, rfl⟩, hls.at fun o e => Heap.get?_push_of_some _ e⟩, F.push _, (fun p hp => ⟨Heap.get?_push_of_some _ (N p hp).1, (N p hp).2⟩), ⟨c₀, rfl, hk, fun _ _ _ _ => rfl, hp⟩, ?_, ?_⟩
  · intro hm
    rcases List.mem_cons.mp hm with e | hm
    · exact absurd F.ns.lt (e ▸ Nat.lt_irrefl _)
    · exact hl0.2.1 (List.mem_singleton.mp hm).symm
  · intro b hb
    rw [List.mem_singleton.mp hb]
    exact next_is_new F
  · intro p hp hI
    exact absurd (Heap.lt_size (N p hp).1) ((List.mem_singleton.mp hI) ▸ Nat.lt_irrefl _)
  · rintro i v m₁ nx s₁ own ⟨h, tk, rfl⟩ hi hv ⟨c, rfl, h1, h2, hp'⟩ hoff hfp _ hown ⟨⟨oI, hst, hoI2⟩, hst2⟩ F₁ N₁
    have hI0 : h₀.get? s.heap.objs.size = none := next_is_new F
    have hoI := hown _ (.head _) hI0 _ hst
    have hlc := N₁ _ (List.mem_append_right _ (hl i c hp'))
    refine wpAny_mono (turn i c v m₁ h tk s.heap.objs.size oI hi (by simpa using hv) hp' (fun p hp e => hoff p hp (by rw [e]; exact .head _)) (kst_fr h1 h2 F₁) (fun p hp => ?_)) (fun f s₂ q => ?_) fun _ _ e => e
    · rcases List.mem_cons.mp hp with rfl | hp
      · exact N₁ _ (List.mem_append_left _ hoI)
      · exact N₁ _ (List.mem_append_right _ hp)
    · have fin : LpEnd h₀ env.locals s.heap.objs.size oI (KS Led ps x stored m₀ P (i + 1)) s s₂ → LoopStepU h₀ env.locals [s.heap.objs.size] own (KS Led ps x stored m₀ P (i + 1)) { s with heap := h, toks := tk } .next s₂ := by
        rintro ⟨h', tk', m', nx', rfl, F', N', hne', hJ'⟩
        refine ⟨rfl, h', tk', m', nx', rfl, F', fun p hp => ?_, fun p hp hq => hne' p hp (List.mem_singleton.mp hq), hJ'⟩
        rcases List.mem_append.mp hp with hp | hp
        · rcases List.mem_cons.mp (hfp p hp) with e1 | e1
          · have e2 : p.2 = oI := Option.some.inj ((N₁ p (List.mem_append_left _ hp)).1.symm.trans (by rw [e1]; exact hst))
            have e3 : p = (s.heap.objs.size, oI) := Prod.ext e1 e2
            rw [e3]
            exact N' _ (.head _)
          · have e1 := List.mem_singleton.mp e1
            have e2 : p.2 = listOf vs.toArray nn := Option.some.inj ((N₁ p (List.mem_append_left _ hp)).1.symm.trans (by rw [e1]; exact hlc.1))
            have e3 : p = (l, listOf vs.toArray nn) := Prod.ext e1 e2
            rw [e3]
            obtain ⟨c', rfl, _, _, hp9⟩ := hJ'
            exact N' _ (.tail _ (hl _ _ hp9))
        · exact N' _ (.tail _ hp)
      cases f with
      | ret v => exact .ret q
      | brk => exact .brk q
      | next => exact .next (fin q)
      | cont => exact .cont (fin q)
  · rintro h' tk m' nx F' N' _ ⟨c, rfl, h1, h2, hp'⟩
    exact done c m' h' tk hp' (kst_frOut h1 h2 F') N'
end
end Mine
namespace Mine

section
variable {α : Type} [Inhabited α]

/-- the item at a place -/
abbrev it (l : List α) (i : Nat) : α := l.getD i default
theorem it_set (l : List α) (i : Nat) (v : α) (j : Nat) (h : i < l.length) : it (l.set i v) j = if i = j then v else it l j := by
  unfold it
  rw [List.getD_eq_getElem?_getD, List.getD_eq_getElem?_getD, List.getElem?_set]
  by_cases e : i = j
  · subst e; simp [h]
  · simp [e]
theorem it_set_ne {l : List α} {i j : Nat} {v : α} (h : i ≠ j) : it (l.set i v) j = it l j := by
  unfold it
  rw [List.getD_eq_getElem?_getD, List.getD_eq_getElem?_getD, List.getElem?_set]
  simp [h]
theorem it_set_eq {l : List α} {i : Nat} {v : α} (h : i < l.length) : it (l.set i v) i = v := by
  rw [it_set l i v i h, if_pos rfl]

structure LO (lt : α → α → Bool) : Prop where
  asym : ∀ a b, lt a b = true → lt b a = false
  tr : ∀ a b c, lt b a = false → lt c b = false → lt c a = false
theorem LO.irr {lt : α → α → Bool} (o : LO lt) (a : α) : lt a a = false := by
  cases h : lt a a with
  | false => rfl
  | true => exact absurd (o.asym a a h) (by rw [h]; decide)

variable (lt : α → α → Bool)
/-- an item is not less than the one over it -/
def Edge (l : List α) (k : Nat) : Prop := lt (it l k) (it l ((k - 1) / 2)) = false
/-- the edges that do not touch p -/
def EdgesBut (l : List α) (p : Nat) : Prop := ∀ k, 0 < k → k < l.length → k ≠ p → (k - 1) / 2 ≠ p → Edge lt l k
/-- what lies over p is not greater than what lies below p -/
def Over (l : List α) (p : Nat) : Prop := 0 < p → ∀ k, 0 < k → k < l.length → (k - 1) / 2 = p → lt (it l k) (it l ((p - 1) / 2)) = false
def Heap' (l : List α) : Prop := ∀ k, 0 < k → k < l.length → Edge lt l k

inductive Desc (sp : Nat) : Nat → Prop
  | self : Desc sp sp
  | kid {p : Nat} : 0 < p → Desc sp ((p - 1) / 2) → Desc sp p
theorem Desc.le {sp p : Nat} (h : Desc sp p) : sp ≤ p := by
  induction h with
  | self => exact Nat.le_refl _
  | kid h0 _ ih => omega
theorem Desc.up {sp p : Nat} (h : Desc sp p) (hp : sp < p) : Desc sp ((p - 1) / 2) := by
  cases h with
  | self => omega
  | kid _ h => exact h
theorem Desc.zero (p : Nat) : Desc 0 p := by
  induction p using Nat.strongRecOn with
  | ind p ih =>
    by_cases h : p = 0
    · rw [h]; exact .self
    · exact .kid (by omega) (ih _ (by omega))

variable {lt}
theorem sdLoop_ok (o : LO lt) {new : α} {sp : Nat} : ∀ {p : Nat} {l : List α}, p < l.length → Desc sp p → EdgesBut lt l p → (∀ k, 0 < k → k < l.length → (k - 1) / 2 = p → lt (it l k) new = false) → Over lt l p →
    (∀ k, 0 < k → k < l.length → k ≠ sp → Edge lt (sdLoop lt new sp l p) k) ∧ Over lt (sdLoop lt new sp l p) sp ∧ (0 < sp → lt new (it l ((sp - 1) / 2)) = false → Edge lt (sdLoop lt new sp l p) sp) ∧ (∀ j, ¬ Desc sp j → it (sdLoop lt new sp l p) j = it l j) := by
  intro p
  induction p using Nat.strongRecOn with
  | ind p ih =>
    intro l hp hd hA hB hC
    have stop : (sp < p → lt new (it l ((p - 1) / 2)) = false) → (∀ k, 0 < k → k < l.length → k ≠ sp → Edge lt (l.set p new) k) ∧ Over lt (l.set p new) sp ∧ (0 < sp → lt new (it l ((sp - 1) / 2)) = false → Edge lt (l.set p new) sp) ∧ (∀ j, ¬ Desc sp j → it (l.set p new) j = it l j) := by
      intro hs
      have e1 : ∀ k, 0 < k → k < l.length → k ≠ sp → Edge lt (l.set p new) k := by
        intro k h0 hk hne
        unfold Edge
        by_cases hkp : k = p
        · subst hkp
          have : sp < k := by have := hd.le; omega
          rw [it_set_eq hp, it_set_ne (by omega)]
          exact hs this
        · by_cases hkq : (k - 1) / 2 = p
          · rw [it_set_ne (Ne.symm hkp), hkq, it_set_eq hp]
            exact hB k h0 hk hkq
          · rw [it_set_ne (Ne.symm hkp), it_set_ne (Ne.symm hkq)]
            exact hA k h0 hk hkp hkq
      have le := hd.le
      refine ⟨e1, ?_, ?_, ?_⟩
      · intro hsp k h0 hk hks
        rw [List.length_set] at hk
        have hne : k ≠ sp := by omega
        have h1 := e1 k h0 hk hne
        unfold Edge at h1
        rw [hks] at h1
        by_cases hps : p = sp
        · subst hps
          rw [it_set_ne (show p ≠ k by omega), it_set_ne (show p ≠ (p - 1) / 2 by omega)]
          exact hC hsp k h0 hk hks
        · refine o.tr _ _ _ ?_ h1
          rw [it_set_ne (show p ≠ sp by omega), it_set_ne (show p ≠ (sp - 1) / 2 by omega)]
          exact hA sp hsp (by omega) (by omega) (by omega)
      · intro hsp hnew
        unfold Edge
        by_cases hps : p = sp
        · subst hps
          rw [it_set_eq hp, it_set_ne (show p ≠ (p - 1) / 2 by omega)]
          exact hnew
        · rw [it_set_ne (show p ≠ sp by omega), it_set_ne (show p ≠ (sp - 1) / 2 by omega)]
          exact hA sp hsp (by omega) (by omega) (by omega)
      · intro j hj
        exact it_set_ne fun e => hj (e ▸ hd)
    rw [sdLoop.eq_def]
    by_cases hgt : sp < p
    · rw [dif_pos hgt]
      cases hlt : lt new (l.getD ((p - 1) / 2) default) with
      | false => simp only [Bool.false_eq_true, if_false]; exact stop fun _ => hlt
      | true =>
        simp only [if_true]
        have hq : (p - 1) / 2 < p := by omega
        have hnq : lt (it l ((p - 1) / 2)) new = false := o.asym _ _ hlt
        have R := ih ((p - 1) / 2) hq (l := l.set p (l.getD ((p - 1) / 2) default)) (by rw [List.length_set]; omega) (hd.up hgt) ?_ ?_ ?_
        · rw [List.length_set] at R
          obtain ⟨r1, r2, r3, r4⟩ := R
          refine ⟨r1, r2, ?_, ?_⟩
          · intro hsp hnew
            refine r3 hsp ?_
            rw [it_set_ne (show p ≠ (sp - 1) / 2 by omega)]
            exact hnew
          · intro j hj
            rw [r4 j hj]
            exact it_set_ne fun e => hj (e ▸ hd)
        · intro k h0 hk h1 h2
          rw [List.length_set] at hk
          have hkp : k ≠ p := by intro e; rw [e] at h2; exact h2 rfl
          unfold Edge
          by_cases hkq : (k - 1) / 2 = p
          · rw [it_set_ne (Ne.symm hkp), hkq, it_set_eq hp]
            exact hC (by omega) k h0 hk hkq
          · rw [it_set_ne (Ne.symm hkp), it_set_ne (Ne.symm hkq)]
            exact hA k h0 hk hkp hkq
        · intro k h0 hk h1
          rw [List.length_set] at hk
          by_cases hkp : k = p
          · rw [hkp, it_set_eq hp]; exact hnq
          · rw [it_set_ne (Ne.symm hkp)]
            have := hA k h0 hk hkp (by omega)
            unfold Edge at this
            rw [h1] at this
            exact o.tr _ _ _ hnq this
        · intro hq0 k h0 hk h1
          rw [List.length_set] at hk
          rw [it_set_ne (show p ≠ ((p - 1) / 2 - 1) / 2 by omega)]
          have hE := hA ((p - 1) / 2) hq0 (by omega) (by omega) (by omega)
          unfold Edge at hE
          by_cases hkp : k = p
          · rw [hkp, it_set_eq hp]; exact hE
          · rw [it_set_ne (Ne.symm hkp)]
            have := hA k h0 hk hkp (by omega)
            unfold Edge at this
            rw [h1] at this
            exact o.tr _ _ _ hE this
    · rw [dif_neg hgt]
      exact stop fun h => absurd h hgt

theorem kid_parent (lt : α → α → Bool) (l : List α) (p : Nat) : (kid lt l p - 1) / 2 = p ∧ p < kid lt l p := by
  rcases kid_or lt l p with h | ⟨h, _⟩ <;> rw [h] <;> omega
theorem kid_lt {l : List α} {p : Nat} (h : 2 * p + 1 < l.length) : kid lt l p < l.length := by
  rcases kid_or lt l p with h | h <;> omega
theorem kid_least (o : LO lt) {l : List α} {p : Nat} (k : Nat) (h0 : 0 < k) (hk : k < l.length) (hp : (k - 1) / 2 = p) : lt (it l k) (it l (kid lt l p)) = false := by
  have h2 : k = 2 * p + 1 ∨ k = 2 * p + 2 := by omega
  unfold kid
  split
  · rename_i h
    rcases h2 with rfl | rfl
    · exact h.2
    · exact o.irr _
  · rename_i h
    rcases h2 with rfl | rfl
    · exact o.irr _
    · refine o.asym _ _ ?_
      cases hb : lt (it l (2 * p + 1)) (it l (2 * p + 2)) with
      | true => rfl
      | false => exact absurd ⟨hk, hb⟩ h

theorem suLoop_ok (o : LO lt) {sp : Nat} (l : List α) (p : Nat) (hp : p < l.length) (hd : Desc sp p) (hA : EdgesBut lt l p) (hC : Over lt l p) :
    EdgesBut lt (suLoop lt l p).1 (suLoop lt l p).2 ∧ Over lt (suLoop lt l p).1 (suLoop lt l p).2 ∧ Desc sp (suLoop lt l p).2 ∧ l.length ≤ 2 * (suLoop lt l p).2 + 1 ∧ (∀ j, ¬ Desc sp j → it (suLoop lt l p).1 j = it l j) := by
  fun_induction suLoop lt l p with
  | case2 l p h => exact ⟨hA, hC, hd, by omega, fun _ _ => rfl⟩
  | case1 l p h ih =>
    obtain ⟨hk1, hk2⟩ := kid_parent lt l p
    have hkl := kid_lt (lt := lt) h
    have R := ih (by rw [List.length_set]; exact hkl) (.kid (by omega) (by rw [hk1]; exact hd)) ?_ ?_
    · obtain ⟨r1, r2, r3, r4, r5⟩ := R
      refine ⟨r1, r2, r3, by rw [List.length_set] at r4; exact r4, ?_⟩
      intro j hj
      rw [r5 j hj]
      exact it_set_ne fun e => hj (e ▸ hd)
    · intro k h0 hk h1 h2
      rw [List.length_set] at hk
      unfold Edge
      by_cases hkp : k = p
      · subst hkp
        rw [it_set_eq hp, it_set_ne (by omega)]
        exact hC h0 _ (by omega) hkl hk1
      · by_cases hkq : (k - 1) / 2 = p
        · rw [it_set_ne (Ne.symm hkp), hkq, it_set_eq hp]
          exact kid_least o k h0 hk hkq
        · rw [it_set_ne (Ne.symm hkp), it_set_ne (Ne.symm hkq)]
          exact hA k h0 hk hkp hkq
    · intro _ k h0 hk h1
      rw [List.length_set] at hk
      rw [it_set_ne (show p ≠ k by omega), hk1, it_set_eq hp]
      have := hA k h0 hk (by omega) (by omega)
      unfold Edge at this
      rw [h1] at this
      exact this

theorem su_ok (o : LO lt) {l : List α} {pos : Nat} (hp : pos < l.length) (hA : EdgesBut lt l pos) (hC : Over lt l pos) :
    (∀ k, 0 < k → k < l.length → k ≠ pos → Edge lt (su lt l pos) k) ∧ Over lt (su lt l pos) pos ∧ (0 < pos → lt (it l pos) (it l ((pos - 1) / 2)) = false → Edge lt (su lt l pos) pos) ∧ (∀ j, ¬ Desc pos j → it (su lt l pos) j = it l j) := by
  obtain ⟨r1, r2, r3, r4, r5⟩ := suLoop_ok o l pos hp .self hA hC
  have hl := suLoop_length lt l pos
  have hq := suLoop_lt lt l pos hp
  unfold su
  dsimp only
  generalize (suLoop lt l pos).1 = l1 at *
  generalize (suLoop lt l pos).2 = q at *
  unfold sd
  have e : (l1.set q (l.getD pos default)).getD q default = l.getD pos default := it_set_eq (by omega)
  rw [e]
  have nokid : ∀ k, 0 < k → k < l.length → (k - 1) / 2 = q → False := fun k _ _ h => by omega
  have R := sdLoop_ok o (new := l.getD pos default) (sp := pos) (p := q) (l := l1.set q (l.getD pos default)) (by rw [List.length_set]; omega) r3 ?_ ?_ ?_
  · rw [List.length_set, hl] at R
    obtain ⟨s1, s2, s3, s4⟩ := R
    have npar : 0 < pos → ¬ Desc pos ((pos - 1) / 2) := fun h0 h => by have := h.le; omega
    refine ⟨s1, s2, ?_, ?_⟩
    · intro h0 hn
      refine s3 h0 ?_
      have hle := r3.le
      rw [it_set_ne (show q ≠ (pos - 1) / 2 by omega), r5 _ (npar h0)]
      exact hn
    · intro j hj
      rw [s4 j hj, it_set_ne (fun e : q = j => hj (e ▸ r3)), r5 j hj]
  · intro k h0 hk h1 h2
    rw [List.length_set] at hk
    unfold Edge
    rw [it_set_ne (Ne.symm h1), it_set_ne (Ne.symm h2)]
    exact r1 k h0 hk h1 h2
  · intro k h0 hk h1
    rw [List.length_set] at hk
    exact (nokid k h0 (by omega) h1).elim
  · intro _ k h0 hk h1
    rw [List.length_set] at hk
    exact (nokid k h0 (by omega) h1).elim

theorem sd0_ok (o : LO lt) {l : List α} {p : Nat} (hp : p < l.length) (hA : ∀ k, 0 < k → k < l.length → k ≠ p → Edge lt l k) (hC : Over lt l p) : Heap' lt (sd lt l 0 p) := by
  obtain ⟨r1, _⟩ := sdLoop_ok o (new := l.getD p default) (sp := 0) hp (Desc.zero p) (fun k h0 hk h1 _ => hA k h0 hk h1) (fun k h0 hk h1 => by
    have := hA k h0 hk (by omega); unfold Edge at this; rw [h1] at this; exact this) hC
  intro k h0 hk
  unfold sd at hk ⊢
  rw [sdLoop_length] at hk
  exact r1 k h0 hk (by omega)

theorem hpush_ok (o : LO lt) {l : List α} (h : Heap' lt l) (x : α) : Heap' lt (hpush lt l x) := by
  unfold hpush
  refine sd0_ok o (by simp) ?_ ?_
  · intro k h0 hk hne
    have hk' : k < l.length := by simp at hk; omega
    have := h k h0 hk'
    unfold Edge it at this ⊢
    rw [List.getD_eq_getElem?_getD, List.getD_eq_getElem?_getD] at this ⊢
    rw [List.getElem?_append_left hk', List.getElem?_append_left (by omega)]
    exact this
  · intro _ k h0 hk h1
    simp at hk
    omega

theorem heap_root (o : LO lt) {l : List α} (h : Heap' lt l) : ∀ k, k < l.length → lt (it l k) (it l 0) = false := by
  intro k
  induction k using Nat.strongRecOn with
  | ind k ih =>
    intro hk
    by_cases h0 : k = 0
    · rw [h0]; exact o.irr _
    · exact o.tr _ _ _ (ih _ (show (k - 1) / 2 < k by omega) (by omega)) (h k (by omega) hk)

/-- a heap whose top is changed, and _siftup from there -/
theorem su0_ok (o : LO lt) {l : List α} (h : Heap' lt l) (hl : 0 < l.length) (x : α) : Heap' lt (su lt (l.set 0 x) 0) := by
  obtain ⟨r1, _⟩ := su_ok o (l := l.set 0 x) (pos := 0) (by rw [List.length_set]; exact hl) (fun k h0 hk h1 h2 => by
    rw [List.length_set] at hk
    unfold Edge
    rw [it_set_ne (Ne.symm h1), it_set_ne (Ne.symm h2)]
    exact h k h0 hk) (fun h => absurd h (by decide))
  intro k h0 hk
  rw [su_length] at hk
  exact r1 k h0 hk (by omega)
end

section
variable {α : Type} [Inhabited α] [DecidableEq α] {lt : α → α → Bool}
theorem count_set' {l : List α} {i : Nat} (h : i < l.length) (v a : α) : (l.set i v).count a + (if it l i = a then 1 else 0) = l.count a + (if v = a then 1 else 0) := by
  have e : it l i = l[i] := by unfold it; rw [List.getD_eq_getElem?_getD, List.getElem?_eq_getElem h]; rfl
  rw [List.count_set h, e]
  have hp : l[i] = a → 0 < l.count a := fun q => List.count_pos_iff.mpr (q ▸ List.getElem_mem h)
  by_cases h1 : l[i] = a
  · have := hp h1
    by_cases h2 : v = a <;> simp [h1, h2] <;> omega
  · by_cases h2 : v = a <;> simp [h1, h2]
theorem sdLoop_count {new : α} {sp : Nat} {l : List α} {p : Nat} (hp : p < l.length) (a : α) : (sdLoop lt new sp l p).count a = (l.set p new).count a := by
  fun_induction sdLoop lt new sp l p with
  | case1 l p h1 h2 ih =>
    have hq : (p - 1) / 2 < p := by omega
    rw [ih (by rw [List.length_set]; omega)]
    have e1 := count_set' (l := l.set p (l.getD ((p - 1) / 2) default)) (i := (p - 1) / 2) (by rw [List.length_set]; omega) new a
    have e2 := count_set' hp (l.getD ((p - 1) / 2) default) a
    have e3 := count_set' hp new a
    rw [it_set_ne (show p ≠ (p - 1) / 2 by omega)] at e1
    have e4 : it l ((p - 1) / 2) = l.getD ((p - 1) / 2) default := rfl
    rw [e4] at e1
    omega
  | case2 l p h1 h2 => rfl
  | case3 l p h1 => rfl
theorem sd_count {sp : Nat} {l : List α} {p : Nat} (hp : p < l.length) (a : α) : (sd lt l sp p).count a = l.count a := by
  unfold sd
  rw [sdLoop_count hp]
  have := count_set' hp (l.getD p default) a
  have e : it l p = l.getD p default := rfl
  rw [e] at this
  omega
theorem suLoop_count {l : List α} {p : Nat} (hp : p < l.length) (v a : α) : ((suLoop lt l p).1.set (suLoop lt l p).2 v).count a = (l.set p v).count a := by
  fun_induction suLoop lt l p with
  | case1 l p h ih =>
    obtain ⟨hk1, hk2⟩ := kid_parent lt l p
    have hkl := kid_lt (lt := lt) h
    rw [ih (by rw [List.length_set]; exact hkl)]
    have e1 := count_set' (l := l.set p (l.getD (kid lt l p) default)) (i := kid lt l p) (by rw [List.length_set]; exact hkl) v a
    have e2 := count_set' hp (l.getD (kid lt l p) default) a
    have e3 := count_set' hp v a
    rw [it_set_ne (show p ≠ kid lt l p by omega)] at e1
    have e4 : it l (kid lt l p) = l.getD (kid lt l p) default := rfl
    rw [e4] at e1
    omega
  | case2 l p h => rfl
theorem su_count {l : List α} {p : Nat} (hp : p < l.length) (a : α) : (su lt l p).count a = l.count a := by
  unfold su
  dsimp only
  have h1 := suLoop_length lt l p
  have h2 := suLoop_lt lt l p hp
  rw [sd_count (by rw [List.length_set, h1]; exact h2), suLoop_count hp]
  have := count_set' hp (l.getD p default) a
  have e : it l p = l.getD p default := rfl
  rw [e] at this
  omega
theorem su_perm {l : List α} {p : Nat} (hp : p < l.length) : (su lt l p).Perm l := List.perm_iff_count.mpr (su_count hp)
theorem hpush_perm {l : List α} {x : α} : (hpush lt l x).Perm (x :: l) := by
  refine (List.perm_iff_count.mpr (sd_count (by simp))).trans ?_
  exact List.perm_append_comm
end
end Mine
namespace Mine
/-- what a tree of questions gives where the answers are known -/
def ev {α : Type} (c : Nat → Nat → Bool) : KasT α → α
  | .ret a => a
  | .ask i j k => ev c (k (c i j))
theorem ev_bind {α β : Type} (c : Nat → Nat → Bool) (f : α → KasT β) : ∀ t : KasT α, ev c (t.bind f) = ev c (f (ev c t))
  | .ret _ => rfl
  | .ask i j k => ev_bind c f (k (c i j))
theorem wp_of_ev {α : Type} {c : Nat → Nat → Bool} {cmp : Nat → Nat → (Bool → Shared → Prop) → Shared → Prop} (I : Shared → Prop)
    (hc : ∀ i j (C : Bool → Shared → Prop) s, I s → (∀ s', I s' → C (c i j) s') → cmp i j C s) {Q : α → Shared → Prop} : ∀ (t : KasT α) (s : Shared), I s → (∀ s', I s' → Q (ev c t) s') → t.kasWp cmp Q s
  | .ret _, s, h, hq => hq s h
  | .ask i j k, s, h, hq => hc i j _ s h fun s' h' => wp_of_ev I hc (k (c i j)) s' h' hq

section
variable {c : Nat → Nat → Bool}
abbrev pg (p : Array Nat) (k : Nat) : Nat := p.getD k 0
theorem pg_eq {p q : Array Nat} {i j : Nat} (h : p[i]? = q[j]?) : pg p i = pg q j := by
  unfold pg
  rw [Array.getD_eq_getD_getElem?, Array.getD_eq_getD_getElem?, h]
theorem pg_bubble {p : Array Nat} {src d : Nat} (hs : src < p.size) (hd : d ≤ src) (k : Nat) :
    pg (bubble p src d) k = if k = src - d then pg p src else if src - d < k ∧ k ≤ src then pg p (k - 1) else pg p k := by
  have e := getElem?_bubble hs d hd k
  by_cases h1 : k = src - d
  · rw [if_pos h1] at e ⊢; exact pg_eq e
  · rw [if_neg h1] at e ⊢
    by_cases h2 : src - d < k ∧ k ≤ src
    · rw [if_pos h2] at e ⊢; exact pg_eq e
    · rw [if_neg h2] at e ⊢; exact pg_eq e
theorem pg_rev {p : Array Nat} {i j : Nat} (hj : j ≤ p.size) (k : Nat) : pg (kas_rev p i j) k = if i ≤ k ∧ k < j then pg p (i + j - 1 - k) else pg p k := by
  have e := getElem?_mirror_all (i := i) hj k
  by_cases h1 : i ≤ k ∧ k < j
  · rw [if_pos h1] at e ⊢; exact pg_eq e
  · rw [if_neg h1] at e ⊢; exact pg_eq e

def Up (c : Nat → Nat → Bool) (p : Array Nat) (n : Nat) : Prop := ∀ i j, i < j → j < n → c (pg p j) (pg p i) = false
def Dn (c : Nat → Nat → Bool) (p : Array Nat) (n : Nat) : Prop := ∀ i j, i < j → j < n → c (pg p i) (pg p j) = false

theorem asc_ok (o : LO c) {p : Array Nat} : ∀ f n, 1 ≤ n → Up c p n → n ≤ ev c (kas_asc p f n) ∧ ev c (kas_asc p f n) ≤ n + f ∧ Up c p (ev c (kas_asc p f n)) ∧ (ev c (kas_asc p f n) < n + f → c (pg p (ev c (kas_asc p f n))) (pg p (ev c (kas_asc p f n) - 1)) = true)
  | 0, n, _, h => ⟨Nat.le_refl _, Nat.le_refl _, h, fun h => absurd h (Nat.lt_irrefl _)⟩
  | f + 1, n, h1, h => by
    unfold kas_asc
    show n ≤ ev c (if c (pg p n) (pg p (n - 1)) = true then KasT.ret n else kas_asc p f (n + 1)) ∧ _
    cases hc : c (pg p n) (pg p (n - 1)) with
    | true =>
      simp only [if_true, ev, hc]
      exact ⟨Nat.le_refl _, by omega, h, fun _ => trivial⟩
    | false =>
      have := asc_ok o f (n + 1) (by omega) (p := p) (by
        intro i j hij hj
        by_cases e : j = n
        · subst e
          by_cases e2 : i = j - 1
          · rw [e2]; exact hc
          · exact o.tr _ _ _ (h i (j - 1) (by omega) (by omega)) hc
        · exact h i j hij (by omega))
      simp only [Bool.false_eq_true, if_false, ev, hc]
      obtain ⟨a1, a2, a3, a4⟩ := this
      exact ⟨by omega, by omega, a3, fun h => a4 (by omega)⟩

theorem rev_perm (p : Array Nat) (i j : Nat) : (kas_rev p i j).Perm p := mirror_perm _ _ _ _
theorem rev_size (p : Array Nat) (i j : Nat) : (kas_rev p i j).size = p.size := mirror_size _ _ _ _

theorem desc_ok (o : LO c) : ∀ f (p : Array Nat) n q, q < n → n + f ≤ p.size → Dn c p n → (∀ i j, n - (q + 1) ≤ i → i < n → n - (q + 1) ≤ j → j < n → c (pg p i) (pg p j) = false) →
    (ev c (kas_desc f p n q)).1.Perm p ∧ n ≤ (ev c (kas_desc f p n q)).2.1 ∧ (ev c (kas_desc f p n q)).2.1 ≤ n + f ∧ (ev c (kas_desc f p n q)).2.2 < (ev c (kas_desc f p n q)).2.1 ∧ Dn c (ev c (kas_desc f p n q)).1 (ev c (kas_desc f p n q)).2.1 ∧
      (∀ i j, (ev c (kas_desc f p n q)).2.1 - ((ev c (kas_desc f p n q)).2.2 + 1) ≤ i → i < (ev c (kas_desc f p n q)).2.1 → (ev c (kas_desc f p n q)).2.1 - ((ev c (kas_desc f p n q)).2.2 + 1) ≤ j → j < (ev c (kas_desc f p n q)).2.1 → c (pg (ev c (kas_desc f p n q)).1 i) (pg (ev c (kas_desc f p n q)).1 j) = false)
  | 0, p, n, q, h1, _, h2, h3 => ⟨.refl _, Nat.le_refl _, Nat.le_refl _, h1, h2, h3⟩
  | f + 1, p, n, q, h1, hs, h2, h3 => by
    have ext : ∀ p' : Array Nat, Dn c p' n → c (pg p' (n - 1)) (pg p' n) = false → Dn c p' (n + 1) := by
      intro p' hd he i j hij hj
      by_cases e : j = n
      · subst e
        by_cases e2 : i = j - 1
        · rw [e2]; exact he
        · exact o.tr _ _ _ he (hd i (j - 1) (by omega) (by omega))
      · exact hd i j hij (by omega)
    unfold kas_desc
    simp only [ev]
    cases hc : c (pg p n) (pg p (n - 1)) with
    | true =>
      simp only [if_true, ev, hc]
      by_cases hq : q > 0
      · simp only [if_pos hq]
        have hdr : Dn c (kas_rev p (n - (q + 1)) n) (n + 1) := by
          refine ext _ ?_ ?_
          · intro i j hij hj
            rw [pg_rev (by omega), pg_rev (by omega)]
            by_cases ei : n - (q + 1) ≤ i ∧ i < n
            · rw [if_pos ei, if_pos ⟨by omega, by omega⟩]
              exact h3 _ _ (by omega) (by omega) (by omega) (by omega)
            · rw [if_neg ei]
              by_cases ej : n - (q + 1) ≤ j ∧ j < n
              · rw [if_pos ej]
                exact h2 _ _ (by omega) (by omega)
              · rw [if_neg ej]; exact h2 _ _ hij (by omega)
          · rw [pg_rev (by omega), pg_rev (by omega), if_pos ⟨by omega, by omega⟩, if_neg (by omega)]
            refine o.tr _ _ _ (o.asym _ _ hc) ?_
            exact h3 _ _ (by omega) (by omega) (by omega) (by omega)
        obtain ⟨a1, a2, a3, a4, a5, a6⟩ := desc_ok o f (kas_rev p (n - (q + 1)) n) (n + 1) 0 (by omega) (by rw [rev_size]; omega) hdr (by
          intro i j hi hi' hj hj'
          have : i = j := by omega
          subst this; exact o.irr _)
        exact ⟨a1.trans (rev_perm _ _ _), by omega, by omega, a4, a5, a6⟩
      · simp only [if_neg hq]
        obtain ⟨a1, a2, a3, a4, a5, a6⟩ := desc_ok o f p (n + 1) 0 (by omega) (by omega) (ext p h2 (o.asym _ _ hc)) (by
          intro i j hi hi' hj hj'
          have : i = j := by omega
          subst this; exact o.irr _)
        exact ⟨a1, by omega, by omega, a4, a5, a6⟩
    | false =>
      simp only [Bool.false_eq_true, if_false, ev, hc]
      cases hd : c (pg p (n - 1)) (pg p n) with
      | true =>
        simp only [if_true, ev, hd]
        exact ⟨.refl _, by omega, by omega, h1, h2, h3⟩
      | false =>
        simp only [Bool.false_eq_true, if_false, hd]
        obtain ⟨a1, a2, a3, a4, a5, a6⟩ := desc_ok o f p (n + 1) (q + 1) (by omega) (by omega) (ext p h2 hd) (by
          intro i j hi hi' hj hj'
          have old : ∀ i, n - (q + 1) ≤ i → i < n → c (pg p i) (pg p n) = false ∧ c (pg p n) (pg p i) = false := fun i h h' =>
            ⟨o.tr _ _ _ hd (h3 i (n - 1) h h' (by omega) (by omega)), o.tr _ _ _ (h3 (n - 1) i (by omega) (by omega) h h') hc⟩
          by_cases ei : i = n
          · by_cases ej : j = n
            · rw [ei, ej]; exact o.irr _
            · rw [ei]; exact (old j (by omega) (by omega)).2
          · by_cases ej : j = n
            · rw [ej]; exact (old i (by omega) (by omega)).1
            · exact h3 i j (by omega) (by omega) (by omega) (by omega))
        exact ⟨a1, by omega, by omega, a4, a5, a6⟩

theorem up_of_dn (o : LO c) {p : Array Nat} {n : Nat} (hn : n ≤ p.size) (h : Dn c p n) : Up c (kas_rev p 0 n) n := by
  intro i j hij hj
  rw [pg_rev hn, pg_rev hn, if_pos ⟨by omega, by omega⟩, if_pos ⟨by omega, by omega⟩]
  exact h _ _ (by omega) (by omega)
theorem tail3_ok (o : LO c) {p : Array Nat} {n nrem : Nat} (h1 : 1 ≤ n) (hn : n ≤ nrem) (hz : nrem ≤ p.size) (h : Dn c p n) :
    (ev c (kas_tail3 n nrem p)).2.Perm p ∧ 1 ≤ (ev c (kas_tail3 n nrem p)).1 ∧ (ev c (kas_tail3 n nrem p)).1 ≤ nrem ∧ Up c (ev c (kas_tail3 n nrem p)).2 (ev c (kas_tail3 n nrem p)).1 := by
  unfold kas_tail3
  rw [ev_bind]
  obtain ⟨a1, a2, a3, _⟩ := asc_ok o (p := kas_rev p 0 n) (nrem - n) n h1 (up_of_dn o (by omega) h)
  exact ⟨rev_perm _ _ _, by show 1 ≤ ev c _; omega, by show ev c _ ≤ _; omega, a3⟩
theorem descPart_ok (o : LO c) {p : Array Nat} {n nrem : Nat} (h1 : 1 ≤ n) (hn : n + 1 ≤ nrem) (hz : nrem ≤ p.size) (h : Dn c p (n + 1)) :
    (ev c (kas_descPart n nrem p)).2.Perm p ∧ 1 ≤ (ev c (kas_descPart n nrem p)).1 ∧ (ev c (kas_descPart n nrem p)).1 ≤ nrem ∧ Up c (ev c (kas_descPart n nrem p)).2 (ev c (kas_descPart n nrem p)).1 := by
  unfold kas_descPart
  rw [ev_bind]
  obtain ⟨a1, a2, a3, a4, a5, a6⟩ := desc_ok o (nrem - (n + 1)) p (n + 1) 0 (by omega) (by omega) h (by
    intro i j hi hi' hj hj'
    have : i = j := by omega
    subst this; exact o.irr _)
  generalize ev c (kas_desc (nrem - (n + 1)) p (n + 1) 0) = r at *
  obtain ⟨p1, n1, q1⟩ := r
  dsimp only at *
  have hsz : p1.size = p.size := a1.size_eq
  by_cases hq : q1 > 0
  · rw [if_pos hq]
    obtain ⟨b1, b2, b3, b4⟩ := tail3_ok o (p := kas_rev p1 (n1 - (q1 + 1)) n1) (n := n1) (nrem := nrem) (by omega) (by omega) (by rw [rev_size]; omega) (by
      intro i j hij hj
      rw [pg_rev (by omega), pg_rev (by omega)]
      by_cases ei : n1 - (q1 + 1) ≤ i ∧ i < n1
      · rw [if_pos ei, if_pos ⟨by omega, by omega⟩]
        exact a6 _ _ (by omega) (by omega) (by omega) (by omega)
      · rw [if_neg ei]
        by_cases ej : n1 - (q1 + 1) ≤ j ∧ j < n1
        · rw [if_pos ej]; exact a5 _ _ (by omega) (by omega)
        · rw [if_neg ej]; exact a5 _ _ hij (by omega))
    exact ⟨b1.trans ((rev_perm _ _ _).trans a1), b2, b3, b4⟩
  · rw [if_neg hq]
    obtain ⟨b1, b2, b3, b4⟩ := tail3_ok o (p := p1) (n := n1) (nrem := nrem) (by omega) (by omega) (by omega) a5
    exact ⟨b1.trans a1, b2, b3, b4⟩
theorem count_ok (o : LO c) {p : Array Nat} {n : Nat} (h1 : 1 ≤ n) (hz : n ≤ p.size) :
    (ev c (kas_count n p)).2.Perm p ∧ 1 ≤ (ev c (kas_count n p)).1 ∧ (ev c (kas_count n p)).1 ≤ n ∧ Up c (ev c (kas_count n p)).2 (ev c (kas_count n p)).1 := by
  unfold kas_count
  rw [ev_bind]
  obtain ⟨a1, a2, a3, a4⟩ := asc_ok o (p := p) (n - 1) 1 (Nat.le_refl _) (by intro i j hij hj; omega)
  generalize ev c (kas_asc p (n - 1) 1) = m at *
  by_cases e : (m == n) = true
  · rw [if_pos e]
    have : m = n := by simpa using e
    exact ⟨.refl _, by show 1 ≤ m; omega, by show m ≤ n; omega, a3⟩
  · rw [if_neg e]
    have hmn : m < n := by
      have : m ≠ n := by simpa using e
      omega
    have a5 := a4 (by omega)
    by_cases hm : m > 1
    · rw [if_pos hm]
      simp only [ev]
      cases hc : c (pg p 0) (pg p (m - 1)) with
      | true =>
        simp only [if_true, ev, hc]
        exact ⟨.refl _, a1, by omega, a3⟩
      | false =>
        simp only [Bool.false_eq_true, if_false, ev, hc]
        have all : ∀ i j, i < m → j < m → c (pg p i) (pg p j) = false := by
          intro i j hi hj
          have l0 : c (pg p (m - 1)) (pg p j) = false := by
            by_cases ej : j = m - 1
            · rw [ej]; exact o.irr _
            · exact a3 j (m - 1) (by omega) (by omega)
          have r0 : c (pg p i) (pg p 0) = false := by
            by_cases ei : i = 0
            · rw [ei]; exact o.irr _
            · exact a3 0 i (by omega) hi
          have hup : c (pg p 0) (pg p j) = false := by
            by_cases ej : j = m - 1
            · rw [ej]; exact hc
            · have := a3 j (m - 1) (by omega) (by omega)
              exact o.tr _ _ _ this hc
          have hdn : c (pg p i) (pg p (m - 1)) = false := by
            by_cases ei : i = m - 1
            · rw [ei]; exact o.irr _
            · exact o.tr _ _ _ hc r0
          exact o.tr _ _ _ hup r0
        obtain ⟨b1, b2, b3, b4⟩ := descPart_ok o (p := kas_rev p 0 m) (n := m) (nrem := n) (by omega) (by omega) (by rw [rev_size]; omega) (by
          intro i j hij hj
          rw [pg_rev (by omega), pg_rev (by omega), if_pos ⟨by omega, by omega⟩]
          by_cases ej : j < m
          · rw [if_pos ⟨by omega, ej⟩]; exact all _ _ (by omega) (by omega)
          · have : j = m := by omega
            subst this
            rw [if_neg (by omega)]
            refine o.tr _ _ _ (o.asym _ _ a5) ?_
            exact all _ _ (by omega) (by omega))
        exact ⟨b1.trans (rev_perm _ _ _), b2, b3, b4⟩
    · rw [if_neg hm]
      have : m = 1 := by omega
      subst this
      exact descPart_ok o (by omega) (by omega) hz (by
        intro i j hij hj
        have : i = 0 := by omega
        have : j = 1 := by omega
        subst i j
        exact o.asym _ _ a5)

theorem place_ok (o : LO c) {p : Array Nat} {k : Nat} (hu : Up c p k) : ∀ f l r, l ≤ r → r ≤ k → r - l ≤ f → (∀ i, i < l → c (pg p k) (pg p i) = false) → (∀ i, r ≤ i → i < k → c (pg p k) (pg p i) = true) →
    ev c (kas_place p k f l r) ≤ k ∧ (∀ i, i < ev c (kas_place p k f l r) → c (pg p k) (pg p i) = false) ∧ (∀ i, ev c (kas_place p k f l r) ≤ i → i < k → c (pg p k) (pg p i) = true)
  | 0, l, r, h1, h2, h3, h4, h5 => by
    have : l = r := by omega
    subst this
    exact ⟨h2, h4, h5⟩
  | f + 1, l, r, h1, h2, h3, h4, h5 => by
    unfold kas_place
    by_cases e : l ≥ r
    · rw [if_pos e]
      have : l = r := by omega
      subst this
      exact ⟨h2, h4, h5⟩
    · rw [if_neg e]
      show ev c (if c (pg p k) (pg p ((l + r) / 2)) = true then _ else _) ≤ k ∧ _
      cases hc : c (pg p k) (pg p ((l + r) / 2)) with
      | true =>
        simp only [if_true, ev, hc]
        refine place_ok o hu f l ((l + r) / 2) (by omega) (by omega) (by omega) h4 ?_
        intro i hi hik
        by_cases ei : i = (l + r) / 2
        · rw [ei]; exact hc
        · have := hu ((l + r) / 2) i (by omega) hik
          cases hb : c (pg p k) (pg p i) with
          | true => rfl
          | false =>
            have := o.tr _ _ _ this hb
            rw [hc] at this; cases this
      | false =>
        simp only [Bool.false_eq_true, if_false, ev, hc]
        refine place_ok o hu f ((l + r) / 2 + 1) r (by omega) h2 (by omega) ?_ h5
        intro i hi
        by_cases ei : i = (l + r) / 2
        · rw [ei]; exact hc
        · exact o.tr _ _ _ (hu i ((l + r) / 2) (by omega) (by omega)) hc
theorem bin_ok (o : LO c) : ∀ f (p : Array Nat) k, k + f ≤ p.size → Up c p k → (ev c (kas_bin f p k)).Perm p ∧ Up c (ev c (kas_bin f p k)) (k + f)
  | 0, p, k, _, h => ⟨.refl _, h⟩
  | f + 1, p, k, hz, h => by
    unfold kas_bin
    rw [ev_bind]
    obtain ⟨a1, a2, a3⟩ := place_ok o h k 0 k (Nat.zero_le _) (Nat.le_refl _) (Nat.le_refl _) (fun i hi => absurd hi (Nat.not_lt_zero _)) (fun i hi hk => by omega)
    generalize ev c (kas_place p k k 0 k) = l at *
    obtain ⟨b1, b2⟩ := bin_ok o f (bubble p k (k - l)) (k + 1) (by rw [bubble_size]; omega) (by
      intro i j hij hj
      have e : k - (k - l) = l := by omega
      rw [pg_bubble (by omega) (by omega), pg_bubble (by omega) (by omega), e]
      by_cases ei : i = l
      · rw [if_pos ei, if_neg (by omega), if_pos ⟨by omega, by omega⟩]
        exact o.asym _ _ (a3 _ (by omega) (by omega))
      · rw [if_neg ei]
        by_cases ei2 : l < i ∧ i ≤ k
        · rw [if_pos ei2, if_neg (by omega), if_pos ⟨by omega, by omega⟩]
          exact h _ _ (by omega) (by omega)
        · rw [if_neg ei2]
          by_cases ej : j = l
          · rw [if_pos ej]; exact a2 _ (by omega)
          · rw [if_neg ej]
            by_cases ej2 : l < j ∧ j ≤ k
            · rw [if_pos ej2]; exact h _ _ (by omega) (by omega)
            · rw [if_neg ej2]; exact h _ _ hij (by omega))
    exact ⟨b1.trans (bubble_perm _ _ _), by rw [show k + (f + 1) = k + 1 + f by omega]; exact b2⟩

/-- the library's sorting tree sorts -/
theorem sort_ok (o : LO c) {n : Nat} (h : 1 ≤ n) : (ev c (kas_sort n)).toList.Perm (List.range n) ∧ Up c (ev c (kas_sort n)) n := by
  unfold kas_sort
  rw [ev_bind]
  have hs : (List.toArray (List.range n)).size = n := by simp
  obtain ⟨a1, a2, a3, a4⟩ := count_ok o (p := List.toArray (List.range n)) h (by omega)
  generalize ev c (kas_count n (List.toArray (List.range n))) = r at *
  have hsz : r.2.size = n := by rw [a1.size_eq]; exact hs
  by_cases e : r.1 < n
  · rw [if_pos e]
    have em : max r.1 1 = r.1 := by omega
    rw [em]
    obtain ⟨b1, b2⟩ := bin_ok o (n - r.1) r.2 r.1 (by omega) a4
    refine ⟨?_, by rw [show n = r.1 + (n - r.1) by omega]; simpa [show r.1 + (n - r.1) - r.1 = n - r.1 by omega] using b2⟩
    have := (b1.trans a1).toList
    simpa using this
  · rw [if_neg e]
    have : r.1 = n := by omega
    refine ⟨?_, by rw [← this]; exact this ▸ a4⟩
    have := a1.toList
    simpa [ev] using this
end
end Mine
namespace Mine
open AutoSeq1 (wpAny_loadPart')
open MeetsSeq MeetsSeq3 SeqAt

theorem lt_rc {prog : Program} {w : World} {A : Around} {E : Value → Shared → Prop} {s : Shared} {a b : Int} {t u : Tok} {Q : Value → Shared → Prop} (h : Q (.bool (decide (a < b))) s) : wpAny (model prog w) A (richCompare .Lt (.int a t) (.int b u)) Q E s :=
  show wpAny (model prog w) A (compareOp .Lt (.int a t) (.int b u)) Q E s from lt_int h

section
variable {l b : Addr} {x0 x1 y0 y1 : Int} {t0 t1 u0 u1 : Tok} {n n2 : Nat} {items items2 : Array Value}
theorem lt_loop2 (hs : items.size = 2) (hs2 : items2.size = 2) : Meets (Builtin.«list.__eq__.loop» ⟨[.ref l, .ref b, rawInt 2, rawInt 0], []⟩)
    (fun _ R s => s.heap.get? l = some (listOf items n) ∧ s.heap.get? b = some (listOf items2 n2) ∧ R (.ok (.ret (.bool false))) s) := by
  intro prog w A R s h
  obtain ⟨hp, g, d, tk, os⟩ := s; obtain ⟨hl, hb, h⟩ := h
  have hi1 : items[Int.toNat 2]? = none := by simp [hs]
  have hi2 : items2[Int.toNat 2]? = none := by simp [hs2]
  wp_walk using wpAny_loadPart' hl, wpAny_loadPart' hb
  rw [hi1, hi2]
  wp_walk using wpAny_loadPart' hl, wpAny_loadPart' hb
  show R (.ok (.ret (.bool (decide (items.size < items2.size))))) _
  rw [hs, hs2]
  exact h
theorem lt_loop1 (hs : items.size = 2) (hs2 : items2.size = 2) (hi1 : items[Int.toNat 1]? = some (.int x1 t1)) (hi2 : items2[Int.toNat 1]? = some (.int y1 u1)) : Meets (Builtin.«list.__eq__.loop» ⟨[.ref l, .ref b, rawInt 1, rawInt 0], []⟩)
    (fun _ R s => s.heap.get? l = some (listOf items n) ∧ s.heap.get? b = some (listOf items2 n2) ∧ R (.ok (.ret (.bool (decide (x1 < y1))))) s) := by
  intro prog w A R s h
  obtain ⟨hp, g, d, tk, os⟩ := s; obtain ⟨hl, hb, h⟩ := h
  wp_walk using wpAny_loadPart' hl, wpAny_loadPart' hb
  rw [hi1, hi2]
  refine wpAny_bind (EqGives.int x1 y1 t1 u1 prog w _ _ _ _ ?_)
  cases he : x1 == y1 with
  | true =>
    have e : x1 = y1 := eq_of_beq he
    have e2 : decide (x1 < y1) = false := by rw [e]; simp
    rw [e2] at h
    wp_walk
    exact ⟨plainId_quiet plain_eq_loop _, codeAny_builtin entry_eq_loop (by
      rw [Around.under_plainId plain_eq_loop _]
      exact lt_loop2 hs hs2 prog w A R _ ⟨hl, hb, h⟩)⟩
  | false =>
    wp_walk using wpAny_loadPart' hl, wpAny_loadPart' hb
    rw [hi1, hi2]
    exact wpAny_bind (lt_rc (wpAny_pure h))
theorem lt_loop0 (hs : items.size = 2) (hs2 : items2.size = 2) (hi0 : items[Int.toNat 0]? = some (.int x0 t0)) (hj0 : items2[Int.toNat 0]? = some (.int y0 u0)) (hi1 : items[Int.toNat 1]? = some (.int x1 t1)) (hi2 : items2[Int.toNat 1]? = some (.int y1 u1)) : Meets (Builtin.«list.__eq__.loop» ⟨[.ref l, .ref b, rawInt 0, rawInt 0], []⟩)
    (fun _ R s => s.heap.get? l = some (listOf items n) ∧ s.heap.get? b = some (listOf items2 n2) ∧ R (.ok (.ret (.bool (decide (x0 < y0 ∨ (x0 = y0 ∧ x1 < y1)))))) s) := by
  intro prog w A R s h
  obtain ⟨hp, g, d, tk, os⟩ := s; obtain ⟨hl, hb, h⟩ := h
  wp_walk using wpAny_loadPart' hl, wpAny_loadPart' hb
  rw [hi0, hj0]
  refine wpAny_bind (EqGives.int x0 y0 t0 u0 prog w _ _ _ _ ?_)
  cases he : x0 == y0 with
  | true =>
    have e : x0 = y0 := eq_of_beq he
    have e2 : decide (x0 < y0 ∨ (x0 = y0 ∧ x1 < y1)) = decide (x1 < y1) := by rw [e]; simp
    rw [e2] at h
    wp_walk
    exact ⟨plainId_quiet plain_eq_loop _, codeAny_builtin entry_eq_loop (by
      rw [Around.under_plainId plain_eq_loop _]
      exact lt_loop1 hs hs2 hi1 hi2 prog w A R _ ⟨hl, hb, h⟩)⟩
  | false =>
    have e : x0 ≠ y0 := fun q => by rw [q] at he; simp at he
    have e2 : decide (x0 < y0 ∨ (x0 = y0 ∧ x1 < y1)) = decide (x0 < y0) := by simp [e]
    rw [e2] at h
    wp_walk using wpAny_loadPart' hl, wpAny_loadPart' hb
    rw [hi0, hj0]
    exact wpAny_bind (lt_rc (wpAny_pure h))
theorem list2_lt (hs : items.size = 2) (hs2 : items2.size = 2) (hi0 : items[Int.toNat 0]? = some (.int x0 t0)) (hj0 : items2[Int.toNat 0]? = some (.int y0 u0)) (hi1 : items[Int.toNat 1]? = some (.int x1 t1)) (hi2 : items2[Int.toNat 1]? = some (.int y1 u1)) : Meets (Builtin.«list.__lt__» ⟨[.ref l, .ref b], []⟩)
    (fun _ R s => s.heap.get? l = some (listOf items n) ∧ s.heap.get? b = some (listOf items2 n2) ∧ R (.ok (.ret (.bool (decide (x0 < y0 ∨ (x0 = y0 ∧ x1 < y1)))))) s) := by
  intro prog w A R s h
  obtain ⟨hp, g, d, tk, os⟩ := s; obtain ⟨hl, hb, h⟩ := h
  have f3 := AutoSeq1.sub_list_list
  wp_walk using wpAny_loadPart' hl, wpAny_loadPart' hb
  exact ⟨plainId_quiet plain_eq_loop _, codeAny_builtin entry_eq_loop (by
    rw [Around.under_plainId plain_eq_loop _]
    exact lt_loop0 hs hs2 hi0 hj0 hi1 hi2 prog w A R _ ⟨hl, hb, h⟩)⟩
end

/-- a list of two ints -/
abbrev ent (a : Int) (t : Tok) (b : Int) (u : Tok) (n : Nat) : Obj := listOf #[.int a t, .int b u] n
theorem ent_lt {prog : Program} {w : World} {A : Around} {E : Value → Shared → Prop} {s : Shared} {l b : Addr} {x0 x1 y0 y1 : Int} {t0 t1 u0 u1 : Tok} {n n2 : Nat} {Q : Value → Shared → Prop}
    (hl : s.heap.get? l = some (ent x0 t0 x1 t1 n)) (hb : s.heap.get? b = some (ent y0 u0 y1 u1 n2)) (hu : A.units < cLine) (h : Q (.bool (decide (x0 < y0 ∨ (x0 = y0 ∧ x1 < y1)))) s) :
    wpAny (model prog w) A (richCompare .Lt (.ref l) (.ref b)) Q E s :=
  richCompare_meets_room (op := .Lt) ⟨_, hl, rfl⟩ ⟨_, hb, rfl⟩ F.slot_list_lt F.entry_list_lt (F.args_list_lt_2 _ _) (list2_lt rfl rfl rfl rfl rfl rfl)
    ⟨hl, hb, show Value.bool _ ≠ Value.notImplemented ∧ Q (.bool (decide (x0 < y0 ∨ (x0 = y0 ∧ x1 < y1)))) s from ⟨(fun x => nomatch x), h⟩⟩ hu
end Mine
namespace Mine
open AutoSeq1 (wpAny_loadPart')
open MeetsSeq MeetsSeq3 SeqAt

/-- a tuple of two ints -/
abbrev tup (a : Int) (t : Tok) (b : Int) (u : Tok) (n : Nat) : Obj := { cls := .type "tuple", data := .seq #[.int a t, .int b u] n }
/-- the order of pairs -/
def ltP (x y : Int × Int) : Bool := decide (x.1 < y.1 ∨ (x.1 = y.1 ∧ x.2 < y.2))

theorem tupI_lt {l b : Addr} {x0 x1 y0 y1 : Int} {t0 t1 u0 u1 : Tok} {n n2 : Nat} {items items2 : Array Value} (hs : items.size = 2) (hs2 : items2.size = 2) (hz : items.toList.zip items2.toList = [(.int x0 t0, .int y0 u0), (.int x1 t1, .int y1 u1)]) : Meets (Builtin.«tuple.__lt__» ⟨[.ref l, .ref b], []⟩)
    (fun _ R s => s.heap.get? l = some { cls := .type "tuple", data := .seq items n } ∧ s.heap.get? b = some { cls := .type "tuple", data := .seq items2 n2 } ∧ R (.ok (.ret (.bool (ltP (x0, x1) (y0, y1))))) s) :=
  .of_wp fun prog w A R s h => by
    obtain ⟨hp, g, d, tk, os⟩ := s; obtain ⟨hl, hb, h⟩ := h
    have f2 := AutoSeq1.sub_tuple_tuple
    wp_walk using wpAny_loadPart' hl, wpAny_loadPart' hb
    rw [hz]
    unfold List.forIn'.loop
    refine wpAny_bind (wpAny_bind (EqGives.int x0 y0 t0 u0 prog w _ _ _ _ ?_))
    cases he : x0 == y0 with
    | false =>
      have e : x0 ≠ y0 := fun q => by rw [q] at he; simp at he
      have e2 : ltP (x0, x1) (y0, y1) = decide (x0 < y0) := by unfold ltP; simp [e]
      rw [e2] at h
      refine wpAny_bind (wpAny_rule (wpAny_bind (lt_rc ?_)))
      exact wpAny_pure (wpAny_pure (wpAny_pure ⟨_, rfl, h⟩))
    | true =>
      have e : x0 = y0 := eq_of_beq he
      have e2 : ltP (x0, x1) (y0, y1) = decide (x1 < y1) := by unfold ltP; simp [e]
      rw [e2] at h
      refine wpAny_pure ?_
      unfold List.forIn'.loop
      refine wpAny_bind (wpAny_bind (EqGives.int x1 y1 t1 u1 prog w _ _ _ _ ?_))
      cases he1 : x1 == y1 with
      | false =>
        refine wpAny_bind (wpAny_rule (wpAny_bind (lt_rc ?_)))
        exact wpAny_pure (wpAny_pure (wpAny_pure ⟨_, rfl, h⟩))
      | true =>
        have e1 : x1 = y1 := eq_of_beq he1
        have e3 : decide (x1 < y1) = false := by rw [e1]; simp
        rw [e3] at h
        refine wpAny_pure ?_
        unfold List.forIn'.loop
        refine wpAny_pure (wpAny_pure ⟨_, rfl, ?_⟩)
        rw [hs, hs2]
        exact h
theorem tup_lt {prog : Program} {w : World} {A : Around} {E : Value → Shared → Prop} {s : Shared} {l b : Addr} {x0 x1 y0 y1 : Int} {t0 t1 u0 u1 : Tok} {n n2 : Nat} {Q : Value → Shared → Prop}
    (hl : s.heap.get? l = some (tup x0 t0 x1 t1 n)) (hb : s.heap.get? b = some (tup y0 u0 y1 u1 n2)) (hu : A.units < cLine) (h : Q (.bool (ltP (x0, x1) (y0, y1))) s) :
    wpAny (model prog w) A (richCompare .Lt (.ref l) (.ref b)) Q E s :=
  richCompare_meets_room (op := .Lt) ⟨_, hl, rfl⟩ ⟨_, hb, rfl⟩ F.slot_tuple_lt F.entry_tuple_lt (F.args_tuple_lt_2 _ _) (tupI_lt (items := #[.int x0 t0, .int x1 t1]) (items2 := #[.int y0 u0, .int y1 u1]) rfl rfl rfl)
    ⟨hl, hb, show Value.bool _ ≠ Value.notImplemented ∧ Q (.bool (ltP (x0, x1) (y0, y1))) s from ⟨(fun x => nomatch x), h⟩⟩ hu

/-- the sort's own question of two pairs -/
theorem tup_key {prog : Program} {w : World} {A : Around} {E : Value → Shared → Prop} {s : Shared} {l b : Addr} {x0 x1 y0 y1 : Int} {t0 t1 u0 u1 : Tok} {n n2 : Nat} {Q : Bool → Shared → Prop}
    (hl : s.heap.get? l = some (tup x0 t0 x1 t1 n)) (hb : s.heap.get? b = some (tup y0 u0 y1 u1 n2)) (h : Q (ltP (x0, x1) (y0, y1)) s) :
    wpAny (model prog w) A (keyLt' (tuples' true) (.ref l) (.ref b)) Q E s := by
  refine kat_lt hl rfl hb rfl ?_
  refine kat_cons (EqGives.int x0 y0 t0 u0 prog w _ _ _ _ ?_)
  cases he : x0 == y0 with
  | false =>
    have e : x0 ≠ y0 := fun q => by rw [q] at he; simp at he
    have e2 : ltP (x0, x1) (y0, y1) = decide (x0 < y0) := by unfold ltP; simp [e]
    rw [e2] at h
    exact kat_no (by have := kat_lt_int (prog := prog) (w := w) (A := A) (E := fun _ _ => False) (t := t0) (u := u0) h; rw [keyLt'_oneType] at this; exact this)
  | true =>
    have e : x0 = y0 := eq_of_beq he
    have e2 : ltP (x0, x1) (y0, y1) = decide (x1 < y1) := by unfold ltP; simp [e]
    rw [e2] at h
    refine kat_yes (kat_cons (EqGives.int x1 y1 t1 u1 prog w _ _ _ _ ?_))
    cases he1 : x1 == y1 with
    | false => exact kat_no (kat_one _ _ (lt_int h))
    | true =>
      have e1 : x1 = y1 := eq_of_beq he1
      have e3 : decide (x1 < y1) = false := by rw [e1]; simp
      rw [e3] at h
      exact kat_yes (kat_nil h)
end Mine
namespace Mine
/-- the questions on the way are about places below n -/
def okAsk {α : Type} (c : Nat → Nat → Bool) (n : Nat) : KasT α → Prop
  | .ret _ => True
  | .ask i j k => i < n ∧ j < n ∧ okAsk c n (k (c i j))
theorem okAsk_bind {α β : Type} {c : Nat → Nat → Bool} {n : Nat} {f : α → KasT β} : ∀ {t : KasT α}, okAsk c n t → okAsk c n (f (ev c t)) → okAsk c n (t.bind f)
  | .ret _, _, h => h
  | .ask i j k, h1, h2 => ⟨h1.1, h1.2.1, okAsk_bind (t := k (c i j)) h1.2.2 h2⟩
theorem wp_of_ev' {α : Type} {c : Nat → Nat → Bool} {n : Nat} {cmp : Nat → Nat → (Bool → Shared → Prop) → Shared → Prop} {s : Shared}
    (hc : ∀ i j (C : Bool → Shared → Prop), i < n → j < n → C (c i j) s → cmp i j C s) {Q : α → Shared → Prop} : ∀ (t : KasT α), okAsk c n t → Q (ev c t) s → t.kasWp cmp Q s
  | .ret _, _, hq => hq
  | .ask i j k, h, hq => hc i j _ h.1 h.2.1 (wp_of_ev' hc (k (c i j)) h.2.2 hq)
section
variable {c : Nat → Nat → Bool} {n : Nat}
def AL (n : Nat) (p : Array Nat) : Prop := 0 < n ∧ ∀ x ∈ p, x < n
theorem AL.pg {p : Array Nat} (h : AL n p) (k : Nat) : Mine.pg p k < n := by
  unfold Mine.pg
  rw [Array.getD_eq_getD_getElem?]
  cases e : p[k]? with
  | none => exact h.1
  | some x => exact h.2 x (Array.mem_of_getElem? e)
theorem AL.perm {p q : Array Nat} (h : AL n p) (hp : q.Perm p) : AL n q := ⟨h.1, fun x hx => h.2 x (hp.mem_iff.mp hx)⟩
theorem ok_asc {p : Array Nat} (h : AL n p) : ∀ f k, okAsk c n (kas_asc p f k)
  | 0, _ => trivial
  | f + 1, k => by
    unfold kas_asc
    refine ⟨h.pg _, h.pg _, ?_⟩
    dsimp only
    split
    · trivial
    · exact ok_asc h f (k + 1)
theorem ok_desc : ∀ f (p : Array Nat) k q, AL n p → okAsk c n (kas_desc f p k q)
  | 0, _, _, _, _ => trivial
  | f + 1, p, k, q, h => by
    unfold kas_desc
    refine ⟨h.pg _, h.pg _, ?_⟩
    dsimp only
    split
    · split
      · exact ok_desc f _ _ _ (h.perm (rev_perm _ _ _))
      · exact ok_desc f _ _ _ h
    · refine ⟨h.pg _, h.pg _, ?_⟩
      dsimp only
      split
      · trivial
      · exact ok_desc f _ _ _ h
theorem desc_perm : ∀ f (p : Array Nat) k q, (ev c (kas_desc f p k q)).1.Perm p
  | 0, _, _, _ => .refl _
  | f + 1, p, k, q => by
    unfold kas_desc
    simp only [ev]
    split
    · split
      · exact (desc_perm f _ _ _).trans (rev_perm _ _ _)
      · exact desc_perm f _ _ _
    · simp only [ev]
      split
      · exact .refl _
      · exact desc_perm f _ _ _
theorem ok_tail3 {p : Array Nat} (h : AL n p) (a b : Nat) : okAsk c n (kas_tail3 a b p) := okAsk_bind (ok_asc (h.perm (rev_perm _ _ _)) _ _) trivial
theorem ok_descPart {p : Array Nat} (h : AL n p) (a b : Nat) : okAsk c n (kas_descPart a b p) := by
  refine okAsk_bind (ok_desc _ _ _ _ h) ?_
  have h1 : AL n (ev c (kas_desc (b - (a + 1)) p (a + 1) 0)).1 := h.perm (desc_perm _ _ _ _)
  split
  · exact ok_tail3 (h1.perm (rev_perm _ _ _)) _ _
  · exact ok_tail3 h1 _ _
theorem ok_count {p : Array Nat} (h : AL n p) (k : Nat) : okAsk c n (kas_count k p) := by
  refine okAsk_bind (ok_asc h _ _) ?_
  split
  · trivial
  · split
    · refine ⟨h.pg _, h.pg _, ?_⟩
      dsimp only
      split
      · trivial
      · exact ok_descPart (h.perm (rev_perm _ _ _)) _ _
    · exact ok_descPart h _ _
theorem ok_place {p : Array Nat} (h : AL n p) (k : Nat) : ∀ f l r, okAsk c n (kas_place p k f l r)
  | 0, _, _ => trivial
  | f + 1, l, r => by
    unfold kas_place
    split
    · trivial
    · refine ⟨h.pg _, h.pg _, ?_⟩
      dsimp only
      split
      · exact ok_place h k f _ _
      · exact ok_place h k f _ _
theorem ok_bin : ∀ f (p : Array Nat) k, AL n p → okAsk c n (kas_bin f p k)
  | 0, _, _, _ => trivial
  | f + 1, p, k, h => okAsk_bind (ok_place h k _ _ _) (ok_bin f _ _ (h.perm (bubble_perm _ _ _)))
theorem ok_sort (o : LO c) (h : 1 ≤ n) : okAsk c n (kas_sort n) := by
  have ha : AL n (List.toArray (List.range n)) := ⟨by omega, fun x hx => by simpa using hx⟩
  refine okAsk_bind (ok_count ha n) ?_
  have h1 := (count_ok o (p := List.toArray (List.range n)) (n := n) h (by simp)).1
  split
  · exact ok_bin _ _ _ (ha.perm h1)
  · trivial
end

/-- v is a tuple of the ledger, its pair is k -/
def PairIn (led : List (Addr × Obj)) (v : Value) (k : Int × Int) : Prop := ∃ a t u e, v = .ref a ∧ (a, tup k.1 t k.2 u e) ∈ led
theorem PairIn.mono {led led' : List (Addr × Obj)} {v : Value} {k : Int × Int} (h : PairIn led v k) (hs : ∀ p ∈ led, p ∈ led') : PairIn led' v k :=
  let ⟨a, t, u, e, hv, hm⟩ := h; ⟨a, t, u, e, hv, hs _ hm⟩
theorem lo_ltP : LO ltP := ⟨fun a b h => by unfold ltP at *; simp at *; omega, fun a b c h1 h2 => by unfold ltP at *; simp at *; omega⟩
theorem LO.comap {α β : Type} {lt : β → β → Bool} (o : LO lt) (f : α → β) : LO (fun a b => lt (f a) (f b)) := ⟨fun a b => o.asym _ _, fun a b c => o.tr _ _ _⟩
theorem ltOk_pairs {prog : Program} {w : World} {rest : List (Addr × Obj)} {vs : List Value} {K : Value → Int × Int} (h : ∀ v ∈ vs, PairIn rest v (K v)) : LtOk prog w rest (fun a b => ltP (K a) (K b)) vs := by
  intro x hx y hy A s Q E _ hu hn hq
  obtain ⟨a, t, u, e, hv, hm⟩ := h x hx
  obtain ⟨a', t', u', e', hv', hm'⟩ := h y hy
  have q := hq s.toks
  rw [hv, hv'] at q ⊢
  rw [← hv, ← hv'] at q
  exact tup_lt (hn _ hm) (hn _ hm') (by omega) q

section
variable {prog : Program} {w : World} {A : Around} {E : Value → Shared → Prop} {s : Shared} {h₀ : Heap} {L l : Addr} {m : Str → Option Value} {news : List (Addr × Obj)} {vs : List Value} {K : Value → Int × Int}
theorem katTups {h : Heap} : ∀ {vs : List Value}, (∀ v ∈ vs, PairIn news v (K v)) → News h₀ L h news → ∃ fs, KatTups h vs fs ∧ fs.length = vs.length ∧ ∀ f ∈ fs, ∃ i t, f = Value.int i t
  | [], _, _ => ⟨[], trivial, rfl, fun _ h => nomatch h⟩
  | v :: r, hp, N => by
    obtain ⟨fs, h1, h2, h3⟩ := katTups (vs := r) (fun x hx => hp x (.tail _ hx)) N
    obtain ⟨a, t, u, e, hv, hm⟩ := hp v (.head _)
    refine ⟨.int (K v).1 t :: fs, ?_, by simp [h2], ?_⟩
    · have e1 := N.get hm
      exact ⟨⟨a, _, _, _, hv, e1, rfl, rfl, rfl⟩, h1⟩
    · intro f hf
      rcases List.mem_cons.mp hf with rfl | hf
      · exact ⟨_, _, rfl⟩
      · exact h3 f hf
theorem sortedT {e : Nat} {Q : Value → Shared → Prop} (F : Fr h₀ L s.heap m) (N : News h₀ L s.heap news) (hl : (l, listOf vs.toArray e) ∈ news) (hp : ∀ v ∈ vs, PairIn news v (K v)) (h2 : 2 ≤ vs.length) (h64 : vs.length < 64)
    (h : ∀ D c h' ws, Fr h₀ L h' m → News h₀ L h' ((D, listOf (List.toArray ws) c) :: news) → (∀ q ∈ news, q.1 < D) → ws.Perm vs → ws.Pairwise (fun a b => ltP (K b) (K a) = false) → Q (.ref D) { s with heap := h' }) :
    wpAny (model prog w) A (call (.builtin "sorted") [.ref l]) Q E s := by
  refine kat_sorted F N (PySem.IsL.isList (n := e) (N.get hl)) h2 h64 fun D e1 h' F' N' hD => ?_
  have N2 : News h₀ L h' news := fun p hp => N' p (.tail _ hp)
  obtain ⟨fs, t1, t2, t3⟩ := katTups hp N2
  refine kat_kind (T := .type "int") t1 (by omega) (fun v hv => ?_) rfl ?_
  · obtain ⟨i, t, rfl⟩ := t3 v hv
    exact Looks.of_pure rfl
  · have o : LO (fun i j => ltP (K (vs.getD i Value.none)) (K (vs.getD j Value.none))) := lo_ltP.comap fun i => K (vs.getD i Value.none)
    have hmem : ∀ i, i < vs.length → vs.getD i Value.none ∈ vs := fun i hi => by
      rw [List.getD_eq_getElem?_getD, List.getElem?_eq_getElem hi]; exact List.getElem_mem hi
    refine wp_of_ev' (c := fun i j => ltP (K (vs.getD i Value.none)) (K (vs.getD j Value.none))) (n := vs.length) (fun i j C hi hj hC => ?_) _ (ok_sort o (by omega)) ?_
    · obtain ⟨a, t, u, e, hv, hm⟩ := hp _ (hmem i hi)
      obtain ⟨a', t', u', e', hv', hm'⟩ := hp _ (hmem j hj)
      show wpAny (model prog w) A.in1.in1 (keyLt' (tuples' true) (vs.getD i Value.none) (vs.getD j Value.none)) C (fun _ _ => False) _
      rw [hv, hv']
      exact tup_key (N2.get hm) (N2.get hm') hC
    · obtain ⟨p1, p2⟩ := sort_ok o (n := vs.length) (by omega)
      generalize ev (fun i j => ltP (K (vs.getD i Value.none)) (K (vs.getD j Value.none))) (kas_sort vs.length) = p at *
      have hlen : p.size = vs.length := by have := p1.length_eq; simpa using this
      refine KasFin.intro F' N' (.head fun q hq => Nat.ne_of_lt (hD q hq)) fun h'' c F'' N'' => h D c h'' _ F'' N'' hD ?_ ?_
      · refine (p1.map _).trans ?_
        have : (List.range vs.length).map (fun i => vs.getD i Value.none) = vs := by
          apply List.ext_getElem
          · simp
          · intro i h1 h2
            simp [h2]
        rw [this]
      · rw [List.pairwise_iff_getElem]
        intro i j hi hj hij
        simp only [List.length_map, Array.length_toList] at hi hj
        have := p2 i j hij (by omega)
        have ei : pg p i = p[i] := by unfold pg; simp [hi]
        have ej : pg p j = p[j] := by unfold pg; simp [hj]
        rw [ei, ej] at this
        simpa using this
end
end Mine
namespace Mine
section
variable {prog : Program} {w : World} {A : Around} {R : Result → Shared → Prop} {I S l : Addr} {vs : List Value} {St : Nat → Heap → Prop} {lt : Value → Value → Bool} {es : List (Addr × Obj)}

/-- the least so far -/
def Best (lt : Value → Value → Bool) (vs : List Value) (j : Nat) (v : Value) : Prop := v ∈ vs ∧ ∀ i, i < j → ∀ u, vs[i]? = some u → lt u v = false
theorem Best.more (o : LO lt) {j : Nat} {vb v : Value} (h : Best lt vs j vb) (hv : vs[j]? = some v) : Best lt vs (j + 1) (if lt v vb = true then v else vb) := by
  obtain ⟨h1, h2⟩ := h
  split
  · rename_i hb
    refine ⟨List.mem_of_getElem? hv, fun i hi u hu => ?_⟩
    rcases Nat.lt_or_ge i j with hlt | hge
    · exact o.tr _ _ _ (o.asym _ _ hb) (h2 i hlt u hu)
    · have e : i = j := by omega
      rw [e, hv] at hu
      cases hu
      exact o.irr _
  · rename_i hb
    refine ⟨h1, fun i hi u hu => ?_⟩
    rcases Nat.lt_or_ge i j with hlt | hge
    · exact h2 i hlt u hu
    · have e : i = j := by omega
      rw [e, hv] at hu
      cases hu
      simpa using hb

theorem min_turns (o : LO lt) (hh : A.handled = none) (hu : A.units + 100 < cLine) (W : Walks prog w A.in1 I [I, l] [I] vs.length (fun i v => vs.toArray[i]? = some v) St) (hlt : LtOk prog w es lt vs) (hSI : S ≠ I) (hSl : S ≠ l) (hes : ∀ p ∈ es, p.1 ≠ I ∧ p.1 ≠ S) :
    ∀ (k j : Nat) (s : Shared) (old : List Value) (c : Nat), vs.length - j = k → j ≤ vs.length → St j s.heap → (j = 0 ∧ old = [] ∧ 0 < vs.length ∨ 0 < j ∧ ∃ vb, old = [vb, vb] ∧ Best lt vs j vb) →
    s.heap.get? S = some { cls := .type "list", dict := none, data := .seq old.toArray c, slots := #[] } → (∀ p ∈ es, s.heap.get? p.1 = some p.2) →
    (∀ v h' tk, Best lt vs vs.length v → (∀ b o, b ≠ I → b ≠ S → s.heap.get? b = some o → h'.get? b = some o) → R (.ok (.ret v)) { s with heap := h', toks := tk }) →
    codeAny (model prog w) A (.builtin "min.loop" ⟨[.ref I, .none, .ref S], []⟩) R s := by
  have hname : (toString "min" ++ toString ".loop" : String) = "min.loop" := by decide
  have nw : ∀ {b : Addr}, b ≠ I → b ∉ [I] := fun h hm => h (List.mem_singleton.mp hm)
  have nf : ∀ {b : Addr}, b ∈ [I, l] → b ≠ S := fun h e => by
    rcases List.mem_cons.mp h with h | h
    · exact hSI (e.symm.trans h)
    · exact hSl (e.symm.trans (List.mem_singleton.mp h))
  intro k
  induction k with
  | zero =>
    intro j s old c hk hj hst hold hS hG hR
    have ej : j = vs.length := by omega
    subst ej
    obtain ⟨vb, rfl, hb⟩ : ∃ vb, old = [vb, vb] ∧ Best lt vs vs.length vb := by
      rcases hold with h | h
      · omega
      · exact h.2
    refine codeAny_builtin F.entry_min_loop ?_
    rw [Around.under_plainId F.plain_min_loop _]
    show wpAny _ A.in1 (seqItems? (.ref S) >>= _) _ _ s
    refine wpAny_bind (wpAny_seqItems hS rfl ?_)
    show wpAny _ A.in1 (tryCatch (pyNext (.ref I)) _ >>= _) _ _ s
    refine wpAny_bind (wpAny_tryCatch (W.done s _ _ hst fun h' tk hk' => ?_))
    show wpAny _ A.in1 (updateSeq S (fun _ => #[]) >>= _) _ _ _
    refine wpAny_bind (wpAny_updateSeq (hk' S _ (nw hSI) hS) rfl (wpAny_bind (wpAny_letGo (wpAny_pure ?_))))
    exact hR vb _ tk hb fun b o h1 h2 e => (Heap.get?_update_other _ _ (Ne.symm h2)).trans (hk' b o (nw h1) e)
  | succ k ih =>
    intro j s old c hk hj hst hold hS hG hR
    have hlt' : j < vs.length := by omega
    refine codeAny_builtin F.entry_min_loop ?_
    rw [Around.under_plainId F.plain_min_loop _]
    show wpAny _ A.in1 (seqItems? (.ref S) >>= _) _ _ s
    refine wpAny_bind (wpAny_seqItems hS rfl ?_)
    show wpAny _ A.in1 (tryCatch (pyNext (.ref I)) _ >>= _) _ _ s
    refine wpAny_bind (wpAny_tryCatch (W.item j s _ _ hlt' hst fun v h' tk hP hst' hk' => ?_))
    have hv : vs[j]? = some v := by simpa using hP
    have hS' := hk' S _ (nw hSI) hS
    have go : ∀ (nb : Value) (c' : Nat) (h2 : Heap) (tk : Nat), (∀ b o, b ≠ S → h'.get? b = some o → h2.get? b = some o) → h2.get? S = some { cls := .type "list", dict := none, data := .seq #[nb, nb] c', slots := #[] } → Best lt vs (j + 1) nb →
        codeAny (model prog w) A (.builtin "min.loop" ⟨[.ref I, .none, .ref S], []⟩) R { s with heap := h2, toks := tk } := by
      intro nb c' h2 tk hk2 hS2 hb
      refine ih (j + 1) _ [nb, nb] c' (by omega) (by omega) (W.frame _ _ _ hst' fun b hb o e => hk2 b o (nf hb) e) (.inr ⟨by omega, nb, rfl, hb⟩) hS2 (fun p hp => hk2 _ _ (hes p hp).2 (hk' _ _ (nw (hes p hp).1) (hG p hp))) fun v' h'' tk'' hb' hk'' => ?_
      exact hR v' h'' tk'' hb' fun b o h1 h3 e => hk'' b o h1 h3 (hk2 b o h3 (hk' b o (nw h1) e))
    rcases hold with ⟨rfl, rfl, _⟩ | ⟨_, vb, rfl, hb⟩
    · show wpAny _ A.in1 (updateSeq S (fun _ => #[v, v]) >>= _) _ _ _
      refine wpAny_bind (wpAny_updateSeq hS' rfl ?_)
      rw [hname]
      refine wpAny_pure ⟨plainId_quiet F.plain_min_loop _, go v _ _ _ (fun b o h3 e => (Heap.get?_update_other _ _ (Ne.symm h3)).trans e) (Heap.get?_update_self _ hS' rfl) ⟨List.mem_of_getElem? hv, fun i hi u hu => ?_⟩⟩
      have e : i = 0 := by omega
      rw [e, hv] at hu
      cases hu
      exact o.irr _
    · show wpAny _ A.in1 (tryCatch (holding [v, v] (richCompare .Lt v vb >>= _)) _ >>= _) _ _ _
      refine wpAny_bind (wpAny_tryCatch (wpAny_holding (wpAny_bind (hlt v (List.mem_of_getElem? hv) vb hb.1 _ _ _ _ hh (by show A.units + 1 + 60 < cLine; omega) (fun p hp => hk' _ _ (nw (hes p hp).1) (hG p hp)) ?_))))
      intro tk2
      refine wpAny_bind (wpAny_holding (wpAny_truthy_bool ?_))
      refine wpAny_bind (wpAny_letGo (wpAny_pure ?_))
      have hm := hb.more o hv
      cases hc : lt v vb with
      | true =>
        rw [if_pos hc] at hm
        simp only [if_true]
        refine wpAny_bind (wpAny_updateSeq hS' rfl (wpAny_bind (wpAny_letGo ?_)))
        rw [hname]
        exact wpAny_pure ⟨plainId_quiet F.plain_min_loop _, go v _ _ _ (fun b o h3 e => (Heap.get?_update_other _ _ (Ne.symm h3)).trans e) (Heap.get?_update_self _ hS' rfl) hm⟩
      | false =>
        rw [if_neg (by rw [hc]; decide)] at hm
        simp only [Bool.false_eq_true, if_false]
        refine wpAny_bind (wpAny_letGo ?_)
        rw [hname]
        exact wpAny_pure ⟨plainId_quiet F.plain_min_loop _, go vb _ _ _ (fun b o _ e => e) hS' hm⟩
end
theorem min_at {prog : Program} {w : World} {A : Around} {E : Value → Shared → Prop} {s : Shared} {h₀ : Heap} {L l : Addr} {m : Str → Option Value} {news es : List (Addr × Obj)} {vs : List Value} {n : Nat} {lt : Value → Value → Bool} {Q : Value → Shared → Prop}
    (o : LO lt) (hh : A.handled = none) (hu : A.units + 110 < cLine) (Fm : Fr h₀ L s.heap m) (N : News h₀ L s.heap news) (hl : (l, listOf vs.toArray n) ∈ news) (hes : ∀ p ∈ es, p ∈ news) (hlt : LtOk prog w es lt vs) (h0 : 0 < vs.length)
    (h : ∀ h' tk v, Fr h₀ L h' m → News h₀ L h' news → v ∈ vs → (∀ u ∈ vs, lt u v = false) → Q v { s with heap := h', toks := tk }) :
    wpAny (model prog w) A (call (.builtin "min") [.ref l]) Q E s := by
  have hname : (toString "min" ++ toString ".loop" : String) = "min.loop" := by decide
  refine call_function_tree F.kind_min F.plain_min F.entry_min (F.args_min1 _) ?_
  show wpAny _ A.in1 (Builtin.Builtins.bindParams "min" ["key", "default"] 0 ⟨[], []⟩ >>= _) _ _ s
  refine wpAny_bind (wpAny_of_eq (show Builtin.Builtins.bindParams "min" ["key", "default"] 0 ⟨[], []⟩ = pure [none, none] from rfl) ?_)
  refine wpAny_bind (wpAny_pure ?_)
  have hl0 := N _ hl
  have hls : s.heap.IsList l vs.toArray := PySem.IsL.isList (n := n) hl0.1
  have hll : l < s.heap.objs.size := Heap.lt_size hl0.1
  refine wpAny_bind (wpAny_pyIter_list hls ?_)
  refine wpAny_bind (wpAny_newObj_type ?_)
  rw [hname]
  have W := Walks.list (prog := prog) (w := w) (A := A.in1) hh s.heap.objs.size l (Nat.ne_of_lt hll) vs.toArray
  rw [List.size_toArray] at W
  have up : ∀ (o1 o2 : Obj) b o, s.heap.get? b = some o → ((s.heap.push o1).push o2).get? b = some o := fun o1 o2 b o e => Heap.get?_push_of_some _ (Heap.get?_push_of_some _ e)
  have sz : ∀ o1 : Obj, (s.heap.push o1).objs.size = s.heap.objs.size + 1 := fun o1 => Heap.size_push ..
  refine wpAny_pure ⟨plainId_quiet F.plain_min_loop _, min_turns (es := es) (vs := vs) (l := l) o hh (by omega) W hlt ?n1 ?n2 ?n3 vs.length 0 _ [] 0 rfl (Nat.zero_le _) ?st (.inl ⟨rfl, rfl, h0⟩) (Heap.get?_push_size _ rfl) ?g ?_⟩
  case n1 => rw [sz]; exact Nat.succ_ne_self _
  case n2 => rw [sz]; exact Nat.ne_of_gt (Nat.lt_succ_of_lt hll)
  case n3 =>
    intro p hp
    have hq := Heap.lt_size (N p (hes p hp)).1
    exact ⟨Nat.ne_of_lt hq, by rw [sz]; exact Nat.ne_of_lt (Nat.lt_succ_of_lt hq)⟩
  case st => exact ⟨⟨_, Heap.get?_push_of_some _ (Heap.get?_push_size _ rfl), rfl, rfl⟩, hls.at fun o e => up _ _ _ _ e⟩
  case g => exact fun p hp => up _ _ _ _ (N p (hes p hp)).1
  intro v h' tk hb hk
  have keep : ∀ b o, s.heap.get? b = some o → h'.get? b = some o := fun b o e => by
    have hq := Heap.lt_size e
    exact hk b o (Nat.ne_of_lt hq) (by rw [sz]; exact Nat.ne_of_lt (Nat.lt_succ_of_lt hq)) (up _ _ _ _ e)
  refine h h' tk v (Fm.kept keep) (N.grown keep) hb.1 fun u hu => ?_
  obtain ⟨i, hi, rfl⟩ := List.getElem_of_mem hu
  exact hb.2 i hi _ (List.getElem?_eq_getElem hi)
end Mine
namespace Mine
/-- v is a list of two ints of the ledger, its pair is k -/
def EntIn (led : List (Addr × Obj)) (v : Value) (k : Int × Int) : Prop := ∃ a t u e, v = .ref a ∧ (a, ent k.1 t k.2 u e) ∈ led
theorem EntIn.mono {led led' : List (Addr × Obj)} {v : Value} {k : Int × Int} (h : EntIn led v k) (hs : ∀ p ∈ led, p ∈ led') : EntIn led' v k :=
  let ⟨a, t, u, e, hv, hm⟩ := h; ⟨a, t, u, e, hv, hs _ hm⟩
theorem ltOk_ents {prog : Program} {w : World} {rest : List (Addr × Obj)} {vs : List Value} {K : Value → Int × Int} (h : ∀ v ∈ vs, EntIn rest v (K v)) : LtOk prog w rest (fun a b => ltP (K a) (K b)) vs := by
  intro x hx y hy A s Q E _ hu hn hq
  obtain ⟨a, t, u, e, hv, hm⟩ := h x hx
  obtain ⟨a', t', u', e', hv', hm'⟩ := h y hy
  have q := hq s.toks
  rw [hv, hv'] at q ⊢
  rw [← hv, ← hv'] at q
  exact ent_lt (hn _ hm) (hn _ hm') (by omega) q

theorem ent_key {prog : Program} {w : World} {A : Around} {E : Value → Shared → Prop} {s : Shared} {l b : Addr} {x0 x1 y0 y1 : Int} {t0 t1 u0 u1 : Tok} {n n2 : Nat} {Q : Bool → Shared → Prop}
    (hl : s.heap.get? l = some (ent x0 t0 x1 t1 n)) (hb : s.heap.get? b = some (ent y0 u0 y1 u1 n2)) (hu : A.units < cLine) (h : Q (ltP (x0, x1) (y0, y1)) s) :
    wpAny (model prog w) A (keyLt' oneType' (.ref l) (.ref b)) Q E s := by
  rw [keyLt'_oneType, oneLt'_eq]
  simp only [if_true]
  refine wpAny_bind (wpAny_cRoomFor hu ?_)
  refine wpAny_bind (wpAny_callSpecialIfBound?_slot (T := "list") ⟨_, hl, rfl⟩ F.slot_list_lt (call_meets F.slot_list_lt ⟨_, hl, rfl⟩ F.entry_list_lt (F.args_list_lt_2 _ _) (list2_lt (n := n) (n2 := n2) (x0 := x0) (x1 := x1) (y0 := y0) (y1 := y1) rfl rfl rfl rfl rfl rfl) ⟨hl, hb, ?_⟩))
  exact wpAny_truthy_bool h

section
variable {prog : Program} {w : World} {A : Around} {E : Value → Shared → Prop} {s : Shared} {h₀ : Heap} {L l : Addr} {m : Str → Option Value} {news : List (Addr × Obj)} {vs : List Value} {K : Value → Int × Int}

theorem sort_one {a : Addr} {v : Value} {n : Nat} {P : PySem.Fin → Shared → Prop} (ho : s.heap.get? a = some (seqObj "list" #[v] n))
    (h : P (.done (.ret .none)) { s with heap := sortedHeap s.heap a [v] #[v] }) : wpAny (model prog w) A (Builtin.«list.sort» ⟨[.ref a], []⟩) P E s := by
  rw [list_sort_plain]
  have ha : a < s.heap.objs.size := Heap.lt_size ho
  refine wpAny_bind (listItems_at ho rfl ?_)
  refine wpAny_bind (listUpdate_at ho rfl ?_)
  obtain ⟨e1, ho1⟩ : ∃ e1, (s.heap.update a (Obj.mapSeq fun _ => #[])).get? a = some (seqObj "list" #[] e1) := ⟨_, get?_update_seq ho (fun _ => #[])⟩
  refine wpAny_bind (seqEpoch_at ho1 rfl ?_)
  refine wpAny_bind (wpAny_newTuple ?_)
  refine wpAny_bind (wpAny_newList ?_)
  refine wpAny_holding ?_
  have ho6 : (((s.heap.update a (Obj.mapSeq fun _ => #[])).push (seqObj "tuple" #[v] 0)).push (seqObj "list" #[] 0)).get? a = some (seqObj "list" #[] e1) := by
    rw [Heap.get?_push_ne _ _ _ (by rw [size_push', Heap.size_update]; exact Nat.ne_of_lt (Nat.lt_succ_of_lt ha)), Heap.get?_push_ne _ _ _ (by rw [Heap.size_update]; exact Nat.ne_of_lt ha)]
    exact ho1
  show wpAny (model prog w) A _ P E { s with heap := ((s.heap.update a (Obj.mapSeq fun _ => #[])).push (seqObj "tuple" #[v] 0)).push (seqObj "list" #[] 0) }
  dsimp only
  have h2 : (#[v] : Array Value).size < 2 := by simp
  rw [if_pos h2, if_pos h2]
  refine wpAny_bind (wpAny_pure ?_)
  rw [StateT.run_pure]
  refine wpAny_bind (wpAny_pure ?_)
  dsimp only
  refine wpAny_bind (seqEpoch_at ho6 rfl ?_)
  refine wpAny_bind (listUpdate_at ho6 rfl ?_ (hsz2 := by rw [Array.size_map]; show (Array.zip #[v] #[v]).size ≤ _; rw [Array.size_zip, sizeLine_eq]; exact Nat.le_of_ble_eq_true rfl))
  simp only [bne_self_eq_false, Bool.false_eq_true, if_false]
  have e : (arrOf (SortSt.mk' general' (Array.zip #[v] #[v]) #[] 7 none)).map (fun x => x.2) = #[v] := by
    show (Array.zip #[v] #[v]).map (fun x => x.2) = #[v]
    simp
  rw [e]
  exact wpAny_pure h

theorem sorted_one {v : Value} {e : Nat} {Q : Value → Shared → Prop} (Fm : Fr h₀ L s.heap m) (N : News h₀ L s.heap news) (hl : (l, listOf #[v] e) ∈ news)
    (h : ∀ D c h', Fr h₀ L h' m → News h₀ L h' ((D, listOf #[v] c) :: news) → (∀ q ∈ news, q.1 < D) → Q (.ref D) { s with heap := h' }) :
    wpAny (model prog w) A (call (.builtin "sorted") [.ref l]) Q E s := by
  have hls : s.heap.IsList l ([v] : List Value).toArray := PySem.IsL.isList (n := e) (N _ hl).1
  refine Calls.call_function_entry kind_sorted plain_sorted entry_sorted (args_sorted1 _) ?_
  unfold Builtin.«sorted»
  refine wpAny_bind (m := checkCount "sorted" 1 1 _) (wpAny_pure ?_)
  refine wpAny_bind (collect_list hls ?_ (by rw [sizeLine_eq]; exact Nat.le_of_ble_eq_true rfl))
  refine wpAny_bind (wpAny_newList ?_ (by rw [sizeLine_eq]; exact Nat.le_of_ble_eq_true rfl))
  have hsz : ((s.heap.push (seqObj "list" #[] 0)).update s.heap.objs.size (Obj.mapSeq (· ++ ([v] : List Value).toArray))).objs.size = s.heap.objs.size + 1 := by
    rw [Heap.size_update, size_push']
  have hoL : (((s.heap.push (seqObj "list" #[] 0)).update s.heap.objs.size (Obj.mapSeq (· ++ ([v] : List Value).toArray))).push (seqObj "list" #[v] 0)).get? (s.heap.objs.size + 1) = some (seqObj "list" #[v] 0) := by
    rw [← hsz]; exact Heap.get?_push_size _ rfl
  show wpAny _ _ _ _ _ { s with heap := ((s.heap.push (seqObj "list" #[] 0)).update s.heap.objs.size (Obj.mapSeq (· ++ ([v] : List Value).toArray))).push (seqObj "list" #[v] 0) }
  rw [hsz]
  refine wpAny_bind (wpAny_holding (wpAny_call_entry slot_list_sort ⟨_, hoL, rfl⟩ entry_list_sort (sort_one hoL ⟨_, rfl, ?_⟩) (args_list_sort _)))
  have keep : ∀ b o, s.heap.get? b = some o → (sortedAll s.heap [v] #[v]).get? b = some o := fun b o q => sortedAll_old q
  obtain ⟨c, hc⟩ := sortedAll_at s.heap [v] #[v]
  exact wpAny_pure ⟨_, rfl, h _ c _ (Fm.kept keep) (News.kept_cons Fm N keep (Nat.le_succ _) hc) fun q hq => Nat.lt_succ_of_lt (Heap.lt_size (N q hq).1)⟩

theorem sortedE {e : Nat} {Q : Value → Shared → Prop} (Fm : Fr h₀ L s.heap m) (N : News h₀ L s.heap news) (hl : (l, listOf vs.toArray e) ∈ news) (hp : ∀ v ∈ vs, EntIn news v (K v)) (h1 : 1 ≤ vs.length) (h64 : vs.length < 64) (hu : A.units + 10 < cLine)
    (h : ∀ D c h' ws, Fr h₀ L h' m → News h₀ L h' ((D, listOf (List.toArray ws) c) :: news) → (∀ q ∈ news, q.1 < D) → ws.Perm vs → ws.Pairwise (fun a b => ltP (K b) (K a) = false) → Q (.ref D) { s with heap := h' }) :
    wpAny (model prog w) A (call (.builtin "sorted") [.ref l]) Q E s := by
  rcases (show vs.length = 1 ∨ 2 ≤ vs.length by omega) with h2 | h2
  · obtain ⟨v, rfl⟩ := List.length_eq_one_iff.mp h2
    exact sorted_one Fm N hl fun D c h' F' N' hD => h D c h' [v] F' N' hD (.refl _) (List.pairwise_singleton _ _)
  · refine kas_sorted (T := .type "list") Fm N (PySem.IsL.isList (n := e) (N.get hl)) h2 h64 (fun h F' N' v hv => ?_) rfl fun D e1 h' F' N' hD => ?_
    · obtain ⟨a, t, u, e, rfl, hm⟩ := hp v hv
      exact (show Looks (model prog w) h (typeOf (.ref a)) (ent (K (.ref a)).1 t (K (.ref a)).2 u e).cls from (Looks.ld (N'.get hm)).andThen .now)
    · have N2 : News h₀ L h' news := fun p hp => N' p (.tail _ hp)
      have o : LO (fun i j => ltP (K (vs.getD i Value.none)) (K (vs.getD j Value.none))) := lo_ltP.comap fun i => K (vs.getD i Value.none)
      have hmem : ∀ i, i < vs.length → vs.getD i Value.none ∈ vs := fun i hi => by
        rw [List.getD_eq_getElem?_getD, List.getElem?_eq_getElem hi]; exact List.getElem_mem hi
      refine wp_of_ev' (c := fun i j => ltP (K (vs.getD i Value.none)) (K (vs.getD j Value.none))) (n := vs.length) (fun i j C hi hj hC => ?_) _ (ok_sort o (by omega)) ?_
      · obtain ⟨a, t, u, e, hv, hm⟩ := hp _ (hmem i hi)
        obtain ⟨a', t', u', e', hv', hm'⟩ := hp _ (hmem j hj)
        show wpAny (model prog w) A.in1.in1 (keyLt' oneType' (vs.getD i Value.none) (vs.getD j Value.none)) C (fun _ _ => False) _
        rw [hv, hv']
        exact ent_key (N2.get hm) (N2.get hm') (by show A.units + 1 + 1 < cLine; omega) hC
      · obtain ⟨p1, p2⟩ := sort_ok o (n := vs.length) (by omega)
        generalize ev (fun i j => ltP (K (vs.getD i Value.none)) (K (vs.getD j Value.none))) (kas_sort vs.length) = p at *
        have hlen : p.size = vs.length := by have := p1.length_eq; simpa using this
        refine KasFin.intro F' N' (.head fun q hq => Nat.ne_of_lt (hD q hq)) fun h'' c F'' N'' => h D c h'' _ F'' N'' hD ?_ ?_
        · refine (p1.map _).trans ?_
          have : (List.range vs.length).map (fun i => vs.getD i Value.none) = vs := by
            apply List.ext_getElem
            · simp
            · intro i h1 h2
              simp [h2]
          rw [this]
        · rw [List.pairwise_iff_getElem]
          intro i j hi hj hij
          simp only [List.length_map, Array.length_toList] at hi hj
          have := p2 i j hij (by omega)
          have ei : pg p i = p[i] := by unfold pg; simp [hi]
          have ej : pg p j = p[j] := by unfold pg; simp [hj]
          rw [ei, ej] at this
          simpa using this
end
end Mine
namespace Mine
section
variable {prog : Program} {w : World} {A : Around} {E : Value → Shared → Prop} {s : Shared} {env : Env} {h₀ : Heap} {x : Str} {body : List Stmt} {target : Expr} {Q : Flow → Shared → Prop}
/-- a for over a list of the ledger whose target is stored in any way (a cell) -/
theorem lp_turns {σ : Type} {l : Addr} {vs : List Value} {nn : Nat} {m₀ : Str → Option Value} (x : Str) (Led : σ → List (Addr × Obj)) (ps : σ → List (Str × Value)) (stored : List Str) (P : Nat → σ → Prop) (c₀ : σ)
    (hh : A.handled = none) (hl : ∀ i c, P i c → (l, listOf vs.toArray nn) ∈ Led c) (F : Fr h₀ env.locals s.heap m₀) (N : News h₀ env.locals s.heap (Led c₀)) (hk : ∀ p ∈ ps c₀, m₀ p.1 = some p.2) (hp : P 0 c₀)
    (turn : ∀ (i : Nat) (c : σ) v (u : Str → Option Value) h tk I oI, i < vs.length → vs[i]? = some v → P i c → (∀ p ∈ Led c, p.1 ≠ I) →
      Fr h₀ env.locals h (fun y => if y = x then u y else kstB (fun z => if stored.contains z then u z else m₀ z) (ps c) y) → News h₀ env.locals h ((I, oI) :: Led c) →
      wpAny (model prog w) A (assign target env v) (fun _ s₃ => wpAny (model prog w) A (execs body env) (LpPost h₀ env.locals I oI (KS Led ps x stored m₀ P (i + 1)) s Q) E s₃) E { s with heap := h, toks := tk })
    (done : ∀ (c : σ) (u : Str → Option Value) h tk, P vs.length c → Fr h₀ env.locals h (fun y => if y = x then u y else kstB (fun z => if stored.contains z then u z else m₀ z) (ps c) y) → News h₀ env.locals h (Led c) → Q .next { s with heap := h, toks := tk }) :
    wpAny (model prog w) A (pyIter (.ref l)) (fun it s₂ => TurnsAt prog w A h₀ env target body Q E it s₂) E s := by
  have hl0 := N _ (hl 0 c₀ hp)
  have hls : s.heap.IsList l vs.toArray := PySem.IsL.isList (n := nn) hl0.1
  have hne : l ≠ s.heap.objs.size := Nat.ne_of_lt (Heap.lt_size hl0.1)
  refine wpAny_pyIter_list hls ?_
  have W := Walks.list (prog := prog) (w := w) hh s.heap.objs.size l hne vs.toArray
  rw [List.size_toArray] at W
  refine ⟨_, _, _, vs.length, _, _, _, m₀, Led c₀, KS Led ps x stored m₀ P, rfl, KTurns.ofWalks W (fun i v s Q E st q => letGo_listiter st.1 q), ?_, ?_, ?_, ⟨⟨_, Heap.get?_push_size _ rfl, rfl, rfl⟩, hls.at fun o e => Heap.get?_push_of_some _ e⟩, F.push _, (fun p hp => ⟨Heap.get?_push_of_some _ (N p hp).1, (N p hp).2⟩), ⟨c₀, rfl, hk, fun _ _ _ _ => rfl, hp⟩, ?_, ?_⟩
  · intro hm
    rcases List.mem_cons.mp hm with e | hm
    · exact absurd F.ns.lt (e ▸ Nat.lt_irrefl _)
    · exact hl0.2.1 (List.mem_singleton.mp hm).symm
  · intro b hb
    rw [List.mem_singleton.mp hb]
    exact next_is_new F
  · intro p hp hI
    exact absurd (Heap.lt_size (N p hp).1) ((List.mem_singleton.mp hI) ▸ Nat.lt_irrefl _)
  · rintro i v m₁ nx h tk own hi hv ⟨c, rfl, h1, h2, hp'⟩ hoff hfp _ hown ⟨⟨oI, hst, hoI2⟩, hst2⟩ F₁ N₁
    have hI0 : h₀.get? s.heap.objs.size = none := next_is_new F
    have hoI := hown _ (.head _) hI0 _ hst
    have hlc := N₁ _ (List.mem_append_right _ (hl i c hp'))
    refine wpAny_mono (turn i c v m₁ h tk s.heap.objs.size oI hi (by simpa using hv) hp' (fun p hp e => hoff p hp (by rw [e]; exact .head _)) (kst_frOut h1 h2 F₁) (fun p hp => ?_)) (fun _ s₃ q => wpAny_mono q (fun f s₂ q => ?_) fun _ _ e => e) fun _ _ e => e
    · rcases List.mem_cons.mp hp with rfl | hp
      · exact N₁ _ (List.mem_append_left _ hoI)
      · exact N₁ _ (List.mem_append_right _ hp)
    · have fin : LpEnd h₀ env.locals s.heap.objs.size oI (KS Led ps x stored m₀ P (i + 1)) s s₂ → LoopStepU h₀ env.locals [s.heap.objs.size] own (KS Led ps x stored m₀ P (i + 1)) { s with heap := h, toks := tk } .next s₂ := by
        rintro ⟨h', tk', m', nx', rfl, F', N', hne', hJ'⟩
        refine ⟨rfl, h', tk', m', nx', rfl, F', fun p hp => ?_, fun p hp hq => hne' p hp (List.mem_singleton.mp hq), hJ'⟩
        rcases List.mem_append.mp hp with hp | hp
        · rcases List.mem_cons.mp (hfp p hp) with e1 | e1
          · have e2 : p.2 = oI := Option.some.inj ((N₁ p (List.mem_append_left _ hp)).1.symm.trans (by rw [e1]; exact hst))
            have e3 : p = (s.heap.objs.size, oI) := Prod.ext e1 e2
            rw [e3]
            exact N' _ (.head _)
          · have e1 := List.mem_singleton.mp e1
            have e2 : p.2 = listOf vs.toArray nn := Option.some.inj ((N₁ p (List.mem_append_left _ hp)).1.symm.trans (by rw [e1]; exact hlc.1))
            have e3 : p = (l, listOf vs.toArray nn) := Prod.ext e1 e2
            rw [e3]
            obtain ⟨c', rfl, _, _, hp9⟩ := hJ'
            exact N' _ (.tail _ (hl _ _ hp9))
        · exact N' _ (.tail _ hp)
      cases f with
      | ret v => exact .ret q
      | brk => exact .brk q
      | next => exact .next (fin q)
      | cont => exact .cont (fin q)
  · rintro h' tk m' nx F' N' _ ⟨c, rfl, h1, h2, hp'⟩
    exact done c m' h' tk hp' (kst_frOut h1 h2 F') N'
end
end Mine
namespace Mine
section
variable {prog : Program} {w : World} {A : Around} {h₀ : Heap} {L : Addr} {m : Str → Option Value} {env : Env} {ct elt : Expr} {x : Str} {scope : Scope} {cl : List (Str × Addr)} {s : Shared} {S : List (Addr × Obj) → Prop} {P : Nat → Value → Prop} {Fin : List Value → List (Addr × Obj) → Prop} {news : List (Addr × Obj)}

/-- a comprehension with a test, by a word over its turns; what it finds stands as it stood -/
theorem compT_inv {n : Nat} (J : Nat → List Value → Prop) (h0 : J 0 [])
    (turn : ∀ i v I oI C oC D m₂ ys h tk (E' : Value → Shared → Prop), i < n → P i v → J i ys → LCg.NsObj oC m₂ → m₂ x = some v → Fr h₀ L h m → News h₀ L h ((I, oI) :: (C, oC) :: (D, LCg.lst ys) :: news) → LCg.Off3 I C D news → ((@Ne Nat I C) ∧ (@Ne Nat I D) ∧ (@Ne Nat C D)) →
      wpAny (model prog w) A (isTrue ct (compEnvC scope cl C env) (eval ct (compEnvC scope cl C env))) (fun ok s' => if ok = true then
        wpAny (model prog w) A (eval elt (compEnvC scope cl C env)) (LCg.CompEnd h₀ L m { s with heap := h, toks := tk } I oI C oC D (LCg.lst ys) S (fun y news' => news' = news ∧ J (i + 1) (ys ++ [y]))) E' s'
        else LCg.CompEnd h₀ L m { s with heap := h, toks := tk } I oI C oC D (LCg.lst ys) S (fun _ news' => news' = news ∧ J (i + 1) ys) Value.none s') E' { s with heap := h, toks := tk })
    (fin : ∀ ys, J n ys → Fin ys news) : LCt.CompRestT prog w A h₀ L m env ct elt x scope cl s S P Fin n 0 [] news := by
  have key : ∀ (j i : Nat) (ys : List Value), i + j = n → J i ys → LCt.CompRestT prog w A h₀ L m env ct elt x scope cl s S P Fin j i ys news := by
    intro j
    induction j with
    | zero =>
      intro i ys hi hy
      have e : i = n := by omega
      subst e
      exact LCt.CompRestT.zero (fin ys hy)
    | succ j ih =>
      intro i ys hi hy
      refine LCt.CompRestT.succ ?_
      intro v I oI C oC D m₂ h tk E' hv hC hx F N off ne
      refine wpAny_mono (turn i v I oI C oC D m₂ ys h tk E' (by omega) hv hy hC hx F N off ne) (fun ok s₂ hq => ?_) fun _ _ e => e
      cases ok with
      | true =>
        simp only [if_true] at hq ⊢
        refine wpAny_mono hq (fun y s₃ hq => ?_) fun _ _ e => e
        obtain ⟨h', tk', nw, e, F', N', off', hS, hn, hJ⟩ := hq
        refine ⟨h', tk', nw, e, F', N', off', hS, ?_⟩
        rw [hn]
        exact ih (i + 1) _ (by omega) hJ
      | false =>
        simp only [Bool.false_eq_true, if_false] at hq ⊢
        obtain ⟨h', tk', nw, e, F', N', off', hS, hn, hJ⟩ := hq
        refine ⟨h', tk', nw, e, F', N', off', hS, ?_⟩
        rw [hn]
        exact ih (i + 1) _ (by omega) hJ
  exact key n 0 [] (by omega) h0

/-- a comprehension without a test, by a word over its turns and over what it makes -/
theorem comp_inv {n : Nat} (J : Nat → List Value → List (Addr × Obj) → Prop) (h0 : J 0 [] news)
    (turn : ∀ i v I oI C oC D m₂ ys nw h tk (E' : Value → Shared → Prop), i < n → P i v → J i ys nw → LCg.NsObj oC m₂ → m₂ x = some v → Fr h₀ L h m → News h₀ L h ((I, oI) :: (C, oC) :: (D, LCg.lst ys) :: nw) → LCg.Off3 I C D nw → ((@Ne Nat I C) ∧ (@Ne Nat I D) ∧ (@Ne Nat C D)) →
      wpAny (model prog w) A (eval elt (compEnvC scope cl C env)) (LCg.CompEnd h₀ L m { s with heap := h, toks := tk } I oI C oC D (LCg.lst ys) S (fun y news' => J (i + 1) (ys ++ [y]) news')) E' { s with heap := h, toks := tk })
    (fin : ∀ ys nw, J n ys nw → Fin ys nw) : LCg.CompRest prog w A h₀ L m env elt x scope cl s S P Fin n 0 [] news := by
  have key : ∀ (j i : Nat) (ys : List Value) (nw : List (Addr × Obj)), i + j = n → J i ys nw → LCg.CompRest prog w A h₀ L m env elt x scope cl s S P Fin j i ys nw := by
    intro j
    induction j with
    | zero =>
      intro i ys nw hi hy
      have e : i = n := by omega
      subst e
      exact LCg.CompRest.zero (fin ys nw hy)
    | succ j ih =>
      intro i ys nw hi hy
      refine LCg.CompRest.succ ?_
      intro v I oI C oC D m₂ h tk E' hv hC hx F N off ne
      refine wpAny_mono (turn i v I oI C oC D m₂ ys nw h tk E' (by omega) hv hy hC hx F N off ne) (fun y s₂ hq => ?_) fun _ _ e => e
      obtain ⟨h', tk', nw', e, F', N', off', hS, hJ⟩ := hq
      exact ⟨h', tk', nw', e, F', N', off', hS, ih (i + 1) _ _ (by omega) hJ⟩
  exact key n 0 [] news (by omega) h0
end
end Mine
namespace Mine
def defBody (p : Program) (i : Nat) : List Stmt := match p.main.body.drop i with | .FunctionDef _ _ b _ _ _ _ _ _ _ :: _ => b | _ => []
def defScope (p : Program) (i : Nat) : Scope := match p.main.body.drop i with | .FunctionDef _ _ _ _ _ _ sc _ _ _ :: _ => sc | _ => default
def forBody (l : List Stmt) : List Stmt := match l with | .For _ _ b _ _ :: _ => b | _ => []
section
variable {prog : Program} {w : World} {A : Around} {E : Value → Shared → Prop} {s : Shared} {h₀ : Heap} {L : Addr} {news : List (Addr × Obj)} {K : Value → Int × Int}
theorem ents_dat : ∀ {vs : List Value}, (∀ v ∈ vs, EntIn news v (K v)) → DatAll news vs (vs.map fun v => Dat.list [Dat.int (K v).1, Dat.int (K v).2])
  | [], _ => .nil
  | v :: r, h => .cons (by
      obtain ⟨a, t, u, e, hv, hm⟩ := h v (.head _)
      rw [hv] at hm ⊢
      exact .list (vs := [.int _ t, .int _ u]) hm (.cons (.int _ _) (.cons (.int _ _) .nil))) (ents_dat fun x hx => h x (.tail _ hx))
open Classical in
theorem ne_ents {a b : Addr} {k1 k2 : Nat} {vs ws : List Value} {Q : Value → Shared → Prop} (N : News h₀ L s.heap news) (ma : (a, listOf vs.toArray k1) ∈ news) (mb : (b, listOf ws.toArray k2) ∈ news) (hp : ∀ v ∈ vs, EntIn news v (K v)) (hq : ∀ v ∈ ws, EntIn news v (K v)) (hu : A.units + 64 < cLine)
    (h : Q (.bool (!decide (vs.map K = ws.map K))) s) : wpAny (model prog w) A (compareOp .NotEq (.ref a) (.ref b)) Q E s := by
  have hok : ∀ us : List Value, ∀ d ∈ (us.map fun v => Dat.list [Dat.int (K v).1, Dat.int (K v).2]), kqdOk 8 d = true := by
    intro us d hd
    obtain ⟨v, _, rfl⟩ := List.mem_map.mp hd
    rfl
  refine kqd_ne N ma rfl rfl (ents_dat hp) (fun _ h => h) mb rfl rfl (ents_dat hq) (fun _ h => h) (hok vs) (hok ws) hu ?_
  have inj : ∀ us vs : List Value, (us.map fun v => Dat.list [Dat.int (K v).1, Dat.int (K v).2]) = (vs.map fun v => Dat.list [Dat.int (K v).1, Dat.int (K v).2]) ↔ us.map K = vs.map K := by
    intro us
    induction us with
    | nil => intro vs; cases vs <;> simp
    | cons u us ih =>
      intro vs
      cases vs with
      | nil => simp
      | cons v vs =>
        simp only [List.map_cons, List.cons.injEq, ih vs, Dat.list.injEq, Dat.int.injEq, and_true]
        constructor
        · rintro ⟨h1, h2⟩; exact ⟨Prod.ext h1.1 h1.2, h2⟩
        · rintro ⟨h1, h2⟩; rw [h1]; exact ⟨⟨rfl, rfl⟩, h2⟩
  have e : decide ((vs.map fun v => Dat.list [Dat.int (K v).1, Dat.int (K v).2]) = (ws.map fun v => Dat.list [Dat.int (K v).1, Dat.int (K v).2])) = decide (vs.map K = ws.map K) := by
    by_cases hc : vs.map K = ws.map K
    · rw [decide_eq_true hc, decide_eq_true ((inj vs ws).mpr hc)]
    · rw [decide_eq_false hc, decide_eq_false fun q => hc ((inj vs ws).mp q)]
  rw [e]
  exact h
end
theorem sorted_same {l l' : List (Int × Int)} (hp : l.Perm l') (h1 : l.Pairwise (fun a b => ltP b a = false)) (h2 : l'.Pairwise (fun a b => ltP b a = false)) : l = l' := by
  refine hp.eq_of_pairwise (le := fun a b => ltP b a = false) (fun a b _ _ ha hb => ?_) h1 h2
  unfold ltP at ha hb
  simp only [decide_eq_false_iff_not] at ha hb
  exact Prod.ext (by omega) (by omega)
local macro_rules | `(tactic| walk_at "call ref") => `(tactic| refine Stop.out ?_)
local macro_rules | `(tactic| walk_at "CompSrcT") => `(tactic| refine Stop.out ?_)
local macro_rules | `(tactic| walk_at "call builtin:sorted") => `(tactic| refine Stop.out ?_)
local macro_rules | `(tactic| walk_at "compareOp NotEq ref ref") => `(tactic| refine Stop.out ?_)
local macro_rules | `(tactic| walk_at "eval ListComp") => `(tactic| refine Stop.out ?_)

theorem part_e (w : World) (mean : ExcName → Option Value) (mg mb : Str → Option Value) (h₀ : Heap) (L fa : Addr) (cd : Value) (base : Heap) (rest : List (Addr × Obj)) (s : Shared) (u : Str → Option Value)
    (ha ra : Addr) (hv rv : List Value) (hn rn : Nat) (och : Obj) (K : Value → Int × Int) (Q : Flow → Shared → Prop)
    (B : Below callerA base [] h₀) (X : (Mine.hd03.heap_39 w.params).In h₀) (T : Top Mine.hd03.view_39 (looseW Mine.hd03.view_39 []) mean mg mb h₀)
    (F : Fr h₀ L s.heap (fun y => if y = Str.ofString "row" then some (.ref ra) else u y))
    (N : News h₀ L s.heap ((ha, listOf hv.toArray hn) :: (ra, listOf rv.toArray rn) :: (L + 1 + 1, och) :: rest)) (hoc : och.data = .cell (some (.ref ha)))
    (he : ∀ v ∈ hv, EntIn rest v (K v)) (hr : ∀ v ∈ rv, EntIn rest v (K v)) (hp : (hv.map K).Perm (rv.map K)) (hH : Heap' (fun a b => ltP (K a) (K b)) hv) (hl1 : 1 ≤ hv.length) (hl2 : hv.length < 64)
    (hret : ∀ h' tk', Fr h₀ L h' (fun y => if y = Str.ofString "row" then some (.ref ra) else u y) → News h₀ L h' ((ha, listOf hv.toArray hn) :: (ra, listOf rv.toArray rn) :: (L + 1 + 1, och) :: rest) → Q .next { s with heap := h', toks := tk' }) :
    wpAny (model PySem.Challenge.rw_dp0035_03.row.prog w) (callerA.deeper (envOfC (Str.ofString "law") (defScope PySem.Challenge.pw_dp0035_03 5) L fa cd))
      (execs ((forBody ((defBody PySem.Challenge.pw_dp0035_03 5).drop 4)).drop 4) (envOfC (Str.ofString "law") (defScope PySem.Challenge.pw_dp0035_03 5) L fa cd)) Q (fun _ _ => False) s := by
  have hfill : PySem.Challenge.rw_dp0035_03 = PySem.Challenge.rw_dp0035_03 ∧ Mine.hd03.heap_39 = Mine.hd03.heap_39 := by
    k_fill
    exact ⟨rfl, rfl⟩
  clear hfill
  w_top off
  k_with_none
  conv in (List.drop 4 _) => whnf
  conv in (occs := *) (defScope _ _) => all_goals whnf
  k_steps
  refine Stop.go ?_
  have hok : LtOk PySem.Challenge.rw_dp0035_03.row.prog w rest (fun a b => ltP (K a) (K b)) hv := ltOk_ents he
  generalize hlt : (fun a b => ltP (K a) (K b)) = lt at hH hok
  have s3 : ∀ p ∈ rest, p ∈ (ha, listOf hv.toArray hn) :: (ra, listOf rv.toArray rn) :: (L + 1 + 1, och) :: rest := fun p hp => .tail _ (.tail _ (.tail _ hp))
  refine sortedE (K := K) F N (.head _) (fun v hv => (he v hv).mono s3) hl1 hl2 (Nat.le_of_ble_eq_true rfl) ?_
  intro D1 c1 h1 ws1 F1 N1 hD1 hw1 hs1
  have hlen : rv.length = hv.length := by have := hp.length_eq; simpa using this.symm
  k_steps
  refine Stop.go ?_
  refine sortedE (K := K) F1 N1 (.tail _ (.tail _ (.head _))) (fun v hv => (hr v hv).mono fun p hp => .tail _ (s3 p hp)) (by omega) (by omega) (Nat.le_of_ble_eq_true rfl) ?_
  intro D2 c2 h2 ws2 F2 N2 hD2 hw2 hs2
  k_steps
  refine Stop.go ?_
  have hsame : ws1.map K = ws2.map K := by
    refine sorted_same ((hw1.map K).trans (hp.trans (hw2.map K).symm)) ?_ ?_
    · rw [List.pairwise_map]; exact hs1
    · rw [List.pairwise_map]; exact hs2
  refine ne_ents (K := K) N2 (.tail _ (.head _)) (.head _) (fun v hv => (he v (hw1.mem_iff.mp hv)).mono fun p hp => .tail _ (.tail _ (s3 p hp))) (fun v hv => (hr v (hw2.mem_iff.mp hv)).mono fun p hp => .tail _ (.tail _ (s3 p hp))) (Nat.le_of_ble_eq_true rfl) ?_
  rw [decide_eq_true hsame]
  k_steps
  refine Stop.go ?_
  have N3 : News h₀ L h2 ((ha, listOf hv.toArray hn) :: (ra, listOf rv.toArray rn) :: (L + 1 + 1, och) :: rest) := news_sub N2 fun p hp => .tail _ (.tail _ hp)
  clear N2 N1 F1 N F
  k_dflt (refine LCt.ListComp_T (F₀ := F2) (by with_unfolding_all rfl) (by decide) (by rfl) (by decide) (by rfl) ?_)
  k_steps
  refine len_at N3 (.head _) (by omega) ?_
  intro t5 tk5
  k_steps
  refine Stop.go ?_
  rename IsRange _ _ _ _ _ _ _ _ => hR
  rename Fr _ _ _ (fun _ => _) => F6
  rename News _ _ _ ((ha, _) :: _) => N6
  refine LCt.CompSrcT.range (n := hv.length - 1) rfl F6 N6 hR (small_one (by omega) (by omega) (by omega) (by omega)) (by rw [rangeSize_nat]; omega) (by rw [sizeLine_eq]; omega) ?_
  intro g6
  refine compT_inv (fun _ ys => ys = []) rfl ?_ ?_
  · intro k v I7 oI7 C7 oC7 D7 m7 ys h7 tk7 E7 hk7 hv7 hys hC7 hx7 F7 N7 off7 ne7
    obtain ⟨t7, rfl⟩ := hv7
    subst hys
    k_steps
    have hm7 : (ha, listOf hv.toArray hn) ∈ (I7, oI7) :: (C7, oC7) :: (D7, LCg.lst []) :: (ha, listOf hv.toArray hn) :: (ra, listOf rv.toArray rn) :: (L + 1 + 1, och) :: rest := .tail _ (.tail _ (.tail _ (.head _)))
    refine item_at N7 hm7 (1 + k) (by omega) (by omega) (by omega) ?_
    k_steps
    refine item_at N7 hm7 (k / 2) ?kq (by omega) (by omega) ?_
    case kq => rw [Int.fdiv_eq_ediv_of_nonneg _ (by decide)]; omega
    k_steps
    refine hok _ (getD_mem (by omega)) _ (getD_mem (by omega)) _ _ _ _ rfl (Nat.le_of_ble_eq_true rfl) (fun q hq => (N7 q (.tail _ (.tail _ (.tail _ (s3 q hq))))).1) ?_
    intro tk8
    have hno := hH (1 + k) (by omega) (by omega)
    unfold Edge it at hno
    rw [show (1 + k - 1) / 2 = k / 2 by omega] at hno
    rw [hno]
    k_steps
    exact LCg.CompEnd.intro F7 N7 _ (fun p hp => hp) off7 trivial ⟨rfl, rfl⟩
  · intro ys hys
    subst hys
    k_steps
    refine Stop.go ?_
    rename News _ _ _ (_ :: _ :: (ha, listOf hv.toArray hn) :: _) => N8
    refine ne_ents (vs := []) (ws := []) (K := K) N8 (.tail _ (.head _)) (.head _) (fun _ h => nomatch h) (fun _ h => nomatch h) (Nat.le_of_ble_eq_true rfl) ?_
    rw [decide_eq_true rfl]
    k_steps
    rename Fr _ _ _ (fun _ => _) => F8
    exact hret _ _ F8 (news_sub N8 fun p hp => .tail _ (.tail _ hp))
end Mine
namespace Mine
section
variable {prog : Program} {w : World} {A : Around} {E : Value → Shared → Prop} {s : Shared} {h₀ : Heap} {L D : Addr} {news : List (Addr × Obj)} {a b : Int} {t u tk : Tok} {e : Nat} {value slice : Expr} {Q : Value → Shared → Prop}
theorem ent_fst (N : News h₀ L s.heap news) (hm : (D, ent a t b u e) ∈ news) (h : Q (.int a t) s)
    (hs : subscripted slice false (.ref D) (.int 0 tk) = operate [.ref D, .int 0 tk] (getItem (.ref D) (.int 0 tk)) := by with_unfolding_all rfl) (hg : ∀ r, letTemporaryGo value (.ref D) r = pure () := by intro _; with_unfolding_all rfl) :
    wpAny (model prog w) A (subscriptTail value slice (.ref D) (.int 0 tk)) Q E s := item_at (vs := [.int a t, .int b u]) N hm 0 rfl (by simp) (by simp) h hs hg
theorem ent_snd (N : News h₀ L s.heap news) (hm : (D, ent a t b u e) ∈ news) (h : Q (.int b u) s)
    (hs : subscripted slice false (.ref D) (.int 1 tk) = operate [.ref D, .int 1 tk] (getItem (.ref D) (.int 1 tk)) := by with_unfolding_all rfl) (hg : ∀ r, letTemporaryGo value (.ref D) r = pure () := by intro _; with_unfolding_all rfl) :
    wpAny (model prog w) A (subscriptTail value slice (.ref D) (.int 1 tk)) Q E s := item_at (vs := [.int a t, .int b u]) N hm 1 rfl (by simp) (by simp) h hs hg
end
theorem cat_at {prog : Program} {w : World} {A : Around} {E : Value → Shared → Prop} {s : Shared} {h₀ : Heap} {L l b : Addr} {m : Str → Option Value} {news : List (Addr × Obj)} {vs ws : List Value} {n1 n2 : Nat} {Q : Value → Shared → Prop} (F : Fr h₀ L s.heap m) (N : News h₀ L s.heap news) (hl : (l, listOf vs.toArray n1) ∈ news) (hb : (b, listOf ws.toArray n2) ∈ news) (hz : vs.length + ws.length ≤ 1000)
    (h : ∀ h' D, Fr h₀ L h' m → News h₀ L h' ((D, listOf (vs ++ ws).toArray 0) :: news) → (∀ p ∈ news, p.1 < D) → Q (.ref D) { s with heap := h' }) : wpAny (model prog w) A (binaryOp .Add (.ref l) (.ref b)) Q E s :=
  add_lists F N (PySem.IsL.isList (n := n1) (N _ hl).1) (PySem.IsL.isList (n := n2) (N _ hb).1) (fun h' F' N' => h h' _ F' N' fun p hp => Heap.lt_size (N p hp).1) (by rw [sizeLine_eq]; omega)
theorem news_13 {h₀ h : Heap} {L : Addr} {a b c d : Addr × Obj} {r : List (Addr × Obj)} (N : News h₀ L h (a :: b :: c :: d :: r)) : News h₀ L h (a :: c :: r) := news_sub N (fun p hp => by
  simp only [List.mem_cons] at hp ⊢
  rcases hp with h | h | h <;> (repeat (first | exact h | exact Or.inl h | apply Or.inr)))
local macro_rules | `(tactic| walk_at "call ref") => `(tactic| refine Stop.out ?_)
local macro_rules | `(tactic| walk_at "CompSrcT") => `(tactic| refine Stop.out ?_)
local macro_rules | `(tactic| walk_at "compareOp NotEq ref ref") => `(tactic| refine Stop.out ?_)
local macro_rules | `(tactic| walk_at "eval ListComp") => `(tactic| refine Stop.out ?_)
local macro_rules | `(tactic| walk_at "binaryOp Add ref ref") => `(tactic| refine Stop.out ?_)
local macro_rules | `(tactic| walk_at "execs cons") => `(tactic| ((with_reducible show wpAny _ _ (execs (Stmt.If (Expr.Compare (Expr.Call (Expr.Name (Str.ofString "sorted") _) _ _ _) _ _ _) _ _ _ :: _) _) _ _ _); refine Stop.out ?_))

theorem part_rk (w : World) (mean : ExcName → Option Value) (mg mb : Str → Option Value) (h₀ : Heap) (L fa : Addr) (cd : Value) (base : Heap) (rest : List (Addr × Obj)) (s : Shared) (u : Str → Option Value)
    (ka ra : Addr) (kv rv : List Value) (kn rn : Nat) (ocn : Obj) (nm : Int) (tn : Tok) (K : Value → Int × Int) (Q : Flow → Shared → Prop)
    (B : Below callerA base [] h₀) (X : (Mine.hd03.heap_39 w.params).In h₀) (T : Top Mine.hd03.view_39 (looseW Mine.hd03.view_39 []) mean mg mb h₀)
    (F : Fr h₀ L s.heap (fun y => if y = Str.ofString "known" then some (.ref ka) else if y = Str.ofString "row" then some (.ref ra) else u y))
    (N : News h₀ L s.heap ((ka, listOf kv.toArray kn) :: (ra, listOf rv.toArray rn) :: (L + 1 + 1 + 1, ocn) :: rest)) (hoc : ocn.data = .cell (some (.int nm tn)))
    (hr : ∀ v ∈ rv, EntIn rest v (K v)) (hkv : kv = rv.filter fun v => decide ((K v).2 = nm)) (hk0 : kv ≠ []) (hl2 : rv.length < 64)
    (hnext : ∀ h' tk' na ra' t1 t2 e rn', Fr h₀ L h' (fun y => if y = Str.ofString "row" then some (.ref ra') else if y = Str.ofString "known" then some (.ref ka) else if y = Str.ofString "row" then some (.ref ra) else u y) →
      News h₀ L h' ((ra', listOf ((rv.filter fun v => decide ((K v).2 ≠ nm)) ++ [Value.ref na]).toArray rn') :: (na, ent ((K (kv.getD 0 default)).1 + 1) t1 nm t2 e) :: (ka, listOf kv.toArray kn) :: (ra, listOf rv.toArray rn) :: (L + 1 + 1 + 1, ocn) :: rest) →
      (∀ p ∈ (ka, listOf kv.toArray kn) :: (ra, listOf rv.toArray rn) :: (L + 1 + 1 + 1, ocn) :: rest, p.1 ≠ na ∧ p.1 ≠ ra') → na ≠ ra' →
      wpAny (model PySem.Challenge.rw_dp0035_03.row.prog w) (callerA.deeper (envOfC (Str.ofString "law") (defScope PySem.Challenge.pw_dp0035_03 5) L fa cd))
        (execs ((forBody ((defBody PySem.Challenge.pw_dp0035_03 5).drop 4)).drop 4) (envOfC (Str.ofString "law") (defScope PySem.Challenge.pw_dp0035_03 5) L fa cd)) Q (fun _ _ => False) { s with heap := h', toks := tk' }) :
    wpAny (model PySem.Challenge.rw_dp0035_03.row.prog w) (callerA.deeper (envOfC (Str.ofString "law") (defScope PySem.Challenge.pw_dp0035_03 5) L fa cd))
      (execs ((forBody ((defBody PySem.Challenge.pw_dp0035_03 5).drop 4)).drop 3) (envOfC (Str.ofString "law") (defScope PySem.Challenge.pw_dp0035_03 5) L fa cd)) Q (fun _ _ => False) s := by
  have hfill : PySem.Challenge.rw_dp0035_03 = PySem.Challenge.rw_dp0035_03 ∧ Mine.hd03.heap_39 = Mine.hd03.heap_39 := by
    k_fill
    exact ⟨rfl, rfl⟩
  clear hfill
  w_top off
  k_with_none
  conv in (List.drop 3 _) => whnf
  conv in (occs := *) (defScope _ _) => all_goals whnf
  have s3 : ∀ p ∈ rest, p ∈ (ka, listOf kv.toArray kn) :: (ra, listOf rv.toArray rn) :: (L + 1 + 1 + 1, ocn) :: rest := fun p hp => .tail _ (.tail _ (.tail _ hp))
  have hkr : ∀ v ∈ kv, v ∈ rv := fun v hv => by rw [hkv] at hv; exact (List.mem_filter.mp hv).1
  k_steps
  refine Stop.go ?_
  rename News _ _ _ (_ :: (ka, listOf kv.toArray kn) :: _) => N1
  refine ne_ents (vs := kv) (ws := []) (K := K) N1 (.tail _ (.head _)) (.head _) (fun v hv => (hr v (hkr v hv)).mono fun p hp => .tail _ (s3 p hp)) (fun _ h => nomatch h) (Nat.le_of_ble_eq_true rfl) ?_
  rw [decide_eq_false (by simpa using hk0)]
  k_steps
  refine Stop.go ?_
  rename Fr _ _ _ (fun _ => _) => F1
  replace N1 := news_sub (l' := (ka, listOf kv.toArray kn) :: (ra, listOf rv.toArray rn) :: (L + 1 + 1 + 1, ocn) :: rest) N1 (fun p hp => .tail _ hp)
  k_dflt (refine LCt.ListComp_T (F₀ := F1) (by with_unfolding_all rfl) (by decide) (by rfl) (by decide) (by rfl) ?_)
  k_steps
  refine Stop.go ?_
  refine LCt.CompSrcT.ledger rfl F1 N1 (.tail _ (.head _)) (by rw [sizeLine_eq, List.size_toArray]; omega) ?_
  intro g2
  refine compT_inv (fun i ys => ys = (rv.take i).filter fun v => decide ((K v).2 ≠ nm)) rfl ?_ ?_
  · rintro i v I oI C oC D m₂ ys h tk E' hi hv hys hC hx F2 N2 off ne
    rw [List.size_toArray] at hi
    rw [List.getElem?_toArray] at hv
    obtain ⟨ea, t1, t2, ee, rfl, hem⟩ := hr v (List.mem_of_getElem? hv)
    have htk : rv.take (i + 1) = rv.take i ++ [Value.ref ea] := by rw [List.take_add_one, hv]; rfl
    k_steps
    refine ent_snd N2 (.tail _ (.tail _ (.tail _ (s3 _ hem)))) ?_
    k_steps
    · rename _ ≠ nm => hne
      refine LCg.CompEnd.intro F2 N2 _ (fun p hp => hp) off (.inr ⟨_, .tail _ (.head _), rfl, _, rfl⟩) ⟨rfl, ?_⟩
      rw [htk, List.filter_append, hys]
      simp [hne]
    · rename _ = nm => hne
      refine LCg.CompEnd.intro F2 N2 _ (fun p hp => hp) off (.inr ⟨_, .tail _ (.head _), rfl, _, rfl⟩) ⟨rfl, ?_⟩
      rw [htk, List.filter_append, hys]
      simp [hne]
  · intro ys hys
    rw [List.size_toArray, List.take_length] at hys
    k_steps
    rename Fr _ _ _ (fun _ => _) => F3
    rename News _ _ _ ((_, LCg.lst ys) :: (ka, listOf kv.toArray kn) :: _) => N3
    have hk1 : 0 < kv.length := List.length_pos_iff.mpr hk0
    refine item_at N3 (.tail _ (.head _)) 0 rfl hk1 (by have := List.length_filter_le (fun v => decide ((K v).2 = nm)) rv; rw [← hkv] at this; omega) ?_
    obtain ⟨ea, t1, t2, ee, hea, hem⟩ := hr _ (hkr _ (getD_mem hk1))
    rw [hea]
    k_steps
    refine ent_fst N3 (.tail _ (s3 _ hem)) ?_
    k_steps
    refine Stop.go ?_
    rename Fr _ _ _ (fun _ => _) => F4
    rename News _ _ _ (_ :: _ :: (_, LCg.lst ys) :: (ka, listOf kv.toArray kn) :: _) => N4
    rename _ < _ ∧ ka < _ ∧ ra < _ ∧ _ ∧ AllLt _ rest => hal
    have hyl : ys.length ≤ rv.length := by rw [hys]; exact List.length_filter_le ..
    refine cat_at F4 N4 (.tail _ (.tail _ (.head _))) (.head _) (by simp; omega) ?_
    intro h5 ra' F5 N5 hD5
    k_steps
    refine Stop.go ?_
    rename Fr _ _ _ (fun y => if y = Str.ofString "row" then _ else _) => F6
    rename News _ _ _ ((ra', _) :: _) => N6
    rw [hys] at N6
    refine hnext _ _ _ ra' _ _ _ _ F6 (news_13 N6) ?k2 ?k3
    case k2 =>
      intro p hp
      refine ⟨?_, Nat.ne_of_lt (hD5 p (.tail _ (.tail _ (.tail _ hp))))⟩
      simp only [List.mem_cons] at hp
      rcases hp with h | h | h | h
      · rw [h]; exact Nat.ne_of_lt hal.2.1
      · rw [h]; exact Nat.ne_of_lt hal.2.2.1
      · rw [h]; exact Nat.ne_of_lt hal.2.2.2.1
      · exact Nat.ne_of_lt (allLt_to hal.2.2.2.2 p h)
    case k3 => exact Nat.ne_of_lt (hD5 _ (.tail _ (.head _)))
end Mine
namespace Mine
theorem news_12 {h₀ h : Heap} {L : Addr} {a b c : Addr × Obj} {r : List (Addr × Obj)} (N : News h₀ L h (a :: b :: c :: r)) : News h₀ L h (a :: c :: r) := news_sub N (fun p hp => by
  simp only [List.mem_cons] at hp ⊢
  rcases hp with h | h | h <;> (repeat (first | exact h | exact Or.inl h | apply Or.inr)))
local macro_rules | `(tactic| walk_at "call ref") => `(tactic| refine Stop.out ?_)
local macro_rules | `(tactic| walk_at "CompSrcT") => `(tactic| refine Stop.out ?_)
local macro_rules | `(tactic| walk_at "compareOp NotEq ref ref") => `(tactic| refine Stop.out ?_)
local macro_rules | `(tactic| walk_at "eval ListComp") => `(tactic| refine Stop.out ?_)
local macro_rules | `(tactic| walk_at "binaryOp Add ref ref") => `(tactic| refine Stop.out ?_)
local macro_rules | `(tactic| walk_at "execs cons") => `(tactic| ((with_reducible show wpAny _ _ (execs (Stmt.If (Expr.Compare (Expr.Call (Expr.Name (Str.ofString "sorted") _) _ _ _) _ _ _) _ _ _ :: _) _) _ _ _); refine Stop.out ?_))

theorem part_rr (w : World) (mean : ExcName → Option Value) (mg mb : Str → Option Value) (h₀ : Heap) (L fa : Addr) (cd : Value) (base : Heap) (rest : List (Addr × Obj)) (s : Shared) (u : Str → Option Value)
    (ka ra : Addr) (kv rv : List Value) (kn rn : Nat) (ocn : Obj) (nm : Int) (tn : Tok) (W : Int) (tw : Tok) (K : Value → Int × Int) (Q : Flow → Shared → Prop)
    (B : Below callerA base [] h₀) (X : (Mine.hd03.heap_39 w.params).In h₀) (T : Top Mine.hd03.view_39 (looseW Mine.hd03.view_39 []) mean mg mb h₀)
    (F : Fr h₀ L s.heap (fun y => if y = Str.ofString "width" then some (.int W tw) else if y = Str.ofString "known" then some (.ref ka) else if y = Str.ofString "row" then some (.ref ra) else u y))
    (N : News h₀ L s.heap ((ka, listOf kv.toArray kn) :: (ra, listOf rv.toArray rn) :: (L + 1 + 1 + 1, ocn) :: rest)) (hoc : ocn.data = .cell (some (.int nm tn)))
    (hr : ∀ v ∈ rv, EntIn rest v (K v)) (hk0 : kv = []) (hl2 : rv.length < 64) (hW : (rv.length : Int) < W)
    (hnext : ∀ h' tk' na ra' t1 t2 e rn', Fr h₀ L h' (fun y => if y = Str.ofString "row" then some (.ref ra') else if y = Str.ofString "width" then some (.int W tw) else if y = Str.ofString "known" then some (.ref ka) else if y = Str.ofString "row" then some (.ref ra) else u y) →
      News h₀ L h' ((ra', listOf (rv ++ [Value.ref na]).toArray rn') :: (na, ent 1 t1 nm t2 e) :: (ka, listOf kv.toArray kn) :: (ra, listOf rv.toArray rn) :: (L + 1 + 1 + 1, ocn) :: rest) →
      (∀ p ∈ (ka, listOf kv.toArray kn) :: (ra, listOf rv.toArray rn) :: (L + 1 + 1 + 1, ocn) :: rest, p.1 ≠ na ∧ p.1 ≠ ra') → na ≠ ra' →
      wpAny (model PySem.Challenge.rw_dp0035_03.row.prog w) (callerA.deeper (envOfC (Str.ofString "law") (defScope PySem.Challenge.pw_dp0035_03 5) L fa cd))
        (execs ((forBody ((defBody PySem.Challenge.pw_dp0035_03 5).drop 4)).drop 4) (envOfC (Str.ofString "law") (defScope PySem.Challenge.pw_dp0035_03 5) L fa cd)) Q (fun _ _ => False) { s with heap := h', toks := tk' }) :
    wpAny (model PySem.Challenge.rw_dp0035_03.row.prog w) (callerA.deeper (envOfC (Str.ofString "law") (defScope PySem.Challenge.pw_dp0035_03 5) L fa cd))
      (execs ((forBody ((defBody PySem.Challenge.pw_dp0035_03 5).drop 4)).drop 3) (envOfC (Str.ofString "law") (defScope PySem.Challenge.pw_dp0035_03 5) L fa cd)) Q (fun _ _ => False) s := by
  have hfill : PySem.Challenge.rw_dp0035_03 = PySem.Challenge.rw_dp0035_03 ∧ Mine.hd03.heap_39 = Mine.hd03.heap_39 := by
    k_fill
    exact ⟨rfl, rfl⟩
  clear hfill
  w_top off
  k_with_none
  conv in (List.drop 3 _) => whnf
  conv in (occs := *) (defScope _ _) => all_goals whnf
  have s3 : ∀ p ∈ rest, p ∈ (ka, listOf kv.toArray kn) :: (ra, listOf rv.toArray rn) :: (L + 1 + 1 + 1, ocn) :: rest := fun p hp => .tail _ (.tail _ (.tail _ hp))
  subst hk0
  k_steps
  refine Stop.go ?_
  rename News _ _ _ (_ :: (ka, listOf (List.toArray []) kn) :: _) => N1
  refine ne_ents (vs := []) (ws := []) (K := K) N1 (.tail _ (.head _)) (.head _) (fun _ h => nomatch h) (fun _ h => nomatch h) (Nat.le_of_ble_eq_true rfl) ?_
  rw [decide_eq_true rfl]
  k_steps
  rename Fr _ _ _ (fun _ => _) => F1
  replace N1 := news_sub (l' := (ka, listOf (List.toArray []) kn) :: (ra, listOf rv.toArray rn) :: (L + 1 + 1 + 1, ocn) :: rest) N1 (fun p hp => .tail _ hp)
  refine len_at N1 (.tail _ (.head _)) (by omega) ?_
  intro t2 tk2
  k_steps
  refine Stop.go ?_
  rename Fr _ _ _ (fun _ => _) => F4
  rename News _ _ _ (_ :: _ :: (ka, _) :: _) => N4
  rename ka < _ ∧ ra < _ ∧ _ ∧ AllLt _ rest => hal
  refine cat_at F4 N4 (.tail _ (.tail _ (.tail _ (.head _)))) (.head _) (by simp; omega) ?_
  intro h5 ra' F5 N5 hD5
  k_steps
  refine Stop.go ?_
  rename Fr _ _ _ (fun y => if y = Str.ofString "row" then _ else _) => F6
  rename News _ _ _ ((ra', _) :: _) => N6
  refine hnext _ _ _ ra' _ _ _ _ F6 (news_12 N6) ?k2 ?k3
  case k2 =>
    intro p hp
    refine ⟨?_, Nat.ne_of_lt (hD5 p (.tail _ (.tail _ hp)))⟩
    simp only [List.mem_cons] at hp
    rcases hp with h | h | h | h
    · rw [h]; exact Nat.ne_of_lt hal.1
    · rw [h]; exact Nat.ne_of_lt hal.2.1
    · rw [h]; exact Nat.ne_of_lt hal.2.2.1
    · exact Nat.ne_of_lt (allLt_to hal.2.2.2 p h)
  case k3 => exact Nat.ne_of_lt (hD5 _ (.tail _ (.head _)))
end Mine
namespace Mine
theorem news_rf {h₀ h : Heap} {L : Addr} {a b c d x k r' n : Addr × Obj} {r : List (Addr × Obj)} (N : News h₀ L h (a :: b :: c :: d :: x :: k :: r' :: n :: r)) : News h₀ L h (a :: c :: k :: r' :: n :: x :: r) := news_sub N (fun p hp => by
  simp only [List.mem_cons] at hp ⊢
  rcases hp with h | h | h | h | h | h | h <;> (repeat (first | exact h | exact Or.inl h | apply Or.inr)))
open Classical in
theorem ent_ne {prog : Program} {w : World} {A : Around} {E : Value → Shared → Prop} {s : Shared} {h₀ : Heap} {L l b : Addr} {news : List (Addr × Obj)} {k k' : Int × Int} {t0 t1 u0 u1 : Tok} {n n2 : Nat} {Q : Value → Shared → Prop} (N : News h₀ L s.heap news)
    (hl : (l, ent k.1 t0 k.2 t1 n) ∈ news) (hb : (b, ent k'.1 u0 k'.2 u1 n2) ∈ news) (hu : A.units + 64 < cLine) (h : Q (.bool (!decide (k = k'))) s) :
    wpAny (model prog w) A (compareOp .NotEq (.ref l) (.ref b)) Q E s := by
  refine kqd_ne (xs := [.int k.1 t0, .int k.2 t1]) (ys := [.int k'.1 u0, .int k'.2 u1]) N hl rfl rfl (n₁ := []) (.cons (.int _ _) (.cons (.int _ _) .nil)) (fun _ h => nomatch h) hb rfl rfl (n₂ := []) (.cons (.int _ _) (.cons (.int _ _) .nil)) (fun _ h => nomatch h) ?_ ?_ hu ?_
  · intro d hd; simp only [List.mem_cons, List.not_mem_nil, or_false] at hd; rcases hd with rfl | rfl <;> rfl
  · intro d hd; simp only [List.mem_cons, List.not_mem_nil, or_false] at hd; rcases hd with rfl | rfl <;> rfl
  · have e : ([Dat.int k.1, Dat.int k.2] = [Dat.int k'.1, Dat.int k'.2]) ↔ k = k' := by
      simp only [List.cons.injEq, Dat.int.injEq, and_true]
      exact ⟨fun h => Prod.ext h.1 h.2, fun h => by rw [h]; exact ⟨rfl, rfl⟩⟩
    rw [show decide ([Dat.int k.1, Dat.int k.2] = [Dat.int k'.1, Dat.int k'.2]) = decide (k = k') from by
      by_cases hc : k = k'
      · rw [decide_eq_true hc, decide_eq_true (e.mpr hc)]
      · rw [decide_eq_false hc, decide_eq_false fun q => hc (e.mp q)]]
    exact h
local macro_rules | `(tactic| walk_at "call ref") => `(tactic| refine Stop.out ?_)
local macro_rules | `(tactic| walk_at "CompSrcT") => `(tactic| refine Stop.out ?_)
local macro_rules | `(tactic| walk_at "compareOp NotEq ref ref") => `(tactic| refine Stop.out ?_)
local macro_rules | `(tactic| walk_at "eval ListComp") => `(tactic| refine Stop.out ?_)
local macro_rules | `(tactic| walk_at "binaryOp Add ref ref") => `(tactic| refine Stop.out ?_)
local macro_rules | `(tactic| walk_at "execs cons") => `(tactic| ((with_reducible show wpAny _ _ (execs (Stmt.If (Expr.Compare (Expr.Call (Expr.Name (Str.ofString "sorted") _) _ _ _) _ _ _) _ _ _ :: _) _) _ _ _); refine Stop.out ?_))

local macro_rules | `(tactic| walk_at "call builtin:min") => `(tactic| refine Stop.out ?_)
local macro_rules | `(tactic| walk_at "storeName") => `(tactic| ((with_reducible show wpAny _ _ (storeName _ (Str.ofString "least") _) _ _ _); refine Stop.out ?_))
theorem part_rf (w : World) (mean : ExcName → Option Value) (mg mb : Str → Option Value) (h₀ : Heap) (L fa : Addr) (cd : Value) (base : Heap) (rest : List (Addr × Obj)) (s : Shared) (u : Str → Option Value)
    (ka ra : Addr) (kv rv : List Value) (kn rn : Nat) (ocn ocl : Obj) (cx : Option Value) (nm : Int) (tn : Tok) (W : Int) (tw : Tok) (K : Value → Int × Int) (Q : Flow → Shared → Prop)
    (B : Below callerA base [] h₀) (X : (Mine.hd03.heap_39 w.params).In h₀) (T : Top Mine.hd03.view_39 (looseW Mine.hd03.view_39 []) mean mg mb h₀)
    (F : Fr h₀ L s.heap (fun y => if y = Str.ofString "width" then some (.int W tw) else if y = Str.ofString "known" then some (.ref ka) else if y = Str.ofString "row" then some (.ref ra) else u y))
    (N : News h₀ L s.heap ((ka, listOf kv.toArray kn) :: (ra, listOf rv.toArray rn) :: (L + 1 + 1 + 1, ocn) :: (L + 1 + 1 + 1 + 1, ocl) :: rest)) (hol : ocl.data = .cell cx) (hll : ∀ p ∈ (ka, listOf kv.toArray kn) :: (ra, listOf rv.toArray rn) :: (L + 1 + 1 + 1, ocn) :: rest, p.1 ≠ L + 1 + 1 + 1 + 1) (hoc : ocn.data = .cell (some (.int nm tn)))
    (hr : ∀ v ∈ rv, EntIn rest v (K v)) (hk0 : kv = []) (hl2 : rv.length < 64) (hl3 : 1 ≤ rv.length) (hW : ¬ (rv.length : Int) < W)
    (hnext : ∀ h' tk' na ra' t1 t2 e rn' lv ocl', Fr h₀ L h' (fun y => if y = Str.ofString "row" then some (.ref ra') else if y = Str.ofString "width" then some (.int W tw) else if y = Str.ofString "known" then some (.ref ka) else if y = Str.ofString "row" then some (.ref ra) else u y) →
      News h₀ L h' ((ra', listOf ((rv.filter fun v => decide (K v ≠ K lv)) ++ [Value.ref na]).toArray rn') :: (na, ent ((K lv).1 + 1) t1 nm t2 e) :: (ka, listOf kv.toArray kn) :: (ra, listOf rv.toArray rn) :: (L + 1 + 1 + 1, ocn) :: (L + 1 + 1 + 1 + 1, ocl') :: rest) →
      lv ∈ rv → (∀ v ∈ rv, ltP (K v) (K lv) = false) → ocl'.data = .cell (some lv) →
      (∀ p ∈ (ka, listOf kv.toArray kn) :: (ra, listOf rv.toArray rn) :: (L + 1 + 1 + 1, ocn) :: (L + 1 + 1 + 1 + 1, ocl') :: rest, p.1 ≠ na ∧ p.1 ≠ ra') → na ≠ ra' →
      wpAny (model PySem.Challenge.rw_dp0035_03.row.prog w) (callerA.deeper (envOfC (Str.ofString "law") (defScope PySem.Challenge.pw_dp0035_03 5) L fa cd))
        (execs ((forBody ((defBody PySem.Challenge.pw_dp0035_03 5).drop 4)).drop 4) (envOfC (Str.ofString "law") (defScope PySem.Challenge.pw_dp0035_03 5) L fa cd)) Q (fun _ _ => False) { s with heap := h', toks := tk' }) :
    wpAny (model PySem.Challenge.rw_dp0035_03.row.prog w) (callerA.deeper (envOfC (Str.ofString "law") (defScope PySem.Challenge.pw_dp0035_03 5) L fa cd))
      (execs ((forBody ((defBody PySem.Challenge.pw_dp0035_03 5).drop 4)).drop 3) (envOfC (Str.ofString "law") (defScope PySem.Challenge.pw_dp0035_03 5) L fa cd)) Q (fun _ _ => False) s := by
  have hfill : PySem.Challenge.rw_dp0035_03 = PySem.Challenge.rw_dp0035_03 ∧ Mine.hd03.heap_39 = Mine.hd03.heap_39 := by
    k_fill
    exact ⟨rfl, rfl⟩
  clear hfill
  w_top off
  k_with_none
  conv in (List.drop 3 _) => whnf
  conv in (occs := *) (defScope _ _) => all_goals whnf
  have s3 : ∀ p ∈ rest, p ∈ (ka, listOf kv.toArray kn) :: (ra, listOf rv.toArray rn) :: (L + 1 + 1 + 1, ocn) :: rest := fun p hp => .tail _ (.tail _ (.tail _ hp))
  subst hk0
  k_steps
  refine Stop.go ?_
  rename News _ _ _ (_ :: (ka, listOf (List.toArray []) kn) :: _) => N1
  refine ne_ents (vs := []) (ws := []) (K := K) N1 (.tail _ (.head _)) (.head _) (fun _ h => nomatch h) (fun _ h => nomatch h) (Nat.le_of_ble_eq_true rfl) ?_
  rw [decide_eq_true rfl]
  k_steps
  rename Fr _ _ _ (fun _ => _) => F1
  replace N1 := news_sub (l' := (ka, listOf (List.toArray []) kn) :: (ra, listOf rv.toArray rn) :: (L + 1 + 1 + 1, ocn) :: (L + 1 + 1 + 1 + 1, ocl) :: rest) N1 (fun p hp => .tail _ hp)
  refine len_at N1 (.tail _ (.head _)) (by omega) ?_
  intro t2 tk2
  k_steps
  refine Stop.go ?_
  refine min_at (lt := fun a b => ltP (K a) (K b)) (es := rest) (lo_ltP.comap K) rfl (Nat.le_of_ble_eq_true rfl) F1 N1 (.tail _ (.head _)) (fun p hp => .tail _ (.tail _ (.tail _ (.tail _ hp)))) (ltOk_ents hr) (by omega) ?_
  intro h3 tk3 lv F3 N3 hlv1 hlv2
  k_steps
  refine Stop.go ?_
  k_dflt (refine storeX_C (c := L + 1 + 1 + 1 + 1) (g := fun o' => (L + 1 + 1 + 1 + 1, o') :: (ka, listOf (List.toArray []) kn) :: (ra, listOf rv.toArray rn) :: (L + 1 + 1 + 1, ocn) :: rest) F3 (news_sub N3 ?k1) rfl (UpdF.head hll) hol ?_)
  case k1 =>
    intro p hp
    simp only [List.mem_cons] at hp ⊢
    rcases hp with h | h | h | h | h <;> (repeat (first | exact h | exact Or.inl h | apply Or.inr))
  intro h4 ocl' F4 N4 hol'
  obtain ⟨ea, t1, t2', ee, rfl, hem⟩ := hr lv hlv1
  k_steps
  refine Stop.go ?_
  have s4 : ∀ p ∈ rest, p ∈ (L + 1 + 1 + 1 + 1, ocl') :: (ka, listOf (List.toArray []) kn) :: (ra, listOf rv.toArray rn) :: (L + 1 + 1 + 1, ocn) :: rest := fun p hp => .tail _ (.tail _ (.tail _ (.tail _ hp)))
  k_dflt (refine LCt.ListComp_T (F₀ := F4) (by with_unfolding_all rfl) (by decide) (by rfl) (by decide) (by rfl) ?_)
  k_steps
  refine Stop.go ?_
  refine LCt.CompSrcT.ledger rfl F4 N4 (.tail _ (.tail _ (.head _))) (by rw [sizeLine_eq, List.size_toArray]; omega) ?_
  intro g5
  refine compT_inv (fun i ys => ys = (rv.take i).filter fun v => decide (K v ≠ K (Value.ref ea))) rfl ?_ ?_
  · rintro i v I oI C oC D m₂ ys h tk E' hi hv hys hC hx F5 N5 off ne
    rw [List.size_toArray] at hi
    rw [List.getElem?_toArray] at hv
    obtain ⟨eb, t3, t4, ef, rfl, hem2⟩ := hr v (List.mem_of_getElem? hv)
    have htk : rv.take (i + 1) = rv.take i ++ [Value.ref eb] := by rw [List.take_add_one, hv]; rfl
    k_steps
    refine Stop.go ?_
    refine ent_ne N5 (.tail _ (.tail _ (.tail _ (s4 _ hem2)))) (.tail _ (.tail _ (.tail _ (s4 _ hem)))) (Nat.le_of_ble_eq_true rfl) ?_
    by_cases hc : K (Value.ref eb) = K (Value.ref ea)
    · rw [decide_eq_true hc]
      k_steps
      refine LCg.CompEnd.intro F5 N5 _ (fun p hp => hp) off (.inr ⟨_, .tail _ (.tail _ (.head _)), rfl, _, rfl⟩) ⟨rfl, ?_⟩
      rw [htk, List.filter_append, hys]
      simp [hc]
    · rw [decide_eq_false hc]
      k_steps
      refine LCg.CompEnd.intro F5 N5 _ (fun p hp => hp) off (.inr ⟨_, .tail _ (.tail _ (.head _)), rfl, _, rfl⟩) ⟨rfl, ?_⟩
      rw [htk, List.filter_append, hys]
      simp [hc]
  · intro ys hys
    rw [List.size_toArray, List.take_length] at hys
    k_steps
    rename Fr _ _ _ (fun _ => _) => F6
    rename News _ _ _ ((_, LCg.lst ys) :: (L + 1 + 1 + 1 + 1, ocl') :: _) => N6
    refine ent_fst N6 (.tail _ (s4 _ hem)) ?_
    k_steps
    refine Stop.go ?_
    rename Fr _ _ _ (fun _ => _) => F7
    rename News _ _ _ (_ :: _ :: (_, LCg.lst ys) :: _) => N7
    rename _ < _ ∧ _ < _ ∧ ka < _ ∧ ra < _ ∧ _ ∧ AllLt _ rest => hal
    have hyl : ys.length ≤ rv.length := by rw [hys]; exact List.length_filter_le ..
    refine cat_at F7 N7 (.tail _ (.tail _ (.head _))) (.head _) (by simp; omega) ?_
    intro h8 ra' F8 N8 hD8
    k_steps
    refine Stop.go ?_
    rename Fr _ _ _ (fun y => if y = Str.ofString "row" then _ else _) => F9
    rename News _ _ _ ((ra', _) :: _) => N9
    rw [hys] at N9
    refine hnext _ _ _ ra' _ _ _ _ (Value.ref ea) ocl' F9 (news_rf N9) hlv1 hlv2 hol' ?k2 ?k3
    case k2 =>
      intro p hp
      simp only [List.mem_cons] at hp
      rcases hp with h | h | h | h | h
      · rw [h]; exact ⟨Nat.ne_of_lt hal.2.2.1, Nat.ne_of_lt (hD8 _ (.tail _ (.tail _ (.tail _ (.tail _ (.head _))))))⟩
      · rw [h]; exact ⟨Nat.ne_of_lt hal.2.2.2.1, Nat.ne_of_lt (hD8 _ (.tail _ (.tail _ (.tail _ (.tail _ (.tail _ (.head _)))))))⟩
      · rw [h]; exact ⟨Nat.ne_of_lt hal.2.2.2.2.1, Nat.ne_of_lt (hD8 _ (.tail _ (.tail _ (.tail _ (.tail _ (.tail _ (.tail _ (.head _))))))))⟩
      · rw [h]; exact ⟨Nat.ne_of_lt hal.2.1, Nat.ne_of_lt (hD8 _ (.tail _ (.tail _ (.tail _ (.head _)))))⟩
      · exact ⟨Nat.ne_of_lt (allLt_to hal.2.2.2.2.2 p h), Nat.ne_of_lt (hD8 p (.tail _ (.tail _ (.tail _ (s4 p h)))))⟩
    case k3 => exact Nat.ne_of_lt (hD8 _ (.tail _ (.head _)))
end Mine
open PySem
namespace Mine
/-! ## law 03: the plain law of the table -/
/-- the table of at most W names behind the names of pre -/
def Tab (W : Nat) (pre : List Int) (T : List (Int × Int)) : Prop :=
  (T.map (·.2)).Nodup ∧ T.length ≤ W ∧ (∀ p ∈ T, 1 ≤ p.1) ∧ (T.map (·.1)).sum = (pre.length : Int) ∧
  ∃ m : Int, 0 ≤ m ∧ (T.length < W → m = 0) ∧ (∀ p ∈ T, m ≤ p.1 ∧ p.1 - m ≤ (pre.count p.2 : Int) ∧ (pre.count p.2 : Int) ≤ p.1) ∧ ∀ x, x ∉ T.map (·.2) → (pre.count x : Int) ≤ m

theorem sum_perm {l l' : List Int} (h : l.Perm l') : l.sum = l'.sum := by
  induction h with
  | nil => rfl
  | cons x _ ih => simp [ih]
  | swap x y l => simp; omega
  | trans _ _ h1 h2 => exact h1.trans h2

theorem Tab.start {W : Nat} : Tab W [] [] := by
  unfold Tab
  refine ⟨by simp, by simp, by simp, by simp, 0, by simp, by simp, by simp, by simp⟩
theorem Tab.perm {W : Nat} {pre : List Int} {T T' : List (Int × Int)} (h : Tab W pre T) (q : T.Perm T') : Tab W pre T' := by
  obtain ⟨h1, h2, h3, h4, m, h5, h6, h7, h8⟩ := h
  refine ⟨(q.map _).nodup_iff.mp h1, q.length_eq ▸ h2, fun p hp => h3 p (q.mem_iff.mpr hp), (sum_perm (q.map _)).symm.trans h4, m, h5, fun h => h6 (by rw [q.length_eq]; exact h), fun p hp => h7 p (q.mem_iff.mpr hp), fun x hx => h8 x fun hm => hx ((q.map _).mem_iff.mp hm)⟩
theorem count_more (pre : List Int) (x y : Int) : ((pre ++ [x]).count y : Int) = (pre.count y : Int) + if x = y then 1 else 0 := by
  rw [List.count_append]
  by_cases h : x = y
  · simp [h]
  · simp [h]
theorem Tab.known {W : Nat} {pre : List Int} {c x : Int} {T : List (Int × Int)} (h : Tab W pre ((c, x) :: T)) : Tab W (pre ++ [x]) ((c + 1, x) :: T) := by
  obtain ⟨h1, h2, h3, h4, m, h5, h6, h7, h8⟩ := h
  simp only [List.map_cons, List.nodup_cons] at h1
  refine ⟨by simpa using h1, h2, ?_, ?_, m, h5, h6, ?_, ?_⟩
  · intro p hp
    rcases List.mem_cons.mp hp with rfl | hp
    · have := h3 _ (.head _); dsimp only at *; omega
    · exact h3 p (.tail _ hp)
  · simp at h4 ⊢; omega
  · intro p hp
    rw [count_more]
    rcases List.mem_cons.mp hp with rfl | hp
    · have := h7 _ (.head _); dsimp only at *; rw [if_pos rfl]; omega
    · have := h7 p (.tail _ hp)
      rw [if_neg (fun e : x = p.2 => h1.1 (e ▸ List.mem_map_of_mem hp))]; omega
  · intro y hy
    rw [count_more]
    have := h8 y hy
    rw [if_neg (fun e => hy (by simp [e]))]; omega
theorem Tab.room {W : Nat} {pre : List Int} {x : Int} {T : List (Int × Int)} (h : Tab W pre T) (hl : T.length < W) (hx : x ∉ T.map (·.2)) : Tab W (pre ++ [x]) ((1, x) :: T) := by
  obtain ⟨h1, h2, h3, h4, m, h5, h6, h7, h8⟩ := h
  have hm := h6 hl
  subst hm
  refine ⟨by simp only [List.map_cons, List.nodup_cons]; exact ⟨hx, h1⟩, by simp only [List.length_cons]; omega, ?_, ?_, 0, h5, fun _ => rfl, ?_, ?_⟩
  · intro p hp
    rcases List.mem_cons.mp hp with rfl | hp
    · exact Int.le_refl _
    · exact h3 p hp
  · simp at h4 ⊢; omega
  · intro p hp
    rw [count_more]
    rcases List.mem_cons.mp hp with rfl | hp
    · have := h8 x hx; dsimp only at *; rw [if_pos rfl]; omega
    · have := h7 p hp
      rw [if_neg (fun e : x = p.2 => hx (e ▸ List.mem_map_of_mem hp))]; omega
  · intro y hy
    simp only [List.map_cons, List.mem_cons, not_or] at hy
    rw [count_more]
    have := h8 y hy.2
    rw [if_neg (Ne.symm hy.1)]; omega
theorem Tab.full {W : Nat} {pre : List Int} {c x y : Int} {T : List (Int × Int)} (h : Tab W pre ((c, y) :: T)) (hl : W ≤ T.length + 1) (hc : ∀ p ∈ T, c ≤ p.1) (hx : x ∉ ((c, y) :: T).map (·.2)) : Tab W (pre ++ [x]) ((c + 1, x) :: T) := by
  obtain ⟨h1, h2, h3, h4, m, h5, h6, h7, h8⟩ := h
  have hmc := h7 _ (.head _)
  have hcp := h3 _ (.head _)
  have hxm := h8 x hx
  simp only [List.map_cons, List.nodup_cons, List.mem_cons, not_or] at h1 hx
  dsimp only at hmc hcp
  refine ⟨by simp only [List.map_cons, List.nodup_cons]; exact ⟨hx.2, h1.2⟩, h2, ?_, ?_, c, by omega, fun h => absurd h (by simp only [List.length_cons]; omega), ?_, ?_⟩
  · intro p hp
    rcases List.mem_cons.mp hp with rfl | hp
    · dsimp only; omega
    · exact h3 p (.tail _ hp)
  · simp at h4 ⊢; omega
  · intro p hp
    rw [count_more]
    rcases List.mem_cons.mp hp with rfl | hp
    · dsimp only at *; rw [if_pos rfl]; omega
    · have := h7 p (.tail _ hp)
      have := hc p hp
      rw [if_neg (fun e : x = p.2 => hx.2 (e ▸ List.mem_map_of_mem hp))]; omega
  · intro z hz
    simp only [List.map_cons, List.mem_cons, not_or] at hz
    rw [count_more, if_neg (Ne.symm hz.1)]
    by_cases e : z = y
    · subst e; omega
    · have := h8 z (by simp only [List.map_cons, List.mem_cons, not_or]; exact ⟨e, hz.2⟩)
      omega

theorem name_uniq {T : List (Int × Int)} (nd : (T.map (·.2)).Nodup) {p q : Int × Int} (hp : p ∈ T) (hq : q ∈ T) (e : p.2 = q.2) : p = q := by
  induction T with
  | nil => nomatch hp
  | cons a T ih =>
    simp only [List.map_cons, List.nodup_cons] at nd
    rcases List.mem_cons.mp hp with h1 | h1 <;> rcases List.mem_cons.mp hq with h2 | h2
    · rw [h1, h2]
    · exact absurd (by rw [← h1, e]; exact List.mem_map_of_mem h2) nd.1
    · exact absurd (by rw [← h2, ← e]; exact List.mem_map_of_mem h1) nd.1
    · exact ih nd.2 h1 h2
theorem tab_nodup {T : List (Int × Int)} (nd : (T.map (·.2)).Nodup) : T.Nodup := (List.pairwise_map.mp nd).imp fun h e => h (congrArg _ e)
theorem perm_out {α : Type} [DecidableEq α] {T : List α} (nd : T.Nodup) {q : α} (hq : q ∈ T) : T.Perm (q :: T.filter fun p => decide (p ≠ q)) := by
  refine (List.perm_ext_iff_of_nodup nd ?_).mpr ?_
  · rw [List.nodup_cons]
    exact ⟨by simp, nd.filter _⟩
  · intro a
    simp only [List.mem_cons, List.mem_filter, decide_eq_true_eq]
    by_cases e : a = q
    · simp [e, hq]
    · simp [e]
theorem perm_name {T : List (Int × Int)} (nd : (T.map (·.2)).Nodup) {q : Int × Int} (hq : q ∈ T) : T.Perm (q :: T.filter fun p => decide (p.2 ≠ q.2)) := by
  have e : (T.filter fun p => decide (p.2 ≠ q.2)) = T.filter fun p => decide (p ≠ q) := by
    refine List.filter_congr fun p hp => ?_
    rw [decide_eq_decide]
    exact not_congr ⟨fun h => name_uniq nd hp hq h, fun h => congrArg _ h⟩
  rw [e]
  exact perm_out (tab_nodup nd) hq

/-! ## the same over values and their pairs -/
section
variable {α : Type} [Inhabited α]
open Classical in
/-- the pair of v is now k -/
noncomputable def upd (K : α → Int × Int) (v : α) (k : Int × Int) : α → Int × Int := fun x => if x = v then k else K x
theorem upd_at {K : α → Int × Int} {v : α} {k : Int × Int} : upd K v k v = k := if_pos rfl
theorem upd_ne {K : α → Int × Int} {v x : α} {k : Int × Int} (h : x ≠ v) : upd K v k x = K x := if_neg h
abbrev ltK (K : α → Int × Int) (a b : α) : Bool := ltP (K a) (K b)
theorem heap_congr {K K' : α → Int × Int} {l : List α} (e : ∀ v ∈ l, K' v = K v) (h : Heap' (ltK K) l) : Heap' (ltK K') l := by
  intro k h0 hk
  have := h k h0 hk
  have m : ∀ i, i < l.length → it l i ∈ l := fun i hi => by
    unfold it; rw [List.getD_eq_getElem?_getD, List.getElem?_eq_getElem hi]; exact List.getElem_mem hi
  unfold Edge ltK at *
  rw [e _ (m _ hk), e _ (m _ (by omega))]
  exact this
theorem it_inj' {l : List α} (nd : l.Nodup) {i j : Nat} (hi : i < l.length) (hj : j < l.length) (e : it l i = it l j) : i = j := by
  unfold it at e
  rw [List.getD_eq_getElem?_getD, List.getElem?_eq_getElem hi, List.getD_eq_getElem?_getD, List.getElem?_eq_getElem hj] at e
  exact (List.getElem_inj nd).mp e
theorem map_nodup {K : α → Int × Int} {l : List α} (nd : ((l.map K).map (·.2)).Nodup) : l.Nodup := by
  rw [List.map_map] at nd
  exact (List.pairwise_map.mp nd).imp fun h e => h (congrArg _ e)
theorem bump_heap {K : α → Int × Int} {l : List α} {p : Nat} {k : Int × Int} (nd : l.Nodup) (hp : p < l.length) (h : Heap' (ltK K) l) (hk : ltP k (K (it l p)) = false) :
    Heap' (ltK (upd K (it l p) k)) (su (ltK (upd K (it l p) k)) l p) := by
  have o : LO (ltK (upd K (it l p) k)) := lo_ltP.comap _
  have ne : ∀ j, j < l.length → j ≠ p → upd K (it l p) k (it l j) = K (it l j) := fun j hj hne => upd_ne fun e => hne (it_inj' nd hj hp e)
  obtain ⟨r1, r2, r3, r4⟩ := su_ok o (l := l) (pos := p) hp (fun j h0 hj h1 h2 => by
    unfold Edge ltK
    rw [ne j hj h1, ne _ (by omega) h2]
    exact h j h0 hj) (fun h0 j j0 hj e => by
    unfold ltK
    rw [ne j hj (by omega), ne _ (by omega) (by omega)]
    refine lo_ltP.tr _ _ _ (h p h0 hp) ?_
    have := h j j0 hj
    unfold Edge at this
    rw [e] at this
    exact this)
  intro j h0 hj
  rw [su_length] at hj
  by_cases e : j = p
  · subst e
    refine r3 h0 ?_
    unfold ltK
    rw [upd_at, ne _ (by omega) (by omega)]
    exact lo_ltP.tr _ _ _ (h j h0 hj) hk
  · exact r1 j h0 hj e
theorem map_upd_not {K : α → Int × Int} {v : α} {k : Int × Int} {l : List α} (h : v ∉ l) : l.map (upd K v k) = l.map K :=
  List.map_congr_left fun x hx => upd_ne fun e => h (e ▸ hx)
theorem map_upd_at {K : α → Int × Int} {k : Int × Int} {l : List α} {p : Nat} (nd : l.Nodup) (hp : p < l.length) : l.map (upd K (it l p) k) = (l.map K).set p k := by
  apply List.ext_getElem
  · simp
  · intro i h1 h2
    have hi : i < l.length := by simpa using h1
    have e : ∀ j (hj : j < l.length), it l j = l[j] := fun j hj => by unfold it; rw [List.getD_eq_getElem?_getD, List.getElem?_eq_getElem hj]; rfl
    rw [List.getElem_map, List.getElem_set]
    by_cases q : p = i
    · subst q; rw [if_pos rfl, ← e p hp, upd_at]
    · rw [if_neg q, List.getElem_map, upd_ne]
      rw [← e i hi]
      exact fun z => q (it_inj' nd hp hi z.symm)
end
theorem set_perm {α : Type} {l : List α} {p : Nat} (hp : p < l.length) (v : α) : (l.set p v).Perm (v :: l.eraseIdx p) := by
  induction l generalizing p with
  | nil => exact absurd hp (by simp)
  | cons a l ih =>
    cases p with
    | zero => exact .refl _
    | succ p =>
      simp only [List.set_cons_succ, List.eraseIdx_cons_succ]
      exact ((ih (by simpa using hp)).cons a).trans (.swap ..)
theorem own_perm {α : Type} {l : List α} {p : Nat} (hp : p < l.length) : l.Perm (l[p] :: l.eraseIdx p) := by
  have := set_perm hp l[p]
  rwa [List.set_getElem_self] at this

/-- the known name: the heap's table and the row's -/
theorem step_known {W : Nat} {pre : List Int} {T R : List (Int × Int)} {p : Nat} {c x : Int} (t : Tab W pre T) (q : T.Perm R) (hp : p < T.length) (e : T[p] = (c, x)) :
    Tab W (pre ++ [x]) (T.set p (c + 1, x)) ∧ (T.set p (c + 1, x)).Perm ((R.filter fun r => decide (r.2 ≠ x)) ++ [(c + 1, x)]) ∧ (R.filter fun r => decide (r.2 = x)) = [(c, x)] := by
  have h1 := own_perm hp
  rw [e] at h1
  have nd : (R.map (·.2)).Nodup := (q.map _).nodup_iff.mp t.1
  have hm : (c, x) ∈ R := q.mem_iff.mp (e ▸ List.getElem_mem hp)
  have h2 := perm_name nd hm
  have h3 : (T.eraseIdx p).Perm (R.filter fun r => decide (r.2 ≠ x)) := List.Perm.cons_inv (h1.symm.trans (q.trans h2))
  refine ⟨(t.perm h1).known.perm (set_perm hp _).symm, (set_perm hp _).trans ((h3.cons _).trans (List.perm_append_singleton _ _).symm), ?_⟩
  have h4 : (R.filter fun r => decide (r.2 = x)).Perm [(c, x)] := by
    refine (h2.filter _).trans ?_
    rw [List.filter_cons_of_pos (by simp), List.filter_filter]
    have : (R.filter fun r => decide (r.2 = x) && decide (r.2 ≠ (c, x).2)) = [] := by
      rw [List.filter_eq_nil_iff]
      intro a _
      simp
    rw [this]
  exact List.perm_singleton.mp h4
theorem step_room {W : Nat} {pre : List Int} {T R T' : List (Int × Int)} {x : Int} (t : Tab W pre T) (q : T.Perm R) (hl : T.length < W) (hx : ∀ r ∈ T, r.2 ≠ x) (h' : T'.Perm ((1, x) :: T)) :
    Tab W (pre ++ [x]) T' ∧ T'.Perm (R ++ [(1, x)]) :=
  ⟨(t.room hl (fun h => by obtain ⟨r, hr, e⟩ := List.mem_map.mp h; exact hx r hr e)).perm h'.symm, h'.trans ((q.cons _).trans (List.perm_append_singleton _ _).symm)⟩
theorem ltP_anti {a b : Int × Int} (h1 : ltP a b = false) (h2 : ltP b a = false) : a = b := by
  unfold ltP at h1 h2
  simp only [decide_eq_false_iff_not] at h1 h2
  exact Prod.ext (by omega) (by omega)
theorem step_full {W : Nat} {pre : List Int} {T R T' : List (Int × Int)} {x : Int} {lv : Int × Int} (t : Tab W pre T) (q : T.Perm R) (h0 : 0 < T.length) (hl : W ≤ T.length) (hx : ∀ r ∈ T, r.2 ≠ x) (hroot : ∀ r ∈ T, ltP r T[0] = false)
    (hlv : lv ∈ R) (hmin : ∀ r ∈ R, ltP r lv = false) (h' : T'.Perm (T.set 0 (T[0].1 + 1, x))) :
    Tab W (pre ++ [x]) T' ∧ T'.Perm ((R.filter fun r => decide (r ≠ lv)) ++ [(lv.1 + 1, x)]) := by
  have e : lv = T[0] := ltP_anti (hroot _ (q.mem_iff.mpr hlv)) (hmin _ (q.mem_iff.mp (List.getElem_mem h0)))
  subst e
  have h1 := own_perm h0
  have ndR : R.Nodup := tab_nodup ((q.map _).nodup_iff.mp t.1)
  have h3 : (T.eraseIdx 0).Perm (R.filter fun r => decide (r ≠ T[0])) := List.Perm.cons_inv (h1.symm.trans (q.trans (perm_out ndR hlv)))
  have hlen := h1.length_eq
  simp only [List.length_cons] at hlen
  refine ⟨((t.perm h1).full (by omega) (fun p hp => ?_) (fun hm => ?_)).perm ((h'.trans (set_perm h0 _)).symm), h'.trans ((set_perm h0 _).trans ((h3.cons _).trans (List.perm_append_singleton _ _).symm))⟩
  · have := hroot p (h1.mem_iff.mpr (.tail _ hp))
    unfold ltP at this
    simp only [decide_eq_false_iff_not] at this
    change T[0].1 ≤ p.1
    omega
  · obtain ⟨r, hr, e⟩ := List.mem_map.mp hm
    exact hx r (h1.mem_iff.mpr hr) e

/-- the end -/
theorem tab_end {W : Nat} {pre : List Int} {T : List (Int × Int)} {least : Int} (t : Tab W pre T) (h : T.length = W ∧ (∃ r ∈ T, r.1 = least) ∨ T.length ≠ W ∧ least = 0) (x : Int) :
    ((T.filter fun r => decide (r.2 = x)) = [] → (pre.count x : Int) ≤ least) ∧ ∀ q ∈ T, q.2 = x → (pre.count x : Int) ≤ q.1 ∧ q.1 - least ≤ (pre.count x : Int) := by
  obtain ⟨h1, h2, h3, h4, m, h5, h6, h7, h8⟩ := t
  have hm : m ≤ least := by
    rcases h with ⟨_, r, hr, e⟩ | ⟨h, e⟩
    · rw [← e]; exact (h7 r hr).1
    · rw [h6 (by omega)]; omega
  refine ⟨fun e => ?_, fun q hq e => ?_⟩
  · refine Int.le_trans (h8 x fun hx => ?_) hm
    obtain ⟨r, hr, e'⟩ := List.mem_map.mp hx
    rw [List.filter_eq_nil_iff] at e
    exact e r hr (by simpa using e')
  · subst e
    have := h7 q hq
    omega
end Mine
namespace Mine
theorem news_swap {h₀ h : Heap} {L : Addr} {x y : Addr × Obj} {r : List (Addr × Obj)} (N : News h₀ L h (x :: y :: r)) : News h₀ L h (y :: x :: r) := news_sub N (fun p hp => by
  simp only [List.mem_cons] at hp ⊢
  rcases hp with h | h | h <;> (repeat (first | exact h | exact Or.inl h | apply Or.inr)))
local macro_rules | `(tactic| walk_at "zz") => `(tactic| fail)
local macro_rules | `(tactic| walk_at "zz") => `(tactic| fail)
local macro_rules | `(tactic| walk_at "zz") => `(tactic| fail)
local macro_rules | `(tactic| walk_at "zz") => `(tactic| fail)
local macro_rules | `(tactic| walk_at "call ref") => `(tactic| refine Stop.out ?_)
local macro_rules | `(tactic| walk_at "CompSrcT") => `(tactic| refine Stop.out ?_)
local macro_rules | `(tactic| walk_at "compareOp NotEq ref ref") => `(tactic| refine Stop.out ?_)
local macro_rules | `(tactic| walk_at "eval ListComp") => `(tactic| refine Stop.out ?_)
local macro_rules | `(tactic| walk_at "execs cons") => `(tactic| ((with_reducible show wpAny _ _ (execs (Stmt.If (Expr.Compare (Expr.Name (Str.ofString "known") _) _ _ _) _ _ _ :: _) _) _ _ _); refine Stop.out ?_))

theorem part_hr (w : World) (mean : ExcName → Option Value) (mg mb : Str → Option Value) (h₀ : Heap) (L fa : Addr) (cd : Value) (base : Heap) (rest : List (Addr × Obj)) (s : Shared) (u : Str → Option Value)
    (pa ha : Addr) (hv : List Value) (pn hn : Nat) (och ocn : Obj) (nm : Int) (tn : Tok) (W : Int) (tw : Tok) (Q : Flow → Shared → Prop)
    (B : Below callerA base [] h₀) (X : (Mine.hd03.heap_39 w.params).In h₀) (T : Top Mine.hd03.view_39 (looseW Mine.hd03.view_39 []) mean mg mb h₀)
    (F : Fr h₀ L s.heap (fun y => if y = Str.ofString "width" then some (.int W tw) else if y = Str.ofString "place" then some (.ref pa) else u y))
    (N : News h₀ L s.heap ((ha, listOf hv.toArray hn) :: (pa, listOf #[] pn) :: (L + 1 + 1, och) :: (L + 1 + 1 + 1, ocn) :: rest)) (hoh : och.data = .cell (some (.ref ha))) (hoc : ocn.data = .cell (some (.int nm tn)))
    (K : Value → Int × Int) (he : ∀ v ∈ hv, EntIn rest v (K v)) (hne : ∀ p ∈ (pa, listOf #[] pn) :: (L + 1 + 1, och) :: (L + 1 + 1 + 1, ocn) :: rest, p.1 ≠ ha) (hl2 : hv.length < 64) (hW : (hv.length : Int) < W)
    (hnext : ∀ h' tk' na t1 e, Fr h₀ L h' (fun y => if y = Str.ofString "width" then some (.int W tw) else if y = Str.ofString "place" then some (.ref pa) else u y) →
      News h₀ L h' ((ha, listOf (hpush (ltK (upd K (.ref na) (1, nm))) hv (.ref na)).toArray (hn + 1)) :: (na, ent 1 t1 nm tn e) :: (pa, listOf #[] pn) :: (L + 1 + 1, och) :: (L + 1 + 1 + 1, ocn) :: rest) →
      (∀ p ∈ (ha, listOf hv.toArray hn) :: (pa, listOf #[] pn) :: (L + 1 + 1, och) :: (L + 1 + 1 + 1, ocn) :: rest, p.1 < na) →
      wpAny (model PySem.Challenge.rw_dp0035_03.row.prog w) (callerA.deeper (envOfC (Str.ofString "law") (defScope PySem.Challenge.pw_dp0035_03 5) L fa cd))
        (execs ((forBody ((defBody PySem.Challenge.pw_dp0035_03 5).drop 4)).drop 3) (envOfC (Str.ofString "law") (defScope PySem.Challenge.pw_dp0035_03 5) L fa cd)) Q (fun _ _ => False) { s with heap := h', toks := tk' }) :
    wpAny (model PySem.Challenge.rw_dp0035_03.row.prog w) (callerA.deeper (envOfC (Str.ofString "law") (defScope PySem.Challenge.pw_dp0035_03 5) L fa cd))
      (execs ((forBody ((defBody PySem.Challenge.pw_dp0035_03 5).drop 4)).drop 2) (envOfC (Str.ofString "law") (defScope PySem.Challenge.pw_dp0035_03 5) L fa cd)) Q (fun _ _ => False) s := by
  have hfill : PySem.Challenge.rw_dp0035_03 = PySem.Challenge.rw_dp0035_03 ∧ Mine.hd03.heap_39 = Mine.hd03.heap_39 := by
    k_fill
    exact ⟨rfl, rfl⟩
  clear hfill
  w_top off
  k_with_none
  conv in (List.drop 2 _) => whnf
  conv in (occs := *) (defScope _ _) => all_goals whnf
  k_steps
  refine Stop.go ?_
  rename News _ _ _ (_ :: (ha, listOf hv.toArray hn) :: _) => N1
  refine ne_ents (vs := []) (ws := []) (K := K) N1 (.tail _ (.tail _ (.head _))) (.head _) (fun _ h => nomatch h) (fun _ h => nomatch h) (Nat.le_of_ble_eq_true rfl) ?_
  rw [decide_eq_true rfl]
  k_steps
  rename Fr _ _ _ (fun _ => _) => F1
  replace N1 := news_sub (l' := (ha, listOf hv.toArray hn) :: (pa, listOf #[] pn) :: (L + 1 + 1, och) :: (L + 1 + 1 + 1, ocn) :: rest) N1 (fun p hp => .tail _ hp)
  refine len_at N1 (.head _) (by omega) ?_
  intro t2 tk2
  k_steps
  refine Stop.go ?_
  rename Fr _ _ _ (fun _ => _) => F2
  rename News _ _ _ (_ :: (ha, listOf hv.toArray hn) :: _) => N2
  rename ha < _ ∧ pa < _ ∧ _ ∧ _ ∧ AllLt _ rest => hal
  refine name_head N2 ?_
  intro na hna
  subst hna
  have hlt : ∀ p ∈ (ha, listOf hv.toArray hn) :: (pa, listOf #[] pn) :: (L + 1 + 1, och) :: (L + 1 + 1 + 1, ocn) :: rest, p.1 < na := by
    intro p hp
    simp only [List.mem_cons] at hp
    rcases hp with h | h | h | h | h
    · rw [h]; exact hal.1
    · rw [h]; exact hal.2.1
    · rw [h]; exact hal.2.2.1
    · rw [h]; exact hal.2.2.2.1
    · exact allLt_to hal.2.2.2.2 p h
  have hK : ∀ v ∈ hv, upd K (Value.ref na) (1, nm) v = K v := by
    intro v hv'
    obtain ⟨a, t, u', e, rfl, hm⟩ := he v hv'
    refine upd_ne fun q => ?_
    cases q
    exact Nat.lt_irrefl _ (hlt _ (.tail _ (.tail _ (.tail _ (.tail _ hm)))))
  refine hp_call w mean mg mb _ _ _ _ _ _ _ _ _ _ _ _ _ _ _ _ (ltK (upd K (Value.ref na) (1, nm))) ha hv hn (.ref na) _ _ B F2 X (news_swap N2) T rfl (by decide) (by decide) ?k1 (by omega) (ltOk_ents ?k2) ?_
  case k1 =>
    intro p hp
    rcases List.mem_cons.mp hp with h | h
    · rw [h]; exact Nat.ne_of_gt hal.1
    · exact hne p h
  case k2 =>
    intro v hv'
    rcases List.mem_append.mp hv' with h | h
    · rw [hK v h]; exact (he v h).mono fun p hp => .tail _ (.tail _ (.tail _ (.tail _ hp)))
    · rw [List.mem_singleton.mp h, upd_at]; exact ⟨na, _, tn, 0, rfl, .head _⟩
  intro h3 tk3 F3 N3
  k_steps
  refine Stop.go ?_
  exact hnext _ _ na _ _ F3 N3 hlt
end Mine
namespace Mine
local macro_rules | `(tactic| walk_at "zz") => `(tactic| fail)
local macro_rules | `(tactic| walk_at "zz") => `(tactic| fail)
local macro_rules | `(tactic| walk_at "zz") => `(tactic| fail)
local macro_rules | `(tactic| walk_at "zz") => `(tactic| fail)
local macro_rules | `(tactic| walk_at "call ref") => `(tactic| refine Stop.out ?_)
local macro_rules | `(tactic| walk_at "CompSrcT") => `(tactic| refine Stop.out ?_)
local macro_rules | `(tactic| walk_at "compareOp NotEq ref ref") => `(tactic| refine Stop.out ?_)
local macro_rules | `(tactic| walk_at "eval ListComp") => `(tactic| refine Stop.out ?_)
local macro_rules | `(tactic| walk_at "execs cons") => `(tactic| ((with_reducible show wpAny _ _ (execs (Stmt.If (Expr.Compare (Expr.Name (Str.ofString "known") _) _ _ _) _ _ _ :: _) _) _ _ _); refine Stop.out ?_))

theorem part_hf (w : World) (mean : ExcName → Option Value) (mg mb : Str → Option Value) (h₀ : Heap) (L fa : Addr) (cd : Value) (base : Heap) (rest : List (Addr × Obj)) (s : Shared) (u : Str → Option Value)
    (pa ha : Addr) (hv : List Value) (pn hn : Nat) (och ocn : Obj) (nm : Int) (tn : Tok) (W : Int) (tw : Tok) (Q : Flow → Shared → Prop)
    (B : Below callerA base [] h₀) (X : (Mine.hd03.heap_39 w.params).In h₀) (T : Top Mine.hd03.view_39 (looseW Mine.hd03.view_39 []) mean mg mb h₀)
    (F : Fr h₀ L s.heap (fun y => if y = Str.ofString "width" then some (.int W tw) else if y = Str.ofString "place" then some (.ref pa) else u y))
    (N : News h₀ L s.heap ((ha, listOf hv.toArray hn) :: (pa, listOf #[] pn) :: (L + 1 + 1, och) :: (L + 1 + 1 + 1, ocn) :: rest)) (hoh : och.data = .cell (some (.ref ha))) (hoc : ocn.data = .cell (some (.int nm tn)))
    (K : Value → Int × Int) (he : ∀ v ∈ hv, EntIn rest v (K v)) (hne : ∀ p ∈ (pa, listOf #[] pn) :: (L + 1 + 1, och) :: (L + 1 + 1 + 1, ocn) :: rest, p.1 ≠ ha) (hl2 : hv.length < 64) (hl1 : 0 < hv.length) (hW : ¬ (hv.length : Int) < W)
    (hnext : ∀ h' tk' na t1 e, Fr h₀ L h' (fun y => if y = Str.ofString "width" then some (.int W tw) else if y = Str.ofString "place" then some (.ref pa) else u y) →
      News h₀ L h' ((ha, listOf (su (ltK (upd K (.ref na) ((K (hv.getD 0 default)).1 + 1, nm))) (hv.set 0 (.ref na)) 0).toArray hn) :: (na, ent ((K (hv.getD 0 default)).1 + 1) t1 nm tn e) :: (pa, listOf #[] pn) :: (L + 1 + 1, och) :: (L + 1 + 1 + 1, ocn) :: rest) →
      (∀ p ∈ (ha, listOf hv.toArray hn) :: (pa, listOf #[] pn) :: (L + 1 + 1, och) :: (L + 1 + 1 + 1, ocn) :: rest, p.1 < na) →
      wpAny (model PySem.Challenge.rw_dp0035_03.row.prog w) (callerA.deeper (envOfC (Str.ofString "law") (defScope PySem.Challenge.pw_dp0035_03 5) L fa cd))
        (execs ((forBody ((defBody PySem.Challenge.pw_dp0035_03 5).drop 4)).drop 3) (envOfC (Str.ofString "law") (defScope PySem.Challenge.pw_dp0035_03 5) L fa cd)) Q (fun _ _ => False) { s with heap := h', toks := tk' }) :
    wpAny (model PySem.Challenge.rw_dp0035_03.row.prog w) (callerA.deeper (envOfC (Str.ofString "law") (defScope PySem.Challenge.pw_dp0035_03 5) L fa cd))
      (execs ((forBody ((defBody PySem.Challenge.pw_dp0035_03 5).drop 4)).drop 2) (envOfC (Str.ofString "law") (defScope PySem.Challenge.pw_dp0035_03 5) L fa cd)) Q (fun _ _ => False) s := by
  have hfill : PySem.Challenge.rw_dp0035_03 = PySem.Challenge.rw_dp0035_03 ∧ Mine.hd03.heap_39 = Mine.hd03.heap_39 := by
    k_fill
    exact ⟨rfl, rfl⟩
  clear hfill
  w_top off
  k_with_none
  conv in (List.drop 2 _) => whnf
  conv in (occs := *) (defScope _ _) => all_goals whnf
  k_steps
  refine Stop.go ?_
  rename News _ _ _ (_ :: (ha, listOf hv.toArray hn) :: _) => N1
  refine ne_ents (vs := []) (ws := []) (K := K) N1 (.tail _ (.tail _ (.head _))) (.head _) (fun _ h => nomatch h) (fun _ h => nomatch h) (Nat.le_of_ble_eq_true rfl) ?_
  rw [decide_eq_true rfl]
  k_steps
  rename Fr _ _ _ (fun _ => _) => F1
  replace N1 := news_sub (l' := (ha, listOf hv.toArray hn) :: (pa, listOf #[] pn) :: (L + 1 + 1, och) :: (L + 1 + 1 + 1, ocn) :: rest) N1 (fun p hp => .tail _ hp)
  refine len_at N1 (.head _) (by omega) ?_
  intro t2 tk2
  k_steps
  refine item_at N1 (.head _) 0 rfl hl1 (by omega) ?_
  obtain ⟨ea, t3, t4, ee, hea, hem⟩ := he _ (getD_mem hl1)
  rw [hea]
  k_steps
  refine ent_fst N1 (.tail _ (.tail _ (.tail _ (.tail _ hem)))) ?_
  k_steps
  rename Fr _ _ _ (fun _ => _) => F2
  rename News _ _ _ (_ :: (ha, listOf hv.toArray hn) :: _) => N2
  rename ha < _ ∧ pa < _ ∧ _ ∧ _ ∧ AllLt _ rest => hal
  refine name_head N2 ?_
  intro na hna
  subst hna
  have hlt : ∀ p ∈ (ha, listOf hv.toArray hn) :: (pa, listOf #[] pn) :: (L + 1 + 1, och) :: (L + 1 + 1 + 1, ocn) :: rest, p.1 < na := by
    intro p hp
    simp only [List.mem_cons] at hp
    rcases hp with h | h | h | h | h
    · rw [h]; exact hal.1
    · rw [h]; exact hal.2.1
    · rw [h]; exact hal.2.2.1
    · rw [h]; exact hal.2.2.2.1
    · exact allLt_to hal.2.2.2.2 p h
  have hK : ∀ v ∈ hv, upd K (Value.ref na) ((K (hv.getD 0 default)).1 + 1, nm) v = K v := by
    intro v hv'
    obtain ⟨a, t, u', e, rfl, hm⟩ := he v hv'
    refine upd_ne fun q => ?_
    cases q
    exact Nat.lt_irrefl _ (hlt _ (.tail _ (.tail _ (.tail _ (.tail _ hm)))))
  have hne2 : ∀ o, ∀ p ∈ (na, o) :: (pa, listOf #[] pn) :: (L + 1 + 1, och) :: (L + 1 + 1 + 1, ocn) :: rest, p.1 ≠ ha := by
    intro o p hp
    rcases List.mem_cons.mp hp with h | h
    · rw [h]; exact Nat.ne_of_gt hal.1
    · exact hne p h
  refine set_at F2 (news_swap N2) (hne2 _) 0 rfl hl1 (by omega) ?_
  intro h3 F3 N3
  k_steps
  refine Stop.go ?_
  refine su_call w mean mg mb _ _ _ _ _ _ _ _ _ _ _ _ _ _ _ _ (ltK (upd K (Value.ref na) ((K (hv.getD 0 default)).1 + 1, nm))) ha (hv.set 0 (.ref na)) hn 0 _ _ _ B F3 X N3 T rfl (by decide) (by decide) (hne2 _) (by rw [List.length_set]; exact hl1) (by rw [List.length_set]; omega) (ltOk_ents ?k2) ?_
  case k2 =>
    intro v hv'
    rcases List.mem_or_eq_of_mem_set hv' with h | h
    · rw [hK v h]; exact (he v h).mono fun p hp => .tail _ (.tail _ (.tail _ (.tail _ hp)))
    · rw [h, upd_at]; exact ⟨na, _, tn, 0, rfl, .head _⟩
  intro h4 tk4 F4 N4
  k_steps
  refine Stop.go ?_
  exact hnext _ _ na _ _ F4 N4 hlt
end Mine
namespace Mine
theorem ints_dat {news : List (Addr × Obj)} : ∀ {vs : List Value} {ns : List Int}, IntsAre vs ns → DatAll news vs (ns.map Dat.int)
  | _, _, .nil => .nil
  | _, _, .cons a u r => .cons (.int _ _) (ints_dat r)
theorem ne_ints {prog : Program} {w : World} {A : Around} {E : Value → Shared → Prop} {s : Shared} {h₀ : Heap} {L a b : Addr} {news : List (Addr × Obj)} {k1 k2 : Nat} {vs ws : List Value} {ns ms : List Int} {Q : Value → Shared → Prop} (N : News h₀ L s.heap news) (ma : (a, listOf vs.toArray k1) ∈ news) (mb : (b, listOf ws.toArray k2) ∈ news) (hp : IntsAre vs ns) (hq : IntsAre ws ms) (hu : A.units + 64 < cLine)
    (h : Q (.bool (!decide (ns = ms))) s) : wpAny (model prog w) A (compareOp .NotEq (.ref a) (.ref b)) Q E s := by
  have hok : ∀ us : List Int, ∀ d ∈ us.map Dat.int, kqdOk 8 d = true := by
    intro us d hd
    obtain ⟨v, _, rfl⟩ := List.mem_map.mp hd
    rfl
  refine kqd_ne N ma rfl rfl (n₁ := []) (ints_dat hp) (fun _ h => nomatch h) mb rfl rfl (n₂ := []) (ints_dat hq) (fun _ h => nomatch h) (hok ns) (hok ms) hu ?_
  have inj : ∀ us vs : List Int, us.map Dat.int = vs.map Dat.int ↔ us = vs := by
    intro us
    induction us with
    | nil => intro vs; cases vs <;> simp
    | cons u us ih =>
      intro vs
      cases vs with
      | nil => simp
      | cons v vs => simp only [List.map_cons, List.cons.injEq, ih vs, Dat.int.injEq]
  have e : ∀ i : Decidable (ns.map Dat.int = ms.map Dat.int), @decide _ i = decide (ns = ms) := by
    intro i
    by_cases hc : ns = ms
    · rw [decide_eq_true hc, decide_eq_true ((inj ns ms).mpr hc)]
    · rw [decide_eq_false hc, decide_eq_false fun q => hc ((inj ns ms).mp q)]
  rw [e]
  exact h
local macro_rules | `(tactic| walk_at "zz") => `(tactic| fail)
local macro_rules | `(tactic| walk_at "zz") => `(tactic| fail)
local macro_rules | `(tactic| walk_at "zz") => `(tactic| fail)
local macro_rules | `(tactic| walk_at "zz") => `(tactic| fail)
local macro_rules | `(tactic| walk_at "call ref") => `(tactic| refine Stop.out ?_)
local macro_rules | `(tactic| walk_at "CompSrcT") => `(tactic| refine Stop.out ?_)
local macro_rules | `(tactic| walk_at "compareOp NotEq ref ref") => `(tactic| refine Stop.out ?_)
local macro_rules | `(tactic| walk_at "eval ListComp") => `(tactic| refine Stop.out ?_)
local macro_rules | `(tactic| walk_at "execs cons") => `(tactic| ((with_reducible show wpAny _ _ (execs (Stmt.If (Expr.Compare (Expr.Name (Str.ofString "known") _) _ _ _) _ _ _ :: _) _) _ _ _); refine Stop.out ?_))

theorem part_hk (w : World) (mean : ExcName → Option Value) (mg mb : Str → Option Value) (h₀ : Heap) (L fa : Addr) (cd : Value) (base : Heap) (rest : List (Addr × Obj)) (s : Shared) (u : Str → Option Value)
    (pa ha : Addr) (pv hv : List Value) (ps : List Int) (p : Nat) (pn hn : Nat) (och : Obj) (ea : Addr) (t0 t1 : Tok) (ee : Nat) (K : Value → Int × Int) (Q : Flow → Shared → Prop)
    (B : Below callerA base [] h₀) (X : (Mine.hd03.heap_39 w.params).In h₀) (T : Top Mine.hd03.view_39 (looseW Mine.hd03.view_39 []) mean mg mb h₀)
    (F : Fr h₀ L s.heap (fun y => if y = Str.ofString "place" then some (.ref pa) else u y))
    (N : News h₀ L s.heap ((ea, ent (K (.ref ea)).1 t0 (K (.ref ea)).2 t1 ee) :: (ha, listOf hv.toArray hn) :: (pa, listOf pv.toArray pn) :: (L + 1 + 1, och) :: rest)) (hoh : och.data = .cell (some (.ref ha)))
    (hip : IntsAre pv ((p : Int) :: ps)) (hpl : pv.length < 64) (hp : p < hv.length) (hea : hv.getD p default = .ref ea)
    (he : ∀ v ∈ hv, v ≠ .ref ea → EntIn rest v (K v)) (hne : ∀ p ∈ (ea, ent (K (.ref ea)).1 t0 (K (.ref ea)).2 t1 ee) :: (pa, listOf pv.toArray pn) :: (L + 1 + 1, och) :: rest, p.1 ≠ ha)
    (hne2 : ∀ p ∈ (pa, listOf pv.toArray pn) :: (L + 1 + 1, och) :: rest, p.1 ≠ ea) (hl2 : hv.length < 64)
    (hnext : ∀ h' tk' t0', Fr h₀ L h' (fun y => if y = Str.ofString "place" then some (.ref pa) else u y) →
      News h₀ L h' ((ha, listOf (su (ltK (upd K (.ref ea) ((K (.ref ea)).1 + 1, (K (.ref ea)).2))) hv p).toArray hn) :: (ea, ent ((K (.ref ea)).1 + 1) t0' (K (.ref ea)).2 t1 ee) :: (pa, listOf pv.toArray pn) :: (L + 1 + 1, och) :: rest) →
      wpAny (model PySem.Challenge.rw_dp0035_03.row.prog w) (callerA.deeper (envOfC (Str.ofString "law") (defScope PySem.Challenge.pw_dp0035_03 5) L fa cd))
        (execs ((forBody ((defBody PySem.Challenge.pw_dp0035_03 5).drop 4)).drop 3) (envOfC (Str.ofString "law") (defScope PySem.Challenge.pw_dp0035_03 5) L fa cd)) Q (fun _ _ => False) { s with heap := h', toks := tk' }) :
    wpAny (model PySem.Challenge.rw_dp0035_03.row.prog w) (callerA.deeper (envOfC (Str.ofString "law") (defScope PySem.Challenge.pw_dp0035_03 5) L fa cd))
      (execs ((forBody ((defBody PySem.Challenge.pw_dp0035_03 5).drop 4)).drop 2) (envOfC (Str.ofString "law") (defScope PySem.Challenge.pw_dp0035_03 5) L fa cd)) Q (fun _ _ => False) s := by
  have hfill : PySem.Challenge.rw_dp0035_03 = PySem.Challenge.rw_dp0035_03 ∧ Mine.hd03.heap_39 = Mine.hd03.heap_39 := by
    k_fill
    exact ⟨rfl, rfl⟩
  clear hfill
  w_top off
  k_with_none
  conv in (List.drop 2 _) => whnf
  conv in (occs := *) (defScope _ _) => all_goals whnf
  obtain ⟨tp, pr, hpv, _⟩ := hip.cons_inv
  k_steps
  refine Stop.go ?_
  rename News _ _ _ (_ :: (ea, _) :: _) => N1
  refine ne_ints (ws := []) (ms := []) N1 (.tail _ (.tail _ (.tail _ (.head _)))) (.head _) hip .nil (Nat.le_of_ble_eq_true rfl) ?_
  rw [decide_eq_false (by simp)]
  k_steps
  rename Fr _ _ _ (fun _ => _) => F1
  replace N1 := news_sub (l' := (ea, ent (K (.ref ea)).1 t0 (K (.ref ea)).2 t1 ee) :: (ha, listOf hv.toArray hn) :: (pa, listOf pv.toArray pn) :: (L + 1 + 1, och) :: rest) N1 (fun p hp => .tail _ hp)
  refine item_at N1 (.tail _ (.head _)) p rfl hp (by omega) ?_
  rw [hea]
  k_steps
  have hne3 : ∀ p ∈ (ha, listOf hv.toArray hn) :: (pa, listOf pv.toArray pn) :: (L + 1 + 1, och) :: rest, p.1 ≠ ea := by
    intro p hp
    rcases List.mem_cons.mp hp with h | h
    · rw [h]; exact Ne.symm (hne _ (.head _))
    · exact hne2 p h
  refine set_at (vs := [.int (K (.ref ea)).1 t0, .int (K (.ref ea)).2 t1]) F1 N1 hne3 0 rfl (by simp) (by simp) ?_
  intro h3 F3 N3
  k_steps
  refine Stop.go ?_
  have hne4 : ∀ o, ∀ p ∈ (ea, o) :: (pa, listOf pv.toArray pn) :: (L + 1 + 1, och) :: rest, p.1 ≠ ha := by
    intro o p hp
    rcases List.mem_cons.mp hp with h | h
    · rw [h]; exact hne (ea, ent (K (.ref ea)).1 t0 (K (.ref ea)).2 t1 ee) (.head _)
    · exact hne p (.tail _ h)
  refine su_call w mean mg mb _ _ _ _ _ _ _ _ _ _ _ _ _ _ _ _ (ltK (upd K (.ref ea) ((K (.ref ea)).1 + 1, (K (.ref ea)).2))) ha hv hn p _ _ _ B F3 X (news_swap N3) T rfl (by decide) (by decide) (hne4 _) hp (by omega) (ltOk_ents ?k2) ?_
  case k2 =>
    intro v hv'
    by_cases h : v = .ref ea
    · rw [h, upd_at]; exact ⟨ea, _, t1, ee, rfl, .head _⟩
    · rw [upd_ne h]; exact (he v hv' h).mono fun p hp => .tail _ (.tail _ (.tail _ hp))
  intro h4 tk4 F4 N4
  k_steps
  refine Stop.go ?_
  exact hnext _ _ _ F4 N4
end Mine
namespace Mine
theorem off1_to {d : Addr} : ∀ {l : List (Addr × Obj)}, LCg.Off1 d l → ∀ p ∈ l, p.1 ≠ d
  | [], _, _, h => nomatch h
  | _ :: _, h, p, hp => by
    rcases List.mem_cons.mp hp with rfl | hp
    · exact h.1
    · exact off1_to h.2 p hp
/-- the places of a name -/
def places (K : Value → Int × Int) (hv : List Value) (nm : Int) (i : Nat) : List Nat := (List.range i).filter fun k => decide ((K (hv.getD k default)).2 = nm)
theorem places_succ (K : Value → Int × Int) (hv : List Value) (nm : Int) (i : Nat) : places K hv nm (i + 1) = places K hv nm i ++ if (K (hv.getD i default)).2 = nm then [i] else [] := by
  unfold places
  rw [List.range_succ, List.filter_append]
  congr 1
  by_cases h : (K (hv.getD i default)).2 = nm
  · rw [if_pos h, List.filter_cons_of_pos (by simpa using h)]; rfl
  · rw [if_neg h, List.filter_cons_of_neg (by simpa using h)]; rfl
local macro_rules | `(tactic| walk_at "zz") => `(tactic| fail)
local macro_rules | `(tactic| walk_at "zz") => `(tactic| fail)
local macro_rules | `(tactic| walk_at "zz") => `(tactic| fail)
local macro_rules | `(tactic| walk_at "zz") => `(tactic| fail)
local macro_rules | `(tactic| walk_at "zz") => `(tactic| fail)
local macro_rules | `(tactic| walk_at "call ref") => `(tactic| refine Stop.out ?_)
local macro_rules | `(tactic| walk_at "CompSrcT") => `(tactic| refine Stop.out ?_)
local macro_rules | `(tactic| walk_at "compareOp NotEq ref ref") => `(tactic| refine Stop.out ?_)
local macro_rules | `(tactic| walk_at "exec Assign cons ListComp") => `(tactic| refine Stop.out ?_)
local macro_rules | `(tactic| walk_at "execs cons") => `(tactic| ((with_reducible show wpAny _ _ (execs (Stmt.If (Expr.Compare (Expr.Name (Str.ofString "place") _) _ _ _) _ _ _ :: _) _) _ _ _); refine Stop.out ?_))

theorem part_pk (w : World) (mean : ExcName → Option Value) (mg mb : Str → Option Value) (h₀ : Heap) (L fa : Addr) (cd : Value) (base : Heap) (rest : List (Addr × Obj)) (s : Shared) (u : Str → Option Value)
    (ha ra : Addr) (hv rv : List Value) (hn rn : Nat) (och ocn : Obj) (nm : Int) (tn : Tok) (K : Value → Int × Int) (Q : Flow → Shared → Prop)
    (B : Below callerA base [] h₀) (X : (Mine.hd03.heap_39 w.params).In h₀) (T : Top Mine.hd03.view_39 (looseW Mine.hd03.view_39 []) mean mg mb h₀)
    (F : Fr h₀ L s.heap (fun y => if y = Str.ofString "row" then some (.ref ra) else u y))
    (N : News h₀ L s.heap ((ha, listOf hv.toArray hn) :: (ra, listOf rv.toArray rn) :: (L + 1 + 1, och) :: (L + 1 + 1 + 1, ocn) :: rest)) (hoh : och.data = .cell (some (.ref ha))) (hoc : ocn.data = .cell (some (.int nm tn)))
    (he : ∀ v ∈ hv, EntIn rest v (K v)) (hr : ∀ v ∈ rv, EntIn rest v (K v)) (hl1 : hv.length < 64) (hl2 : rv.length < 64)
    (hnext : ∀ h' tk' pa ka pv pn kn, Fr h₀ L h' (fun y => if y = Str.ofString "known" then some (.ref ka) else if y = Str.ofString "place" then some (.ref pa) else if y = Str.ofString "row" then some (.ref ra) else u y) →
      News h₀ L h' ((ka, listOf (rv.filter fun v => decide ((K v).2 = nm)).toArray kn) :: (pa, listOf pv.toArray pn) :: (ha, listOf hv.toArray hn) :: (ra, listOf rv.toArray rn) :: (L + 1 + 1, och) :: (L + 1 + 1 + 1, ocn) :: rest) →
      IntsAre pv ((places K hv nm hv.length).map Int.ofNat) → (∀ p ∈ (ha, listOf hv.toArray hn) :: (ra, listOf rv.toArray rn) :: (L + 1 + 1, och) :: (L + 1 + 1 + 1, ocn) :: rest, p.1 ≠ pa ∧ p.1 ≠ ka) → pa ≠ ka →
      wpAny (model PySem.Challenge.rw_dp0035_03.row.prog w) (callerA.deeper (envOfC (Str.ofString "law") (defScope PySem.Challenge.pw_dp0035_03 5) L fa cd))
        (execs ((forBody ((defBody PySem.Challenge.pw_dp0035_03 5).drop 4)).drop 2) (envOfC (Str.ofString "law") (defScope PySem.Challenge.pw_dp0035_03 5) L fa cd)) Q (fun _ _ => False) { s with heap := h', toks := tk' }) :
    wpAny (model PySem.Challenge.rw_dp0035_03.row.prog w) (callerA.deeper (envOfC (Str.ofString "law") (defScope PySem.Challenge.pw_dp0035_03 5) L fa cd))
      (execs (forBody ((defBody PySem.Challenge.pw_dp0035_03 5).drop 4)) (envOfC (Str.ofString "law") (defScope PySem.Challenge.pw_dp0035_03 5) L fa cd)) Q (fun _ _ => False) s := by
  have hfill : PySem.Challenge.rw_dp0035_03 = PySem.Challenge.rw_dp0035_03 ∧ Mine.hd03.heap_39 = Mine.hd03.heap_39 := by
    k_fill
    exact ⟨rfl, rfl⟩
  clear hfill
  w_top off
  k_with_none
  conv in (forBody _) => whnf
  conv in (occs := *) (defScope _ _) => all_goals whnf
  have s3 : ∀ p ∈ rest, p ∈ (ha, listOf hv.toArray hn) :: (ra, listOf rv.toArray rn) :: (L + 1 + 1, och) :: (L + 1 + 1 + 1, ocn) :: rest := fun p hp => .tail _ (.tail _ (.tail _ (.tail _ hp)))
  k_steps
  refine Stop.go ?_
  k_dflt (refine LCt.Assign_ListComp_T (F₀ := F) (by rfl) (by with_unfolding_all rfl) (by with_unfolding_all rfl) (by decide) (by rfl) (by decide) (by rfl) (by rfl) (by rfl) ?_)
  k_steps
  refine len_at N (.head _) (by omega) ?_
  intro t5 tk5
  k_steps
  refine Stop.go ?_
  rename IsRange _ _ _ _ _ _ _ _ => hR
  rename Fr _ _ _ (fun _ => _) => F6
  rename News _ _ _ ((ha, _) :: _) => N6
  refine LCt.CompSrcT.range (n := hv.length) rfl F6 N6 hR (small_one (by omega) (by omega) (by omega) (by omega)) (by rw [rangeSize_nat]; omega) (by rw [sizeLine_eq]; omega) ?_
  intro g6
  refine compT_inv (fun i ys => IntsAre ys ((places K hv nm i).map Int.ofNat)) .nil ?_ ?_
  · rintro k v I oI C oC D m₂ ys h tk E' hk ⟨t7, rfl⟩ hys hC hx F7 N7 off ne
    k_steps
    refine item_at N7 (.tail _ (.tail _ (.tail _ (.head _)))) k (by omega) hk (by omega) ?_
    obtain ⟨ea, t1, t2, ee, hea, hem⟩ := he _ (getD_mem hk)
    have hpl := places_succ K hv nm k
    rw [hea] at hem hpl ⊢
    k_steps
    refine ent_snd N7 (.tail _ (.tail _ (.tail _ (s3 _ hem)))) ?_
    k_steps
    · rename _ = nm => hnm
      rw [if_pos hnm] at hpl
      refine LCg.CompEnd.intro F7 N7 _ (fun p hp => hp) off trivial ⟨rfl, ?_⟩
      rw [hpl, List.map_append]
      exact ints_app hys (ints_one (by simp))
    · rename _ ≠ nm => hnm
      rw [if_neg hnm, List.append_nil] at hpl
      refine LCg.CompEnd.intro F7 N7 _ (fun p hp => hp) off trivial ⟨rfl, ?_⟩
      rw [hpl]
      exact hys
  · intro ys hys
    k_steps
    refine Stop.go ?_
    rename Fr _ _ _ (fun z => if z = Str.ofString "place" then _ else _) => F8
    rename News _ _ _ ((_, LCg.lst ys) :: _) => N8
    rename _ ∧ _ ∧ _ ∧ _ ∧ LCg.Off1 _ rest => o8
    refine name_head N8 ?_
    intro pa hpa
    subst hpa
    k_dflt (refine LCt.Assign_ListComp_T (F₀ := F8) (by rfl) (by with_unfolding_all rfl) (by with_unfolding_all rfl) (by decide) (by rfl) (by decide) (by rfl) (by rfl) (by rfl) ?_)
    k_steps
    refine Stop.go ?_
    have s4 : ∀ p ∈ rest, p ∈ (pa, LCg.lst ys) :: (ha, listOf hv.toArray hn) :: (ra, listOf rv.toArray rn) :: (L + 1 + 1, och) :: (L + 1 + 1 + 1, ocn) :: rest := fun p hp => .tail _ (s3 p hp)
    refine LCt.CompSrcT.ledger rfl F8 N8 (.tail _ (.tail _ (.head _))) (by rw [sizeLine_eq, List.size_toArray]; omega) ?_
    intro g9
    refine compT_inv (fun i ys => ys = (rv.take i).filter fun v => decide ((K v).2 = nm)) rfl ?_ ?_
    · rintro i v I oI C oC D m₂ ys9 h tk E' hi hv hys9 hC hx F9 N9 off ne
      rw [List.size_toArray] at hi
      rw [List.getElem?_toArray] at hv
      obtain ⟨ea, t1, t2, ee, rfl, hem⟩ := hr v (List.mem_of_getElem? hv)
      have htk : rv.take (i + 1) = rv.take i ++ [Value.ref ea] := by rw [List.take_add_one, hv]; rfl
      k_steps
      refine ent_snd N9 (.tail _ (.tail _ (.tail _ (s4 _ hem)))) ?_
      k_steps
      · rename _ = nm => hnm
        refine LCg.CompEnd.intro F9 N9 _ (fun p hp => hp) off (.inr ⟨_, .tail _ (.tail _ (.head _)), rfl, _, rfl⟩) ⟨rfl, ?_⟩
        rw [htk, List.filter_append, hys9]
        simp [hnm]
      · rename _ ≠ nm => hnm
        refine LCg.CompEnd.intro F9 N9 _ (fun p hp => hp) off (.inr ⟨_, .tail _ (.tail _ (.head _)), rfl, _, rfl⟩) ⟨rfl, ?_⟩
        rw [htk, List.filter_append, hys9]
        simp [hnm]
    · intro ys9 hys9
      rw [List.size_toArray, List.take_length] at hys9
      subst hys9
      k_steps
      refine Stop.go ?_
      rename Fr _ _ _ (fun z => if z = Str.ofString "known" then _ else _) => F10
      rename News _ _ _ (_ :: (pa, LCg.lst ys) :: _) => N10
      rename pa ≠ _ ∧ _ ∧ _ ∧ _ ∧ _ ∧ LCg.Off1 _ rest => o10
      refine hnext _ _ _ _ ys _ _ F10 N10 hys ?_ o10.1
      intro p hp
      simp only [List.mem_cons] at hp
      rcases hp with h | h | h | h | h
      · rw [h]; exact ⟨o8.1, o10.2.1⟩
      · rw [h]; exact ⟨o8.2.1, o10.2.2.1⟩
      · rw [h]; exact ⟨o8.2.2.1, o10.2.2.2.1⟩
      · rw [h]; exact ⟨o8.2.2.2.1, o10.2.2.2.2.1⟩
      · exact ⟨off1_to o8.2.2.2.2 p h, off1_to o10.2.2.2.2.2 p h⟩
end Mine
namespace Mine
/-! ## law 03: what stands behind each turn of the first loop -/
structure St3 where
  hv : List Value
  hn : Nat
  rv : List Value
  ra : Addr
  rn : Nat
  ocn : Obj
  ocl : Obj
  led : List (Addr × Obj)
  K : Value → Int × Int

def fix3 (L ha nma : Addr) : List Addr := [ha, L + 1 + 1, L + 1 + 1 + 1, L + 1 + 1 + 1 + 1, nma]
structure Good (L ha nma : Addr) (W : Nat) (pre : List Int) (c : St3) : Prop where
  he : ∀ v ∈ c.hv, EntIn c.led v (c.K v)
  hr : ∀ v ∈ c.rv, EntIn c.led v (c.K v)
  dis : ∀ v ∈ c.hv, v ∉ c.rv
  perm : (c.hv.map c.K).Perm (c.rv.map c.K)
  heap : Heap' (ltK c.K) c.hv
  tab : Tab W pre (c.hv.map c.K)
  cn : ∃ x, c.ocn.data = .cell x
  cl : ∃ x, c.ocl.data = .cell x
  fx : (fix3 L ha nma).Nodup
  ra : ∀ a ∈ fix3 L ha nma, a ≠ c.ra
  led : ∀ p ∈ c.led, p.1 ≠ c.ra ∧ ∀ a ∈ fix3 L ha nma, a ≠ p.1

theorem EntIn.out {led : List (Addr × Obj)} {v : Value} {k : Int × Int} (h : EntIn led v k) {na : Addr} (hn : ∀ p ∈ led, p.1 ≠ na) : v ≠ .ref na := by
  obtain ⟨a, t, u, e, rfl, hm⟩ := h
  intro q
  cases q
  exact hn _ hm rfl
theorem EntIn.filter {led : List (Addr × Obj)} {v : Value} {k : Int × Int} (h : EntIn led v k) {ea : Addr} (hn : v ≠ .ref ea) : EntIn (led.filter fun p => decide (p.1 ≠ ea)) v k := by
  obtain ⟨a, t, u, e, rfl, hm⟩ := h
  refine ⟨a, t, u, e, rfl, List.mem_filter.mpr ⟨hm, ?_⟩⟩
  simp only [decide_eq_true_eq]
  intro q
  exact hn (by rw [← q])

section
variable {L ha nma : Addr} {W : Nat} {pre : List Int} {c : St3}
theorem Good.len (g : Good L ha nma W pre c) : c.hv.length ≤ W ∧ c.rv.length = c.hv.length := by
  have h1 := g.tab.2.1
  have h2 := g.perm.length_eq
  rw [List.length_map] at h1
  rw [List.length_map, List.length_map] at h2
  exact ⟨h1, h2.symm⟩
theorem Good.nd (g : Good L ha nma W pre c) : c.hv.Nodup := map_nodup g.tab.1
theorem map_get {K : Value → Int × Int} {l : List Value} {p : Nat} (hp : p < l.length) : (l.map K)[p]'(by rw [List.length_map]; exact hp) = K (l.getD p default) := by
  rw [List.getElem_map, List.getD_eq_getElem?_getD, List.getElem?_eq_getElem hp]; rfl
theorem filter_K {K : Value → Int × Int} {q : Int × Int → Bool} (l : List Value) : (l.map K).filter q = (l.filter fun v => q (K v)).map K := by
  rw [List.filter_map]; rfl

/-- the row's list of the known name -/
theorem Good.kv (g : Good L ha nma W pre c) {p : Nat} {ea : Addr} {nm : Int} (hp : p < c.hv.length) (hea : c.hv.getD p default = .ref ea) (hnm : (c.K (.ref ea)).2 = nm) :
    ∃ v ∈ c.rv, (c.rv.filter fun v => decide ((c.K v).2 = nm)) = [v] ∧ c.K v = (((c.K (.ref ea)).1), nm) := by
  have hp' : p < (c.hv.map c.K).length := by rw [List.length_map]; exact hp
  obtain ⟨_, _, h3⟩ := step_known (c := (c.K (.ref ea)).1) (x := nm) g.tab g.perm hp' (by rw [map_get hp, hea]; exact Prod.ext rfl hnm)
  rw [filter_K] at h3
  obtain ⟨v, hv⟩ : ∃ v, (c.rv.filter fun v => decide ((c.K v).2 = nm)) = [v] := by
    refine List.length_eq_one_iff.mp ?_
    have := congrArg List.length h3
    simpa using this
  rw [hv] at h3
  refine ⟨v, ?_, hv, by simpa using h3⟩
  have : v ∈ c.rv.filter fun v => decide ((c.K v).2 = nm) := by rw [hv]; exact .head _
  exact (List.mem_filter.mp this).1

theorem Good.known (g : Good L ha nma W pre c) {p : Nat} {ea na ra' : Addr} {nm : Int} {t0 t1 t2 t3 : Tok} {e1 e2 rn' : Nat} (hp : p < c.hv.length) (hea : c.hv.getD p default = .ref ea) (hnm : (c.K (.ref ea)).2 = nm)
    (hf : ∀ a ∈ fix3 L ha nma, a ≠ na ∧ a ≠ ra') (hl : ∀ q ∈ c.led, q.1 ≠ na ∧ q.1 ≠ ra') (hnr : na ≠ ra') :
    Good L ha nma W (pre ++ [nm]) { c with
      hv := su (ltK (upd c.K (.ref ea) ((c.K (.ref ea)).1 + 1, nm))) c.hv p
      rv := (c.rv.filter fun v => decide ((upd c.K (.ref ea) ((c.K (.ref ea)).1 + 1, nm) v).2 ≠ nm)) ++ [.ref na]
      ra := ra', rn := rn'
      led := (na, ent ((c.K (.ref ea)).1 + 1) t0 nm t1 e1) :: (ea, ent ((c.K (.ref ea)).1 + 1) t2 nm t3 e2) :: c.led.filter fun q => decide (q.1 ≠ ea)
      K := upd (upd c.K (.ref ea) ((c.K (.ref ea)).1 + 1, nm)) (.ref na) ((c.K (.ref ea)).1 + 1, nm) } := by
  have nd := g.nd
  have hee : Value.ref ea ∈ c.hv := by rw [← hea]; exact getD_mem hp
  have hit : it c.hv p = .ref ea := hea
  have hna : Value.ref na ∉ c.hv := fun h => (g.he _ h).out (fun q hq => (hl q hq).1) rfl
  have hnr2 : Value.ref na ∉ c.rv := fun h => (g.hr _ h).out (fun q hq => (hl q hq).1) rfl
  have her : Value.ref ea ∉ c.rv := g.dis _ hee
  have hena : Value.ref ea ≠ .ref na := fun h => hna (h ▸ hee)
  obtain ⟨eled, heled⟩ : ∃ o, (ea, o) ∈ c.led := by
    obtain ⟨a, t, u, e, hq, hm⟩ := g.he _ hee
    cases hq
    exact ⟨_, hm⟩
  have hp' : p < (c.hv.map c.K).length := by rw [List.length_map]; exact hp
  have e0 : (c.K (.ref ea)) = ((c.K (.ref ea)).1, nm) := Prod.ext rfl hnm
  obtain ⟨s1, s2, _⟩ := step_known (c := (c.K (.ref ea)).1) (x := nm) g.tab g.perm hp' (by rw [map_get hp, hea]; exact e0)
  generalize hk : (c.K (.ref ea)).1 + 1 = k at *
  have hKr : ∀ v ∈ c.rv, upd c.K (.ref ea) (k, nm) v = c.K v := fun v hv => upd_ne fun h => her (h ▸ hv)
  have hrv : (c.rv.filter fun v => decide ((upd c.K (.ref ea) (k, nm) v).2 ≠ nm)) = c.rv.filter fun v => decide ((c.K v).2 ≠ nm) := List.filter_congr fun v hv => by rw [hKr v hv]
  rw [hrv]
  have hmem : ∀ v, v ∈ su (ltK (upd c.K (.ref ea) (k, nm))) c.hv p → v ∈ c.hv := by
    intro v hv
    haveI : DecidableEq Value := fun a b => Classical.propDecidable (a = b)
    exact (su_perm hp).mem_iff.mp hv
  have hmapH : (su (ltK (upd c.K (.ref ea) (k, nm))) c.hv p).map (upd (upd c.K (.ref ea) (k, nm)) (.ref na) (k, nm)) = (su (ltK (upd c.K (.ref ea) (k, nm))) c.hv p).map (upd c.K (.ref ea) (k, nm)) :=
    map_upd_not fun h => hna (hmem _ h)
  have hpermH : ((su (ltK (upd c.K (.ref ea) (k, nm))) c.hv p).map (upd (upd c.K (.ref ea) (k, nm)) (.ref na) (k, nm))).Perm ((c.hv.map c.K).set p (k, nm)) := by
    rw [hmapH]
    haveI : DecidableEq Value := fun a b => Classical.propDecidable (a = b)
    refine ((su_perm hp).map _).trans ?_
    have := map_upd_at (K := c.K) (k := (k, nm)) nd hp
    rw [hit] at this
    rw [this]
  have hmapR : ((c.rv.filter fun v => decide ((c.K v).2 ≠ nm)) ++ [Value.ref na]).map (upd (upd c.K (.ref ea) (k, nm)) (.ref na) (k, nm)) = ((c.rv.map c.K).filter fun r => decide (r.2 ≠ nm)) ++ [(k, nm)] := by
    rw [List.map_append, filter_K]
    congr 1
    · refine List.map_congr_left fun v hv => ?_
      have hv' := (List.mem_filter.mp hv).1
      rw [upd_ne (fun h : v = .ref na => hnr2 (h ▸ hv')), hKr v hv']
    · simp [upd_at]
  refine { he := ?_, hr := ?_, dis := ?_, perm := ?_, heap := ?_, tab := ?_, cn := g.cn, cl := g.cl, fx := g.fx, ra := ?_, led := ?_ }
  · intro v hv
    have hv' := hmem v hv
    dsimp only
    rw [upd_ne (fun h : v = .ref na => hna (h ▸ hv'))]
    by_cases h : v = .ref ea
    · subst h; rw [upd_at]; exact ⟨ea, _, _, _, rfl, .tail _ (.head _)⟩
    · rw [upd_ne h]; exact ((g.he v hv').filter h).mono fun q hq => .tail _ (.tail _ hq)
  · intro v hv
    dsimp only at hv ⊢
    rcases List.mem_append.mp hv with hv | hv
    · have hv' := (List.mem_filter.mp hv).1
      rw [upd_ne (fun h : v = .ref na => hnr2 (h ▸ hv')), hKr v hv']
      exact ((g.hr v hv').filter fun h => her (h ▸ hv')).mono fun q hq => .tail _ (.tail _ hq)
    · rw [List.mem_singleton.mp hv, upd_at]; exact ⟨na, _, _, _, rfl, .head _⟩
  · intro v hv hw
    dsimp only at hv hw
    have hv' := hmem v hv
    rcases List.mem_append.mp hw with hw | hw
    · exact g.dis v hv' (List.mem_filter.mp hw).1
    · exact hna (List.mem_singleton.mp hw ▸ hv')
  · dsimp only
    rw [hmapR]
    exact hpermH.trans s2
  · refine heap_congr (K := upd c.K (.ref ea) (k, nm)) (fun v hv => upd_ne fun h => hna (h ▸ hmem v hv)) ?_
    have := bump_heap (K := c.K) (k := (k, nm)) nd hp g.heap (by
      rw [hit, e0]
      unfold ltP
      simp only [decide_eq_false_iff_not]
      omega)
    rw [hit] at this
    exact this
  · exact s1.perm hpermH.symm
  · exact fun a ha' => (hf a ha').2
  · intro q hq
    dsimp only at hq ⊢
    rcases List.mem_cons.mp hq with rfl | hq
    · exact ⟨hnr, fun a ha' => (hf a ha').1⟩
    · rcases List.mem_cons.mp hq with rfl | hq
      · exact ⟨(hl _ heled).2, (g.led _ heled).2⟩
      · have hq' := (List.mem_filter.mp hq).1
        exact ⟨(hl q hq').2, (g.led q hq').2⟩

/-- the new name, and room -/
theorem Good.room (g : Good L ha nma W pre c) {na nb ra' : Addr} {nm : Int} {t0 t1 t2 t3 : Tok} {e1 e2 hn' rn' : Nat} (hx : ∀ v ∈ c.hv, (c.K v).2 ≠ nm) (hW : c.hv.length < W)
    (hf : ∀ a ∈ fix3 L ha nma, a ≠ na ∧ a ≠ nb ∧ a ≠ ra') (hl : ∀ q ∈ c.led, q.1 ≠ na ∧ q.1 ≠ nb ∧ q.1 ≠ ra') (hab : na ≠ nb) (har : na ≠ ra') (hbr : nb ≠ ra') :
    Good L ha nma W (pre ++ [nm]) { c with
      hv := hpush (ltK (upd c.K (.ref na) (1, nm))) c.hv (.ref na), hn := hn'
      rv := c.rv ++ [.ref nb]
      ra := ra', rn := rn'
      led := (nb, ent 1 t0 nm t1 e1) :: (na, ent 1 t2 nm t3 e2) :: c.led
      K := upd (upd c.K (.ref na) (1, nm)) (.ref nb) (1, nm) } := by
  have hna : Value.ref na ∉ c.hv := fun h => (g.he _ h).out (fun q hq => (hl q hq).1) rfl
  have hnr : Value.ref na ∉ c.rv := fun h => (g.hr _ h).out (fun q hq => (hl q hq).1) rfl
  have hnb : Value.ref nb ∉ c.hv := fun h => (g.he _ h).out (fun q hq => (hl q hq).2.1) rfl
  have hnbr : Value.ref nb ∉ c.rv := fun h => (g.hr _ h).out (fun q hq => (hl q hq).2.1) rfl
  have hvab : Value.ref na ≠ .ref nb := fun h => hab (by cases h; rfl)
  have hKh : ∀ v ∈ c.hv, upd c.K (.ref na) (1, nm) v = c.K v := fun v hv => upd_ne fun h => hna (h ▸ hv)
  have hKr : ∀ v ∈ c.rv, upd c.K (.ref na) (1, nm) v = c.K v := fun v hv => upd_ne fun h => hnr (h ▸ hv)
  have hpm : (hpush (ltK (upd c.K (.ref na) (1, nm))) c.hv (.ref na)).Perm (.ref na :: c.hv) := by
    haveI : DecidableEq Value := fun a b => Classical.propDecidable (a = b)
    exact hpush_perm
  have hnbh : Value.ref nb ∉ hpush (ltK (upd c.K (.ref na) (1, nm))) c.hv (.ref na) := fun h => by
    rcases List.mem_cons.mp (hpm.mem_iff.mp h) with h | h
    · exact hvab h.symm
    · exact hnb h
  have hmapH : ((hpush (ltK (upd c.K (.ref na) (1, nm))) c.hv (.ref na)).map (upd (upd c.K (.ref na) (1, nm)) (.ref nb) (1, nm))).Perm ((1, nm) :: c.hv.map c.K) := by
    rw [map_upd_not hnbh]
    refine (hpm.map _).trans ?_
    rw [List.map_cons, upd_at, List.map_congr_left hKh]
  have hmapR : (c.rv ++ [Value.ref nb]).map (upd (upd c.K (.ref na) (1, nm)) (.ref nb) (1, nm)) = c.rv.map c.K ++ [(1, nm)] := by
    rw [List.map_append, map_upd_not hnbr, List.map_congr_left hKr]
    simp [upd_at]
  obtain ⟨s1, s2⟩ := step_room g.tab g.perm (by rw [List.length_map]; exact hW) (by
    intro r hr
    obtain ⟨v, hv, rfl⟩ := List.mem_map.mp hr
    exact hx v hv) hmapH
  refine { he := ?_, hr := ?_, dis := ?_, perm := ?_, heap := ?_, tab := ?_, cn := g.cn, cl := g.cl, fx := g.fx, ra := ?_, led := ?_ }
  · intro v hv
    dsimp only at hv ⊢
    rw [upd_ne (fun h : v = .ref nb => hnbh (h ▸ hv))]
    rcases List.mem_cons.mp (hpm.mem_iff.mp hv) with h | h
    · rw [h, upd_at]; exact ⟨na, _, _, _, rfl, .tail _ (.head _)⟩
    · rw [hKh v h]; exact (g.he v h).mono fun q hq => .tail _ (.tail _ hq)
  · intro v hv
    dsimp only at hv ⊢
    rcases List.mem_append.mp hv with hv | hv
    · rw [upd_ne (fun h : v = .ref nb => hnbr (h ▸ hv)), hKr v hv]
      exact (g.hr v hv).mono fun q hq => .tail _ (.tail _ hq)
    · rw [List.mem_singleton.mp hv, upd_at]; exact ⟨nb, _, _, _, rfl, .head _⟩
  · intro v hv hw
    dsimp only at hv hw
    rcases List.mem_append.mp hw with hw | hw
    · rcases List.mem_cons.mp (hpm.mem_iff.mp hv) with h | h
      · exact hnr (h ▸ hw)
      · exact g.dis v h hw
    · exact hnbh (List.mem_singleton.mp hw ▸ hv)
  · dsimp only
    rw [hmapR]
    exact s2
  · exact heap_congr (K := upd c.K (.ref na) (1, nm)) (fun v hv => upd_ne fun h => hnbh (h ▸ hv)) (hpush_ok (lo_ltP.comap _) (heap_congr hKh g.heap) _)
  · exact s1
  · exact fun a ha' => (hf a ha').2.2
  · intro q hq
    dsimp only at hq ⊢
    rcases List.mem_cons.mp hq with rfl | hq
    · exact ⟨hbr, fun a ha' => (hf a ha').2.1⟩
    · rcases List.mem_cons.mp hq with rfl | hq
      · exact ⟨har, fun a ha' => (hf a ha').1⟩
      · exact ⟨(hl q hq).2.2, (g.led q hq).2⟩

/-- the new name, and no room -/
theorem Good.full (g : Good L ha nma W pre c) {na nb ra' : Addr} {nm : Int} {t0 t1 t2 t3 : Tok} {e1 e2 rn' : Nat} {lv : Value} {ocl' : Obj} (hx : ∀ v ∈ c.hv, (c.K v).2 ≠ nm) (h0 : 0 < c.hv.length) (hW : W ≤ c.hv.length)
    (hlv : lv ∈ c.rv) (hmin : ∀ v ∈ c.rv, ltP (c.K v) (c.K lv) = false) (hcl : ∃ x, ocl'.data = .cell x)
    (hf : ∀ a ∈ fix3 L ha nma, a ≠ na ∧ a ≠ nb ∧ a ≠ ra') (hl : ∀ q ∈ c.led, q.1 ≠ na ∧ q.1 ≠ nb ∧ q.1 ≠ ra') (hab : na ≠ nb) (har : na ≠ ra') (hbr : nb ≠ ra') :
    Good L ha nma W (pre ++ [nm]) { c with
      hv := su (ltK (upd c.K (.ref na) ((c.K (c.hv.getD 0 default)).1 + 1, nm))) (c.hv.set 0 (.ref na)) 0
      rv := (c.rv.filter fun v => decide (c.K v ≠ c.K lv)) ++ [.ref nb]
      ra := ra', rn := rn', ocl := ocl'
      led := (nb, ent ((c.K lv).1 + 1) t0 nm t1 e1) :: (na, ent ((c.K (c.hv.getD 0 default)).1 + 1) t2 nm t3 e2) :: c.led
      K := upd (upd c.K (.ref na) ((c.K (c.hv.getD 0 default)).1 + 1, nm)) (.ref nb) ((c.K lv).1 + 1, nm) } := by
  have hna : Value.ref na ∉ c.hv := fun h => (g.he _ h).out (fun q hq => (hl q hq).1) rfl
  have hnr : Value.ref na ∉ c.rv := fun h => (g.hr _ h).out (fun q hq => (hl q hq).1) rfl
  have hnb : Value.ref nb ∉ c.hv := fun h => (g.he _ h).out (fun q hq => (hl q hq).2.1) rfl
  have hnbr : Value.ref nb ∉ c.rv := fun h => (g.hr _ h).out (fun q hq => (hl q hq).2.1) rfl
  have hvab : Value.ref na ≠ .ref nb := fun h => hab (by cases h; rfl)
  have h0' : 0 < (c.hv.map c.K).length := by rw [List.length_map]; exact h0
  have hk0 : c.K (c.hv.getD 0 default) = (c.hv.map c.K)[0] := (map_get h0).symm
  rw [hk0]
  generalize hk : ((c.hv.map c.K)[0].1 + 1, nm) = k at *
  generalize hkk : ((c.K lv).1 + 1, nm) = k2 at *
  have hk1 : (c.hv.map c.K)[0].1 + 1 = k.1 := by rw [← hk]
  have hk2 : (c.K lv).1 + 1 = k2.1 := by rw [← hkk]
  have hkn : nm = k.2 := by rw [← hk]
  have hkn2 : nm = k2.2 := by rw [← hkk]
  have hKh : ∀ v ∈ c.hv, upd c.K (.ref na) k v = c.K v := fun v hv => upd_ne fun h => hna (h ▸ hv)
  have hKr : ∀ v ∈ c.rv, upd c.K (.ref na) k v = c.K v := fun v hv => upd_ne fun h => hnr (h ▸ hv)
  have hpm : (su (ltK (upd c.K (.ref na) k)) (c.hv.set 0 (.ref na)) 0).Perm (c.hv.set 0 (.ref na)) := by
    haveI : DecidableEq Value := fun a b => Classical.propDecidable (a = b)
    exact su_perm (by rw [List.length_set]; exact h0)
  have hmem : ∀ v, v ∈ su (ltK (upd c.K (.ref na) k)) (c.hv.set 0 (.ref na)) 0 → v = .ref na ∨ v ∈ c.hv := fun v hv => by
    rcases List.mem_or_eq_of_mem_set (hpm.mem_iff.mp hv) with h | h
    · exact .inr h
    · exact .inl h
  have hnbh : Value.ref nb ∉ su (ltK (upd c.K (.ref na) k)) (c.hv.set 0 (.ref na)) 0 := fun h => by
    rcases hmem _ h with h | h
    · exact hvab h.symm
    · exact hnb h
  have hmapH : ((su (ltK (upd c.K (.ref na) k)) (c.hv.set 0 (.ref na)) 0).map (upd (upd c.K (.ref na) k) (.ref nb) k2)).Perm ((c.hv.map c.K).set 0 k) := by
    rw [map_upd_not hnbh]
    refine (hpm.map _).trans ?_
    rw [List.map_set, upd_at, List.map_congr_left hKh]
  have hmapR : ((c.rv.filter fun v => decide (c.K v ≠ c.K lv)) ++ [Value.ref nb]).map (upd (upd c.K (.ref na) k) (.ref nb) k2) = ((c.rv.map c.K).filter fun r => decide (r ≠ c.K lv)) ++ [k2] := by
    rw [List.map_append, filter_K]
    congr 1
    · refine List.map_congr_left fun v hv => ?_
      have hv' := (List.mem_filter.mp hv).1
      rw [upd_ne (fun h : v = .ref nb => hnbr (h ▸ hv')), hKr v hv']
    · simp [upd_at]
  have hroot : ∀ r ∈ c.hv.map c.K, ltP r (c.hv.map c.K)[0] = false := by
    intro r hr
    obtain ⟨v, hv, rfl⟩ := List.mem_map.mp hr
    obtain ⟨i, hi, rfl⟩ := List.getElem_of_mem hv
    have := heap_root (lo_ltP.comap c.K) g.heap i hi
    rw [← hk0]
    unfold it at this
    rw [List.getD_eq_getElem?_getD, List.getElem?_eq_getElem hi] at this
    exact this
  obtain ⟨s1, s2⟩ := step_full (T' := (su (ltK (upd c.K (.ref na) k)) (c.hv.set 0 (.ref na)) 0).map (upd (upd c.K (.ref na) k) (.ref nb) k2)) (x := nm) (lv := c.K lv) g.tab g.perm h0' (by rw [List.length_map]; exact hW) (by
    intro r hr
    obtain ⟨v, hv, rfl⟩ := List.mem_map.mp hr
    exact hx v hv) hroot (List.mem_map_of_mem hlv) (by
    intro r hr
    obtain ⟨v, hv, rfl⟩ := List.mem_map.mp hr
    exact hmin v hv) (by rw [hk]; exact hmapH)
  rw [hkk] at s2
  rw [hk1, hk2]
  refine { he := ?_, hr := ?_, dis := ?_, perm := ?_, heap := ?_, tab := ?_, cn := g.cn, cl := hcl, fx := g.fx, ra := ?_, led := ?_ }
  · intro v hv
    dsimp only at hv ⊢
    rw [upd_ne (fun h : v = .ref nb => hnbh (h ▸ hv))]
    rcases hmem v hv with h | h
    · rw [h, upd_at]; exact ⟨na, _, _, _, rfl, by rw [← hkn]; exact .tail _ (.head _)⟩
    · rw [hKh v h]; exact (g.he v h).mono fun q hq => .tail _ (.tail _ hq)
  · intro v hv
    dsimp only at hv ⊢
    rcases List.mem_append.mp hv with hv | hv
    · have hv' := (List.mem_filter.mp hv).1
      rw [upd_ne (fun h : v = .ref nb => hnbr (h ▸ hv')), hKr v hv']
      exact (g.hr v hv').mono fun q hq => .tail _ (.tail _ hq)
    · rw [List.mem_singleton.mp hv, upd_at]; exact ⟨nb, _, _, _, rfl, by rw [← hkn2]; exact .head _⟩
  · intro v hv hw
    dsimp only at hv hw
    rcases List.mem_append.mp hw with hw | hw
    · have hw' := (List.mem_filter.mp hw).1
      rcases hmem v hv with h | h
      · exact hnr (h ▸ hw')
      · exact g.dis v h hw'
    · exact hnbh (List.mem_singleton.mp hw ▸ hv)
  · dsimp only
    rw [hmapR]
    exact s2
  · exact heap_congr (K := upd c.K (.ref na) k) (fun v hv => upd_ne fun h => hnbh (h ▸ hv)) (su0_ok (lo_ltP.comap _) (heap_congr hKh g.heap) h0 _)
  · exact s1
  · exact fun a ha' => (hf a ha').2.2
  · intro q hq
    dsimp only at hq ⊢
    rcases List.mem_cons.mp hq with rfl | hq
    · exact ⟨hbr, fun a ha' => (hf a ha').2.1⟩
    · rcases List.mem_cons.mp hq with rfl | hq
      · exact ⟨har, fun a ha' => (hf a ha').1⟩
      · exact ⟨(hl q hq).2.2, (g.led q hq).2⟩
end
end Mine
namespace Mine
theorem fr_put {h₀ h : Heap} {L : Addr} {m : Str → Option Value} {x : Str} {v : Value} (F : Fr h₀ L h m) (e : m x = some v) : Fr h₀ L h (fun y => if y = x then some v else m y) := by
  have : (fun y => if y = x then some v else m y) = m := by
    funext y
    by_cases q : y = x
    · rw [if_pos q, q, e]
    · rw [if_neg q]
  rw [this]
  exact F
def led3 (L ha nma : Addr) (och : Obj) (nvs : List Value) (nn : Nat) (c : St3) : List (Addr × Obj) :=
  (ha, listOf c.hv.toArray c.hn) :: (c.ra, listOf c.rv.toArray c.rn) :: (L + 1 + 1, och) :: (L + 1 + 1 + 1, c.ocn) :: (L + 1 + 1 + 1 + 1, c.ocl) :: (nma, listOf nvs.toArray nn) :: c.led
def ps3 (c : St3) : List (Str × Value) := [(Str.ofString "row", .ref c.ra)]
def stored3 : List Str := [Str.ofString "place", Str.ofString "known"]

section
variable (w : World) (mean : ExcName → Option Value) (mg mb : Str → Option Value) (h₀ : Heap) (L fa : Addr) (cd : Value) (base : Heap)
  (ha nma : Addr) (och : Obj) (nvs : List Value) (nn : Nat) (W : Nat) (tw : Tok) (ns : List Int) (m₀ : Str → Option Value) (s0 : Shared) (Q : Flow → Shared → Prop)

theorem turn_end (B : Below callerA base [] h₀) (X : (Mine.hd03.heap_39 w.params).In h₀) (T : Top Mine.hd03.view_39 (looseW Mine.hd03.view_39 []) mean mg mb h₀)
    (hoh : och.data = .cell (some (.ref ha))) (hW : W ≤ 10)
    (i : Nat) (c : St3) (I : Addr) (oI : Obj) (h : Heap) (tk : Nat) (m : Str → Option Value)
    (g : Good L ha nma W (ns.take (i + 1)) c) (h1 : 1 ≤ c.hv.length) (hI : ∀ p ∈ led3 L ha nma och nvs nn c, p.1 ≠ I)
    (F : Fr h₀ L h m) (N : News h₀ L h ((I, oI) :: led3 L ha nma och nvs nn c)) (hrow : m (Str.ofString "row") = some (.ref c.ra))
    (hm : ∀ z, z ≠ Str.ofString "name" → z ≠ Str.ofString "row" → stored3.contains z = false → m z = m₀ z) :
    wpAny (model PySem.Challenge.rw_dp0035_03.row.prog w) (callerA.deeper (envOfC (Str.ofString "law") (defScope PySem.Challenge.pw_dp0035_03 5) L fa cd))
      (execs ((forBody ((defBody PySem.Challenge.pw_dp0035_03 5).drop 4)).drop 4) (envOfC (Str.ofString "law") (defScope PySem.Challenge.pw_dp0035_03 5) L fa cd))
      (LpPost h₀ L I oI (KS (led3 L ha nma och nvs nn) ps3 (Str.ofString "name") stored3 m₀ (fun i c => Good L ha nma W (ns.take i) c) (i + 1)) s0 Q) (fun _ _ => False) { s0 with heap := h, toks := tk } := by
  have hl := g.len
  have s5 : ∀ p ∈ c.led, p ∈ (L + 1 + 1 + 1, c.ocn) :: (L + 1 + 1 + 1 + 1, c.ocl) :: (nma, listOf nvs.toArray nn) :: (I, oI) :: c.led := fun p hp => .tail _ (.tail _ (.tail _ (.tail _ hp)))
  refine part_e w mean mg mb h₀ L fa cd base ((L + 1 + 1 + 1, c.ocn) :: (L + 1 + 1 + 1 + 1, c.ocl) :: (nma, listOf nvs.toArray nn) :: (I, oI) :: c.led) _ m ha c.ra c.hv c.rv c.hn c.rn och c.K _ B X T (fr_put F hrow) (news_sub N ?_) hoh (fun v hv => (g.he v hv).mono s5) (fun v hv => (g.hr v hv).mono s5) g.perm g.heap h1 (by omega) ?_
  · intro p hp
    unfold led3
    simp only [List.mem_cons] at hp ⊢
    rcases hp with h | h | h | h | h | h | h | h <;> (repeat (first | exact h | exact Or.inl h | apply Or.inr))
  · intro h' tk' F' N'
    refine lp_next ?_
    refine lp_end c F' N' (.tail _ (.tail _ (.tail _ (.tail _ (.tail _ (.tail _ (.head _))))))) ?_ hI ?_ ?_ g
    · intro p hp
      unfold led3 at hp
      simp only [List.mem_cons] at hp ⊢
      rcases hp with h | h | h | h | h | h | h <;> (repeat (first | exact h | exact Or.inl h | apply Or.inr))
    · intro p hp
      rcases List.mem_cons.mp hp with rfl | hp
      · exact if_pos rfl
      · exact nomatch hp
    · intro z z1 z2 z3
      have z4 : z ≠ Str.ofString "row" := z2 _ (.head _)
      rw [if_neg z4]
      exact hm z z1 z4 z3
end
end Mine
namespace Mine
theorem off_cons {a b : Addr} {o : Obj} {l : List (Addr × Obj)} (h : b ≠ a) (hl : ∀ p ∈ l, p.1 ≠ a) : ∀ p ∈ (b, o) :: l, p.1 ≠ a := by
  intro p hp
  rcases List.mem_cons.mp hp with rfl | hp
  · exact h
  · exact hl p hp
theorem off2_cons {a a' b : Addr} {o : Obj} {l : List (Addr × Obj)} (h : b ≠ a) (h' : b ≠ a') (hl : ∀ p ∈ l, p.1 ≠ a ∧ p.1 ≠ a') : ∀ p ∈ (b, o) :: l, p.1 ≠ a ∧ p.1 ≠ a' := by
  intro p hp
  rcases List.mem_cons.mp hp with rfl | hp
  · exact ⟨h, h'⟩
  · exact hl p hp
structure Fix (L ha nma ra : Addr) : Prop where
  f1 : ha ≠ L + 1 + 1
  f2 : ha ≠ L + 1 + 1 + 1
  f3 : ha ≠ L + 1 + 1 + 1 + 1
  f4 : ha ≠ nma
  f5 : nma ≠ L + 1 + 1
  f6 : nma ≠ L + 1 + 1 + 1
  f7 : nma ≠ L + 1 + 1 + 1 + 1
  f8 : ra ≠ ha
  f9 : ra ≠ L + 1 + 1
  f10 : ra ≠ L + 1 + 1 + 1
  f11 : ra ≠ L + 1 + 1 + 1 + 1
  f12 : ra ≠ nma
theorem Good.fix {L ha nma : Addr} {W : Nat} {pre : List Int} {c : St3} (g : Good L ha nma W pre c) : Fix L ha nma c.ra := by
  have h := g.fx
  have r := g.ra
  unfold fix3 at h r
  simp only [List.nodup_cons, List.mem_cons, not_or, List.not_mem_nil, or_false] at h
  obtain ⟨⟨a1, a2, a3, a4⟩, ⟨_, _, b3⟩, ⟨_, c2⟩, d1, _⟩ := h
  exact ⟨a1, a2, a3, a4, Ne.symm b3, Ne.symm c2, Ne.symm d1, Ne.symm (r _ (.head _)), Ne.symm (r _ (.tail _ (.head _))), Ne.symm (r _ (.tail _ (.tail _ (.head _)))), Ne.symm (r _ (.tail _ (.tail _ (.tail _ (.head _))))), Ne.symm (r _ (.tail _ (.tail _ (.tail _ (.tail _ (.head _))))))⟩
theorem Good.off {L ha nma : Addr} {W : Nat} {pre : List Int} {c : St3} (g : Good L ha nma W pre c) {p : Addr × Obj} (hp : p ∈ c.led) : p.1 ≠ c.ra ∧ p.1 ≠ ha ∧ p.1 ≠ L + 1 + 1 ∧ p.1 ≠ L + 1 + 1 + 1 ∧ p.1 ≠ L + 1 + 1 + 1 + 1 ∧ p.1 ≠ nma := by
  obtain ⟨h1, h2⟩ := g.led p hp
  unfold fix3 at h2
  exact ⟨h1, Ne.symm (h2 _ (.head _)), Ne.symm (h2 _ (.tail _ (.head _))), Ne.symm (h2 _ (.tail _ (.tail _ (.head _)))), Ne.symm (h2 _ (.tail _ (.tail _ (.tail _ (.head _))))), Ne.symm (h2 _ (.tail _ (.tail _ (.tail _ (.tail _ (.head _))))))⟩
theorem fix3_of {L ha nma : Addr} {P : Addr → Prop} (h1 : P ha) (h2 : P (L + 1 + 1)) (h3 : P (L + 1 + 1 + 1)) (h4 : P (L + 1 + 1 + 1 + 1)) (h5 : P nma) : ∀ a ∈ fix3 L ha nma, P a := by
  intro a h
  unfold fix3 at h
  simp only [List.mem_cons, List.not_mem_nil, or_false] at h
  rcases h with rfl | rfl | rfl | rfl | rfl <;> assumption

section
variable (w : World) (mean : ExcName → Option Value) (mg mb : Str → Option Value) (h₀ : Heap) (L fa : Addr) (cd : Value) (base : Heap)
  (ha nma : Addr) (och : Obj) (nvs : List Value) (nn : Nat) (W : Nat) (tw : Tok) (ns : List Int) (m₀ : Str → Option Value) (s0 : Shared) (Q : Flow → Shared → Prop)

theorem turn_k (B : Below callerA base [] h₀) (X : (Mine.hd03.heap_39 w.params).In h₀) (T : Top Mine.hd03.view_39 (looseW Mine.hd03.view_39 []) mean mg mb h₀)
    (hoh : och.data = .cell (some (.ref ha))) (hW : W ≤ 10)
    (i : Nat) (c : St3) (I : Addr) (oI : Obj) (h : Heap) (tk : Nat) (m : Str → Option Value) (nm : Int) (tn : Tok) (pa ka : Addr) (pv : List Value) (pn kn : Nat)
    (g : Good L ha nma W (ns.take i) c) (hns : ns.take (i + 1) = ns.take i ++ [nm]) (hI : ∀ p ∈ led3 L ha nma och nvs nn c, p.1 ≠ I) (hocn : c.ocn.data = .cell (some (.int nm tn)))
    (F : Fr h₀ L h m) (N : News h₀ L h ((ka, listOf (c.rv.filter fun v => decide ((c.K v).2 = nm)).toArray kn) :: (pa, listOf pv.toArray pn) :: (I, oI) :: led3 L ha nma och nvs nn c))
    (hpk : ∀ p ∈ (I, oI) :: led3 L ha nma och nvs nn c, p.1 ≠ pa ∧ p.1 ≠ ka) (hpka : pa ≠ ka) (hip : IntsAre pv ((places c.K c.hv nm c.hv.length).map Int.ofNat)) (hpl : places c.K c.hv nm c.hv.length ≠ [])
    (hrow : m (Str.ofString "row") = some (.ref c.ra)) (hknown : m (Str.ofString "known") = some (.ref ka)) (hplace : m (Str.ofString "place") = some (.ref pa))
    (hm : ∀ z, z ≠ Str.ofString "name" → z ≠ Str.ofString "row" → stored3.contains z = false → m z = m₀ z) :
    wpAny (model PySem.Challenge.rw_dp0035_03.row.prog w) (callerA.deeper (envOfC (Str.ofString "law") (defScope PySem.Challenge.pw_dp0035_03 5) L fa cd))
      (execs ((forBody ((defBody PySem.Challenge.pw_dp0035_03 5).drop 4)).drop 2) (envOfC (Str.ofString "law") (defScope PySem.Challenge.pw_dp0035_03 5) L fa cd))
      (LpPost h₀ L I oI (KS (led3 L ha nma och nvs nn) ps3 (Str.ofString "name") stored3 m₀ (fun i c => Good L ha nma W (ns.take i) c) (i + 1)) s0 Q) (fun _ _ => False) { s0 with heap := h, toks := tk } := by
  have hl := g.len
  obtain ⟨p, ps, hpe⟩ : ∃ p ps, places c.K c.hv nm c.hv.length = p :: ps := List.exists_cons_of_ne_nil hpl
  rw [hpe, List.map_cons] at hip
  have hpm : p ∈ places c.K c.hv nm c.hv.length := by rw [hpe]; exact .head _
  unfold places at hpm
  obtain ⟨hp1, hp2⟩ := List.mem_filter.mp hpm
  have hp : p < c.hv.length := List.mem_range.mp hp1
  obtain ⟨ea, t0, t1, ee, hea, hem⟩ := g.he _ (getD_mem hp)
  rw [hea] at hem
  have hnm : (c.K (.ref ea)).2 = nm := by rw [hea] at hp2; simpa using hp2
  have hpvl : pv.length < 64 := by
    rw [hip.length, ← List.map_cons, ← hpe, List.length_map]
    unfold places
    have := List.length_filter_le (fun k => decide ((c.K (c.hv.getD k default)).2 = nm)) (List.range c.hv.length)
    rw [List.length_range] at this
    omega
  have hee : Value.ref ea ∈ c.hv := by rw [← hea]; exact getD_mem hp
  have her : Value.ref ea ∉ c.rv := g.dis _ hee
  obtain ⟨kv, hkv1, hkv2, hkv3⟩ := g.kv hp hea hnm
  have X1 := g.fix
  obtain ⟨x1, x2, x3, x4, x5, x6⟩ := g.off hem
  have xI := hI _ (.tail _ (.tail _ (.tail _ (.tail _ (.tail _ (.tail _ hem))))))
  have k0 := hpk (I, oI) (.head _)
  have k1 := hpk _ (.tail _ (.head _))
  have k2 := hpk _ (.tail _ (.tail _ (.head _)))
  have k3 := hpk _ (.tail _ (.tail _ (.tail _ (.head _))))
  have k4 := hpk _ (.tail _ (.tail _ (.tail _ (.tail _ (.head _)))))
  have k5 := hpk _ (.tail _ (.tail _ (.tail _ (.tail _ (.tail _ (.head _))))))
  have k6 := hpk _ (.tail _ (.tail _ (.tail _ (.tail _ (.tail _ (.tail _ (.head _)))))))
  have kl : ∀ q ∈ c.led, q.1 ≠ pa ∧ q.1 ≠ ka := fun q hq => hpk q (.tail _ (.tail _ (.tail _ (.tail _ (.tail _ (.tail _ (.tail _ hq)))))))
  have i1 := hI _ (.head _)
  have i2 := hI _ (.tail _ (.head _))
  have i3 := hI _ (.tail _ (.tail _ (.head _)))
  have i4 := hI _ (.tail _ (.tail _ (.tail _ (.head _))))
  have i5 := hI _ (.tail _ (.tail _ (.tail _ (.tail _ (.head _)))))
  have i6 := hI _ (.tail _ (.tail _ (.tail _ (.tail _ (.tail _ (.head _))))))
  have il : ∀ q ∈ c.led, q.1 ≠ I := fun q hq => hI q (.tail _ (.tail _ (.tail _ (.tail _ (.tail _ (.tail _ hq))))))
  have fl : ∀ q ∈ c.led.filter (fun q => decide (q.1 ≠ ea)), q ∈ c.led ∧ q.1 ≠ ea := fun q hq => ⟨(List.mem_filter.mp hq).1, by simpa using (List.mem_filter.mp hq).2⟩
  dsimp only at x1 x2 x3 x4 x5 x6 xI k0 k1 k2 k3 k4 k5 k6 i1 i2 i3 i4 i5 i6
  refine part_hk w mean mg mb h₀ L fa cd base ((ka, listOf (c.rv.filter fun v => decide ((c.K v).2 = nm)).toArray kn) :: (c.ra, listOf c.rv.toArray c.rn) :: (L + 1 + 1 + 1, c.ocn) :: (L + 1 + 1 + 1 + 1, c.ocl) :: (nma, listOf nvs.toArray nn) :: (I, oI) :: c.led.filter fun q => decide (q.1 ≠ ea)) _ m pa ha pv c.hv (ps.map Int.ofNat) p pn c.hn och ea t0 t1 ee c.K _ B X T (fr_put F hplace) (news_sub N ?n1) hoh hip hpvl hp hea ?n2 ?n3 ?n4 (by omega) ?n5
  case n1 =>
    intro q hq
    unfold led3
    simp only [List.mem_cons, List.mem_filter] at hq ⊢
    rcases hq with h | h | h | h | h | h | h | h | h | h | h
    · rw [h]; repeat (first | exact hem | apply Or.inr)
    all_goals (repeat (first | exact h | exact h.1 | exact Or.inl h | apply Or.inr))
  case n2 =>
    intro v hv hne
    exact ((g.he v hv).filter hne).mono fun q hq => .tail _ (.tail _ (.tail _ (.tail _ (.tail _ (.tail _ hq)))))
  case n3 =>
    refine off_cons x2 (off_cons (Ne.symm k1.1) (off_cons (Ne.symm X1.f1) (off_cons (Ne.symm k1.2) (off_cons X1.f8 (off_cons (Ne.symm X1.f2) (off_cons (Ne.symm X1.f3) (off_cons (Ne.symm X1.f4) (off_cons (Ne.symm i1) ?_))))))))
    exact fun q hq => (g.off (fl q hq).1).2.1
  case n4 =>
    refine off_cons (Ne.symm (kl _ hem).1) (off_cons (Ne.symm x3) (off_cons (Ne.symm (kl _ hem).2) (off_cons (Ne.symm x1) (off_cons (Ne.symm x4) (off_cons (Ne.symm x5) (off_cons (Ne.symm x6) (off_cons (Ne.symm xI) ?_)))))))
    exact fun q hq => (fl q hq).2
  case n5 =>
    intro h2 tk2 t0' F2 N2
    rw [hnm] at N2
    have hKr : ∀ v ∈ c.rv, upd c.K (.ref ea) ((c.K (.ref ea)).1 + 1, nm) v = c.K v := fun v hv => upd_ne fun h => her (h ▸ hv)
    refine part_rk w mean mg mb h₀ L fa cd base ((ha, listOf (su (ltK (upd c.K (.ref ea) ((c.K (.ref ea)).1 + 1, nm))) c.hv p).toArray c.hn) :: (ea, ent ((c.K (.ref ea)).1 + 1) t0' nm t1 ee) :: (pa, listOf pv.toArray pn) :: (L + 1 + 1, och) :: (L + 1 + 1 + 1 + 1, c.ocl) :: (nma, listOf nvs.toArray nn) :: (I, oI) :: c.led.filter fun q => decide (q.1 ≠ ea)) _ (fun y => if y = Str.ofString "place" then some (.ref pa) else m y) ka c.ra (c.rv.filter fun v => decide ((c.K v).2 = nm)) c.rv kn c.rn c.ocn nm tn (upd c.K (.ref ea) ((c.K (.ref ea)).1 + 1, nm)) _ B X T ?f1 (news_sub N2 ?m1) hocn ?m2 ?m3 (by rw [hkv2]; simp) (by omega) ?m4
    case f1 => exact fr_put (fr_put F2 hrow) hknown
    case m1 =>
      intro q hq
      simp only [List.mem_cons] at hq ⊢
      rcases hq with h | h | h | h | h | h | h | h | h | h | h <;> (repeat (first | exact h | exact Or.inl h | apply Or.inr))
    case m2 =>
      intro v hv
      rw [hKr v hv]
      exact ((g.hr v hv).filter fun h => her (h ▸ hv)).mono fun q hq => .tail _ (.tail _ (.tail _ (.tail _ (.tail _ (.tail _ (.tail _ hq))))))
    case m3 => exact List.filter_congr fun v hv => by rw [hKr v hv]
    case m4 =>
      intro h3 tk3 na ra' t3 t4 e3 rn' F3 N3 hoff hnr
      have hkd : (upd c.K (.ref ea) ((c.K (.ref ea)).1 + 1, nm) ((c.rv.filter fun v => decide ((c.K v).2 = nm)).getD 0 default)).1 = (c.K (.ref ea)).1 := by
        rw [hkv2]
        show (upd c.K (.ref ea) ((c.K (.ref ea)).1 + 1, nm) kv).1 = _
        rw [hKr kv hkv1, hkv3]
      rw [hkd] at N3
      have o1 := hoff _ (.tail _ (.tail _ (.tail _ (.head _))))
      have o2 := hoff _ (.tail _ (.tail _ (.tail _ (.tail _ (.tail _ (.tail _ (.head _)))))))
      have o3 := hoff _ (.tail _ (.tail _ (.head _)))
      have o4 := hoff _ (.tail _ (.tail _ (.tail _ (.tail _ (.tail _ (.tail _ (.tail _ (.head _))))))))
      have o5 := hoff _ (.tail _ (.tail _ (.tail _ (.tail _ (.tail _ (.tail _ (.tail _ (.tail _ (.head _)))))))))
      have o6 := hoff _ (.tail _ (.tail _ (.tail _ (.tail _ (.tail _ (.tail _ (.tail _ (.tail _ (.tail _ (.head _))))))))))
      have oe := hoff _ (.tail _ (.tail _ (.tail _ (.tail _ (.head _)))))
      have ol : ∀ q ∈ c.led, q.1 ≠ na ∧ q.1 ≠ ra' := by
        intro q hq
        by_cases e : q.1 = ea
        · rw [e]; exact oe
        · exact hoff q (.tail _ (.tail _ (.tail _ (.tail _ (.tail _ (.tail _ (.tail _ (.tail _ (.tail _ (.tail _ (List.mem_filter.mpr ⟨hq, by simpa using e⟩)))))))))))
      dsimp only at o1 o2 o3 o4 o5 o6 oe
      have g2 := g.known (t0 := t3) (t1 := t4) (t2 := t0') (t3 := t1) (e1 := e3) (e2 := ee) (rn' := rn') hp hea hnm (fix3_of o1 o2 o3 o4 o5) ol hnr
      rw [← hns] at g2
      refine turn_end w mean mg mb h₀ L fa cd base ha nma och nvs nn W ns m₀ s0 Q B X T hoh hW i _ I oI h3 tk3 _ g2 ?q1 ?q2 F3 (news_sub N3 ?q3) (if_pos rfl) ?q4
      case q1 => show 1 ≤ (su _ c.hv p).length; rw [su_length]; omega
      case q2 =>
        refine off_cons i1 (off_cons (Ne.symm o6.2) (off_cons i3 (off_cons i4 (off_cons i5 (off_cons i6 (off_cons (Ne.symm o6.1) (off_cons xI ?_)))))))
        exact fun q hq => il q (fl q hq).1
      case q3 =>
        intro q hq
        unfold led3 at hq
        simp only [List.mem_cons] at hq ⊢
        rcases hq with h | h | h | h | h | h | h | h | h | h <;> (repeat (first | exact h | exact Or.inl h | apply Or.inr))
      case q4 =>
        intro z z1 z2 z3
        have z3' := z3
        unfold stored3 at z3'
        simp only [List.contains_cons, List.contains_nil, Bool.or_false, Bool.or_eq_false_iff, beq_eq_false_iff_ne, ne_eq] at z3'
        simp only [z2, z3'.1, z3'.2, if_false]
        exact hm z z1 z2 z3
end
end Mine
namespace Mine
theorem places_nil {K : Value → Int × Int} {hv : List Value} {nm : Int} (h : places K hv nm hv.length = []) : ∀ v ∈ hv, (K v).2 ≠ nm := by
  intro v hv'
  obtain ⟨i, hi, rfl⟩ := List.getElem_of_mem hv'
  unfold places at h
  rw [List.filter_eq_nil_iff] at h
  have := h i (List.mem_range.mpr hi)
  rw [List.getD_eq_getElem?_getD, List.getElem?_eq_getElem hi] at this
  simpa using this
theorem Good.none {L ha nma : Addr} {W : Nat} {pre : List Int} {c : St3} (g : Good L ha nma W pre c) {nm : Int} (hx : ∀ v ∈ c.hv, (c.K v).2 ≠ nm) : (c.rv.filter fun v => decide ((c.K v).2 = nm)) = [] := by
  rw [List.filter_eq_nil_iff]
  intro v hv
  have := g.perm.mem_iff.mpr (List.mem_map_of_mem hv)
  obtain ⟨v', hv', e⟩ := List.mem_map.mp this
  have := hx v' hv'
  rw [e] at this
  simpa using this
section
variable (w : World) (mean : ExcName → Option Value) (mg mb : Str → Option Value) (h₀ : Heap) (L fa : Addr) (cd : Value) (base : Heap)
  (ha nma : Addr) (och : Obj) (nvs : List Value) (nn : Nat) (W : Nat) (tw : Tok) (ns : List Int) (m₀ : Str → Option Value) (s0 : Shared) (Q : Flow → Shared → Prop)

theorem turn_r (B : Below callerA base [] h₀) (X : (Mine.hd03.heap_39 w.params).In h₀) (T : Top Mine.hd03.view_39 (looseW Mine.hd03.view_39 []) mean mg mb h₀)
    (hoh : och.data = .cell (some (.ref ha))) (hW : W ≤ 10)
    (i : Nat) (c : St3) (I : Addr) (oI : Obj) (h : Heap) (tk : Nat) (m : Str → Option Value) (nm : Int) (tn : Tok) (pa ka : Addr) (pn kn : Nat)
    (g : Good L ha nma W (ns.take i) c) (hns : ns.take (i + 1) = ns.take i ++ [nm]) (hI : ∀ p ∈ led3 L ha nma och nvs nn c, p.1 ≠ I) (hocn : c.ocn.data = .cell (some (.int nm tn)))
    (F : Fr h₀ L h m) (N : News h₀ L h ((ka, listOf (([] : List Value)).toArray kn) :: (pa, listOf (([] : List Value)).toArray pn) :: (I, oI) :: led3 L ha nma och nvs nn c))
    (hpk : ∀ p ∈ (I, oI) :: led3 L ha nma och nvs nn c, p.1 ≠ pa ∧ p.1 ≠ ka) (hpka : pa ≠ ka) (hx : ∀ v ∈ c.hv, (c.K v).2 ≠ nm) (hroom : c.hv.length < W)
    (hrow : m (Str.ofString "row") = some (.ref c.ra)) (hknown : m (Str.ofString "known") = some (.ref ka)) (hplace : m (Str.ofString "place") = some (.ref pa)) (hwidth : m (Str.ofString "width") = some (.int (W : Int) tw))
    (hm : ∀ z, z ≠ Str.ofString "name" → z ≠ Str.ofString "row" → stored3.contains z = false → m z = m₀ z) :
    wpAny (model PySem.Challenge.rw_dp0035_03.row.prog w) (callerA.deeper (envOfC (Str.ofString "law") (defScope PySem.Challenge.pw_dp0035_03 5) L fa cd))
      (execs ((forBody ((defBody PySem.Challenge.pw_dp0035_03 5).drop 4)).drop 2) (envOfC (Str.ofString "law") (defScope PySem.Challenge.pw_dp0035_03 5) L fa cd))
      (LpPost h₀ L I oI (KS (led3 L ha nma och nvs nn) ps3 (Str.ofString "name") stored3 m₀ (fun i c => Good L ha nma W (ns.take i) c) (i + 1)) s0 Q) (fun _ _ => False) { s0 with heap := h, toks := tk } := by
  have hl := g.len
  have X1 := g.fix
  have k0 := hpk (I, oI) (.head _)
  have k1 := hpk _ (.tail _ (.head _))
  have k2 := hpk _ (.tail _ (.tail _ (.head _)))
  have k3 := hpk _ (.tail _ (.tail _ (.tail _ (.head _))))
  have k4 := hpk _ (.tail _ (.tail _ (.tail _ (.tail _ (.head _)))))
  have k5 := hpk _ (.tail _ (.tail _ (.tail _ (.tail _ (.tail _ (.head _))))))
  have k6 := hpk _ (.tail _ (.tail _ (.tail _ (.tail _ (.tail _ (.tail _ (.head _)))))))
  have i1 := hI _ (.head _)
  have i2 := hI _ (.tail _ (.head _))
  have i3 := hI _ (.tail _ (.tail _ (.head _)))
  have i4 := hI _ (.tail _ (.tail _ (.tail _ (.head _))))
  have i5 := hI _ (.tail _ (.tail _ (.tail _ (.tail _ (.head _)))))
  have i6 := hI _ (.tail _ (.tail _ (.tail _ (.tail _ (.tail _ (.head _))))))
  have il : ∀ q ∈ c.led, q.1 ≠ I := fun q hq => hI q (.tail _ (.tail _ (.tail _ (.tail _ (.tail _ (.tail _ hq))))))
  dsimp only at k0 k1 k2 k3 k4 k5 k6 i1 i2 i3 i4 i5 i6
  refine part_hr w mean mg mb h₀ L fa cd base ((ka, listOf (([] : List Value)).toArray kn) :: (c.ra, listOf c.rv.toArray c.rn) :: (L + 1 + 1 + 1 + 1, c.ocl) :: (nma, listOf nvs.toArray nn) :: (I, oI) :: c.led) _ m pa ha c.hv pn c.hn och c.ocn nm tn (W : Int) tw _ B X T (fr_put (fr_put F hplace) hwidth) (news_sub N ?n1) hoh hocn c.K ?n2 ?n3 (by omega) (by omega) ?n5
  case n1 =>
    intro q hq
    unfold led3
    simp only [List.mem_cons] at hq ⊢
    rcases hq with h | h | h | h | h | h | h | h | h | h <;> (repeat (first | exact h | exact Or.inl h | apply Or.inr))
  case n2 =>
    intro v hv
    exact (g.he v hv).mono fun q hq => .tail _ (.tail _ (.tail _ (.tail _ (.tail _ hq))))
  case n3 =>
    refine off_cons (Ne.symm k1.1) (off_cons (Ne.symm X1.f1) (off_cons (Ne.symm X1.f2) (off_cons (Ne.symm k1.2) (off_cons X1.f8 (off_cons (Ne.symm X1.f3) (off_cons (Ne.symm X1.f4) (off_cons (Ne.symm i1) ?_)))))))
    exact fun q hq => (g.off hq).2.1
  case n5 =>
    intro h2 tk2 na t0' e0' F2 N2 hlt
    have a1 : ha ≠ na := Nat.ne_of_lt (hlt _ (.head _))
    have a3 : L + 1 + 1 ≠ na := Nat.ne_of_lt (hlt _ (.tail _ (.tail _ (.head _))))
    have a4 : L + 1 + 1 + 1 ≠ na := Nat.ne_of_lt (hlt _ (.tail _ (.tail _ (.tail _ (.head _)))))
    have a5 : L + 1 + 1 + 1 + 1 ≠ na := Nat.ne_of_lt (hlt _ (.tail _ (.tail _ (.tail _ (.tail _ (.tail _ (.tail _ (.head _))))))))
    have a6 : nma ≠ na := Nat.ne_of_lt (hlt _ (.tail _ (.tail _ (.tail _ (.tail _ (.tail _ (.tail _ (.tail _ (.head _)))))))))
    have a7 : I ≠ na := Nat.ne_of_lt (hlt _ (.tail _ (.tail _ (.tail _ (.tail _ (.tail _ (.tail _ (.tail _ (.tail _ (.head _))))))))))
    have al : ∀ q ∈ c.led, q.1 ≠ na := fun q hq => Nat.ne_of_lt (hlt _ (.tail _ (.tail _ (.tail _ (.tail _ (.tail _ (.tail _ (.tail _ (.tail _ (.tail _ hq))))))))))
    have hKr : ∀ v ∈ c.rv, upd c.K (.ref na) (1, nm) v = c.K v := fun v hv => upd_ne ((g.hr v hv).out al)
    refine part_rr w mean mg mb h₀ L fa cd base ((ha, listOf (hpush (ltK (upd c.K (.ref na) (1, nm))) c.hv (.ref na)).toArray (c.hn + 1)) :: (na, ent 1 t0' nm tn e0') :: (pa, listOf (([] : List Value)).toArray pn) :: (L + 1 + 1, och) :: (L + 1 + 1 + 1 + 1, c.ocl) :: (nma, listOf nvs.toArray nn) :: (I, oI) :: c.led) _ (fun y => if y = Str.ofString "width" then some (.int (W : Int) tw) else if y = Str.ofString "place" then some (.ref pa) else m y) ka c.ra [] c.rv kn c.rn c.ocn nm tn (W : Int) tw (upd c.K (.ref na) (1, nm)) _ B X T ?f1 (news_sub N2 ?m1) hocn ?m2 rfl (by omega) (by omega) ?m4
    case f1 => exact fr_put (fr_put (fr_put F2 hrow) hknown) rfl
    case m1 =>
      intro q hq
      simp only [List.mem_cons] at hq ⊢
      rcases hq with h | h | h | h | h | h | h | h | h | h | h <;> (repeat (first | exact h | exact Or.inl h | apply Or.inr))
    case m2 =>
      intro v hv
      rw [hKr v hv]
      exact (g.hr v hv).mono fun q hq => .tail _ (.tail _ (.tail _ (.tail _ (.tail _ (.tail _ (.tail _ hq))))))
    case m4 =>
      intro h3 tk3 nb ra' t3 t4 e3 rn' F3 N3 hoff hnr
      have o1 := hoff _ (.tail _ (.tail _ (.tail _ (.head _))))
      have oe := hoff _ (.tail _ (.tail _ (.tail _ (.tail _ (.head _)))))
      have o2 := hoff _ (.tail _ (.tail _ (.tail _ (.tail _ (.tail _ (.tail _ (.head _)))))))
      have o3 := hoff _ (.tail _ (.tail _ (.head _)))
      have o4 := hoff _ (.tail _ (.tail _ (.tail _ (.tail _ (.tail _ (.tail _ (.tail _ (.head _))))))))
      have o5 := hoff _ (.tail _ (.tail _ (.tail _ (.tail _ (.tail _ (.tail _ (.tail _ (.tail _ (.head _)))))))))
      have o6 := hoff _ (.tail _ (.tail _ (.tail _ (.tail _ (.tail _ (.tail _ (.tail _ (.tail _ (.tail _ (.head _))))))))))
      have ol : ∀ q ∈ c.led, q.1 ≠ nb ∧ q.1 ≠ ra' := fun q hq => hoff q (.tail _ (.tail _ (.tail _ (.tail _ (.tail _ (.tail _ (.tail _ (.tail _ (.tail _ (.tail _ hq))))))))))
      dsimp only at o1 o2 o3 o4 o5 o6 oe
      have g2 := g.room (na := na) (nb := nb) (ra' := ra') (t0 := t3) (t1 := t4) (t2 := t0') (t3 := tn) (e1 := e3) (e2 := e0') (hn' := c.hn + 1) (rn' := rn') hx hroom (fix3_of ⟨a1, o1⟩ ⟨a3, o2⟩ ⟨a4, o3⟩ ⟨a5, o4⟩ ⟨a6, o5⟩) (fun q hq => ⟨al q hq, ol q hq⟩) oe.1 oe.2 hnr
      rw [← hns] at g2
      refine turn_end w mean mg mb h₀ L fa cd base ha nma och nvs nn W ns m₀ s0 Q B X T hoh hW i _ I oI h3 tk3 _ g2 ?q1 ?q2 F3 (news_sub N3 ?q3) (if_pos rfl) ?q4
      case q1 => show 1 ≤ (hpush _ c.hv _).length; rw [hpush_length]; omega
      case q2 =>
        refine off_cons i1 (off_cons (Ne.symm o6.2) (off_cons i3 (off_cons i4 (off_cons i5 (off_cons i6 (off_cons (Ne.symm o6.1) (off_cons (Ne.symm a7) ?_)))))))
        exact il
      case q3 =>
        intro q hq
        unfold led3 at hq
        simp only [List.mem_cons] at hq ⊢
        rcases hq with h | h | h | h | h | h | h | h | h | h <;> (repeat (first | exact h | exact Or.inl h | apply Or.inr))
      case q4 =>
        intro z z1 z2 z3
        have z3' := z3
        unfold stored3 at z3'
        simp only [List.contains_cons, List.contains_nil, Bool.or_false, Bool.or_eq_false_iff, beq_eq_false_iff_ne, ne_eq] at z3'
        by_cases z5 : z = Str.ofString "width"
        · simp only [z5, if_true]
          rw [if_neg (by decide), ← hwidth]
          rw [z5] at z1 z2 z3
          exact hm _ z1 z2 z3
        · simp only [z2, z3'.1, z3'.2, z5, if_false]
          exact hm z z1 z2 z3
theorem turn_f (B : Below callerA base [] h₀) (X : (Mine.hd03.heap_39 w.params).In h₀) (T : Top Mine.hd03.view_39 (looseW Mine.hd03.view_39 []) mean mg mb h₀)
    (hoh : och.data = .cell (some (.ref ha))) (hW : W ≤ 10) (hW1 : 1 ≤ W)
    (i : Nat) (c : St3) (I : Addr) (oI : Obj) (h : Heap) (tk : Nat) (m : Str → Option Value) (nm : Int) (tn : Tok) (pa ka : Addr) (pn kn : Nat)
    (g : Good L ha nma W (ns.take i) c) (hns : ns.take (i + 1) = ns.take i ++ [nm]) (hI : ∀ p ∈ led3 L ha nma och nvs nn c, p.1 ≠ I) (hocn : c.ocn.data = .cell (some (.int nm tn)))
    (F : Fr h₀ L h m) (N : News h₀ L h ((ka, listOf (([] : List Value)).toArray kn) :: (pa, listOf (([] : List Value)).toArray pn) :: (I, oI) :: led3 L ha nma och nvs nn c))
    (hpk : ∀ p ∈ (I, oI) :: led3 L ha nma och nvs nn c, p.1 ≠ pa ∧ p.1 ≠ ka) (hpka : pa ≠ ka) (hx : ∀ v ∈ c.hv, (c.K v).2 ≠ nm) (hroom : ¬ c.hv.length < W)
    (hrow : m (Str.ofString "row") = some (.ref c.ra)) (hknown : m (Str.ofString "known") = some (.ref ka)) (hplace : m (Str.ofString "place") = some (.ref pa)) (hwidth : m (Str.ofString "width") = some (.int (W : Int) tw))
    (hm : ∀ z, z ≠ Str.ofString "name" → z ≠ Str.ofString "row" → stored3.contains z = false → m z = m₀ z) :
    wpAny (model PySem.Challenge.rw_dp0035_03.row.prog w) (callerA.deeper (envOfC (Str.ofString "law") (defScope PySem.Challenge.pw_dp0035_03 5) L fa cd))
      (execs ((forBody ((defBody PySem.Challenge.pw_dp0035_03 5).drop 4)).drop 2) (envOfC (Str.ofString "law") (defScope PySem.Challenge.pw_dp0035_03 5) L fa cd))
      (LpPost h₀ L I oI (KS (led3 L ha nma och nvs nn) ps3 (Str.ofString "name") stored3 m₀ (fun i c => Good L ha nma W (ns.take i) c) (i + 1)) s0 Q) (fun _ _ => False) { s0 with heap := h, toks := tk } := by
  have hl := g.len
  have X1 := g.fix
  have h0 : 0 < c.hv.length := by omega
  obtain ⟨cx, hcl⟩ := g.cl
  have k0 := hpk (I, oI) (.head _)
  have k1 := hpk _ (.tail _ (.head _))
  have k2 := hpk _ (.tail _ (.tail _ (.head _)))
  have k3 := hpk _ (.tail _ (.tail _ (.tail _ (.head _))))
  have k4 := hpk _ (.tail _ (.tail _ (.tail _ (.tail _ (.head _)))))
  have k5 := hpk _ (.tail _ (.tail _ (.tail _ (.tail _ (.tail _ (.head _))))))
  have k6 := hpk _ (.tail _ (.tail _ (.tail _ (.tail _ (.tail _ (.tail _ (.head _)))))))
  have i1 := hI _ (.head _)
  have i2 := hI _ (.tail _ (.head _))
  have i3 := hI _ (.tail _ (.tail _ (.head _)))
  have i4 := hI _ (.tail _ (.tail _ (.tail _ (.head _))))
  have i5 := hI _ (.tail _ (.tail _ (.tail _ (.tail _ (.head _)))))
  have i6 := hI _ (.tail _ (.tail _ (.tail _ (.tail _ (.tail _ (.head _))))))
  have il : ∀ q ∈ c.led, q.1 ≠ I := fun q hq => hI q (.tail _ (.tail _ (.tail _ (.tail _ (.tail _ (.tail _ hq))))))
  dsimp only at k0 k1 k2 k3 k4 k5 k6 i1 i2 i3 i4 i5 i6
  refine part_hf w mean mg mb h₀ L fa cd base ((ka, listOf (([] : List Value)).toArray kn) :: (c.ra, listOf c.rv.toArray c.rn) :: (L + 1 + 1 + 1 + 1, c.ocl) :: (nma, listOf nvs.toArray nn) :: (I, oI) :: c.led) _ m pa ha c.hv pn c.hn och c.ocn nm tn (W : Int) tw _ B X T (fr_put (fr_put F hplace) hwidth) (news_sub N ?n1) hoh hocn c.K ?n2 ?n3 (by omega) h0 (by omega) ?n5
  case n1 =>
    intro q hq
    unfold led3
    simp only [List.mem_cons] at hq ⊢
    rcases hq with h | h | h | h | h | h | h | h | h | h <;> (repeat (first | exact h | exact Or.inl h | apply Or.inr))
  case n2 =>
    intro v hv
    exact (g.he v hv).mono fun q hq => .tail _ (.tail _ (.tail _ (.tail _ (.tail _ hq))))
  case n3 =>
    refine off_cons (Ne.symm k1.1) (off_cons (Ne.symm X1.f1) (off_cons (Ne.symm X1.f2) (off_cons (Ne.symm k1.2) (off_cons X1.f8 (off_cons (Ne.symm X1.f3) (off_cons (Ne.symm X1.f4) (off_cons (Ne.symm i1) ?_)))))))
    exact fun q hq => (g.off hq).2.1
  case n5 =>
    intro h2 tk2 na t0' e0' F2 N2 hlt
    have a1 : ha ≠ na := Nat.ne_of_lt (hlt _ (.head _))
    have a2 : pa ≠ na := Nat.ne_of_lt (hlt _ (.tail _ (.head _)))
    have a3 : L + 1 + 1 ≠ na := Nat.ne_of_lt (hlt _ (.tail _ (.tail _ (.head _))))
    have a4 : L + 1 + 1 + 1 ≠ na := Nat.ne_of_lt (hlt _ (.tail _ (.tail _ (.tail _ (.head _)))))
    have a5 : L + 1 + 1 + 1 + 1 ≠ na := Nat.ne_of_lt (hlt _ (.tail _ (.tail _ (.tail _ (.tail _ (.tail _ (.tail _ (.head _))))))))
    have a6 : nma ≠ na := Nat.ne_of_lt (hlt _ (.tail _ (.tail _ (.tail _ (.tail _ (.tail _ (.tail _ (.tail _ (.head _)))))))))
    have a7 : I ≠ na := Nat.ne_of_lt (hlt _ (.tail _ (.tail _ (.tail _ (.tail _ (.tail _ (.tail _ (.tail _ (.tail _ (.head _))))))))))
    have al : ∀ q ∈ c.led, q.1 ≠ na := fun q hq => Nat.ne_of_lt (hlt _ (.tail _ (.tail _ (.tail _ (.tail _ (.tail _ (.tail _ (.tail _ (.tail _ (.tail _ hq))))))))))
    have hKr : ∀ v ∈ c.rv, upd c.K (.ref na) ((c.K (c.hv.getD 0 default)).1 + 1, nm) v = c.K v := fun v hv => upd_ne ((g.hr v hv).out al)
    refine part_rf w mean mg mb h₀ L fa cd base ((ha, listOf (su (ltK (upd c.K (.ref na) ((c.K (c.hv.getD 0 default)).1 + 1, nm))) (c.hv.set 0 (.ref na)) 0).toArray c.hn) :: (na, ent ((c.K (c.hv.getD 0 default)).1 + 1) t0' nm tn e0') :: (pa, listOf (([] : List Value)).toArray pn) :: (L + 1 + 1, och) :: (nma, listOf nvs.toArray nn) :: (I, oI) :: c.led) _ (fun y => if y = Str.ofString "width" then some (.int (W : Int) tw) else if y = Str.ofString "place" then some (.ref pa) else m y) ka c.ra [] c.rv kn c.rn c.ocn c.ocl cx nm tn (W : Int) tw (upd c.K (.ref na) ((c.K (c.hv.getD 0 default)).1 + 1, nm)) _ B X T ?f1 (news_sub N2 ?m1) hcl ?m0 hocn ?m2 rfl (by omega) (by omega) (by omega) ?m4
    case f1 => exact fr_put (fr_put (fr_put F2 hrow) hknown) rfl
    case m1 =>
      intro q hq
      simp only [List.mem_cons] at hq ⊢
      rcases hq with h | h | h | h | h | h | h | h | h | h | h <;> (repeat (first | exact h | exact Or.inl h | apply Or.inr))
    case m0 =>
      refine off_cons (Ne.symm k5.2) (off_cons X1.f11 (off_cons (Nat.ne_of_lt (Nat.lt_succ_self _)) (off_cons X1.f3 (off_cons (Ne.symm a5) (off_cons (Ne.symm k5.1) (off_cons (Nat.ne_of_lt (Nat.lt_succ_of_lt (Nat.lt_succ_self _))) (off_cons X1.f7 (off_cons (Ne.symm i5) ?_))))))))
      exact fun q hq => (g.off hq).2.2.2.2.1
    case m2 =>
      intro v hv
      rw [hKr v hv]
      exact (g.hr v hv).mono fun q hq => .tail _ (.tail _ (.tail _ (.tail _ (.tail _ (.tail _ hq)))))
    case m4 =>
      intro h3 tk3 nb ra' t3 t4 e3 rn' lv ocl' F3 N3 hlv hmin hcl' hoff hnr
      have hlK := hKr lv hlv
      rw [hlK] at N3
      have hfe : (c.rv.filter fun v => decide (upd c.K (.ref na) ((c.K (c.hv.getD 0 default)).1 + 1, nm) v ≠ c.K lv)) = c.rv.filter fun v => decide (c.K v ≠ c.K lv) := List.filter_congr fun v hv => by rw [hKr v hv]
      rw [hfe] at N3
      have o1 := hoff _ (.tail _ (.tail _ (.tail _ (.tail _ (.head _)))))
      have oe := hoff _ (.tail _ (.tail _ (.tail _ (.tail _ (.tail _ (.head _))))))
      have o2 := hoff _ (.tail _ (.tail _ (.tail _ (.tail _ (.tail _ (.tail _ (.tail _ (.head _))))))))
      have o3 := hoff _ (.tail _ (.tail _ (.head _)))
      have o4 := hoff _ (.tail _ (.tail _ (.tail _ (.head _))))
      have o5 := hoff _ (.tail _ (.tail _ (.tail _ (.tail _ (.tail _ (.tail _ (.tail _ (.tail _ (.head _)))))))))
      have o6 := hoff _ (.tail _ (.tail _ (.tail _ (.tail _ (.tail _ (.tail _ (.tail _ (.tail _ (.tail _ (.head _))))))))))
      have ol : ∀ q ∈ c.led, q.1 ≠ nb ∧ q.1 ≠ ra' := fun q hq => hoff q (.tail _ (.tail _ (.tail _ (.tail _ (.tail _ (.tail _ (.tail _ (.tail _ (.tail _ (.tail _ hq))))))))))
      dsimp only at o1 o2 o3 o4 o5 o6 oe
      have g2 := g.full (na := na) (nb := nb) (ra' := ra') (t0 := t3) (t1 := t4) (t2 := t0') (t3 := tn) (e1 := e3) (e2 := e0') (rn' := rn') (lv := lv) (ocl' := ocl') hx h0 (by omega) hlv (fun v hv => by have := hmin v hv; rw [hKr v hv, hlK] at this; exact this) ⟨_, hcl'⟩ (fix3_of ⟨a1, o1⟩ ⟨a3, o2⟩ ⟨a4, o3⟩ ⟨a5, o4⟩ ⟨a6, o5⟩) (fun q hq => ⟨al q hq, ol q hq⟩) oe.1 oe.2 hnr
      rw [← hns] at g2
      refine turn_end w mean mg mb h₀ L fa cd base ha nma och nvs nn W ns m₀ s0 Q B X T hoh hW i _ I oI h3 tk3 _ g2 ?q1 ?q2 F3 (news_sub N3 ?q3) (if_pos rfl) ?q4
      case q1 => show 1 ≤ (su _ (c.hv.set 0 _) 0).length; rw [su_length, List.length_set]; omega
      case q2 =>
        refine off_cons i1 (off_cons (Ne.symm o6.2) (off_cons i3 (off_cons i4 (off_cons i5 (off_cons i6 (off_cons (Ne.symm o6.1) (off_cons (Ne.symm a7) ?_)))))))
        exact il
      case q3 =>
        intro q hq
        unfold led3 at hq
        simp only [List.mem_cons] at hq ⊢
        rcases hq with h | h | h | h | h | h | h | h | h | h <;> (repeat (first | exact h | exact Or.inl h | apply Or.inr))
      case q4 =>
        intro z z1 z2 z3
        have z3' := z3
        unfold stored3 at z3'
        simp only [List.contains_cons, List.contains_nil, Bool.or_false, Bool.or_eq_false_iff, beq_eq_false_iff_ne, ne_eq] at z3'
        by_cases z5 : z = Str.ofString "width"
        · simp only [z5, if_true]
          rw [if_neg (by decide), ← hwidth]
          rw [z5] at z1 z2 z3
          exact hm _ z1 z2 z3
        · simp only [z2, z3'.1, z3'.2, z5, if_false]
          exact hm z z1 z2 z3
end
end Mine
namespace Mine
def out3 (c : St3) (u m₀ : Str → Option Value) : Str → Option Value := fun y => if y = Str.ofString "name" then u y else kstB (fun z => if stored3.contains z then u z else m₀ z) (ps3 c) y
local macro_rules | `(tactic| walk_at "zz") => `(tactic| fail)
local macro_rules | `(tactic| walk_at "zz") => `(tactic| fail)
local macro_rules | `(tactic| walk_at "zz") => `(tactic| fail)
local macro_rules | `(tactic| walk_at "zz") => `(tactic| fail)
local macro_rules | `(tactic| walk_at "zz") => `(tactic| fail)
local macro_rules | `(tactic| walk_at "call ref") => `(tactic| refine Stop.out ?_)
local macro_rules | `(tactic| walk_at "exec For") => `(tactic| refine Stop.out ?_)
local macro_rules | `(tactic| walk_at "pyIter ref") => `(tactic| refine Stop.out ?_)
local macro_rules | `(tactic| walk_at "storeName") => `(tactic| refine Stop.out ?_)
local macro_rules | `(tactic| walk_at "CompSrcT") => `(tactic| refine Stop.out ?_)
local macro_rules | `(tactic| walk_at "CompSrc") => `(tactic| refine Stop.out ?_)
theorem part_l (w : World) (mean : ExcName → Option Value) (mg mb : Str → Option Value) (h₀ : Heap) (L fa : Addr) (cd : Value) (base : Heap)
    (ha nma : Addr) (och : Obj) (nvs : List Value) (nn : Nat) (W : Nat) (tw : Tok) (ns : List Int) (m₀ : Str → Option Value) (s0 : Shared) (Q : Flow → Shared → Prop)
    (B : Below callerA base [] h₀) (X : (Mine.hd03.heap_39 w.params).In h₀) (T : Top Mine.hd03.view_39 (looseW Mine.hd03.view_39 []) mean mg mb h₀)
    (hoh : och.data = .cell (some (.ref ha))) (hW : W ≤ 10) (hW1 : 1 ≤ W) (c0 : St3) (hip : IntsAre nvs ns) (hn : ns.length ≤ 60)
    (g : Good L ha nma W [] c0) (F : Fr h₀ L s0.heap m₀) (N : News h₀ L s0.heap (led3 L ha nma och nvs nn c0))
    (hrow : m₀ (Str.ofString "row") = some (.ref c0.ra)) (hnames : m₀ (Str.ofString "names") = some (.ref nma)) (hwidth : m₀ (Str.ofString "width") = some (.int (W : Int) tw))
    (hnext : ∀ c u h' tk', Good L ha nma W ns c → Fr h₀ L h' (out3 c u m₀) → News h₀ L h' (led3 L ha nma och nvs nn c) →
      wpAny (model PySem.Challenge.rw_dp0035_03.row.prog w) (callerA.deeper (envOfC (Str.ofString "law") (defScope PySem.Challenge.pw_dp0035_03 5) L fa cd))
        (execs ((defBody PySem.Challenge.pw_dp0035_03 5).drop 5) (envOfC (Str.ofString "law") (defScope PySem.Challenge.pw_dp0035_03 5) L fa cd)) Q (fun _ _ => False) { s0 with heap := h', toks := tk' }) :
    wpAny (model PySem.Challenge.rw_dp0035_03.row.prog w) (callerA.deeper (envOfC (Str.ofString "law") (defScope PySem.Challenge.pw_dp0035_03 5) L fa cd))
      (execs ((defBody PySem.Challenge.pw_dp0035_03 5).drop 4) (envOfC (Str.ofString "law") (defScope PySem.Challenge.pw_dp0035_03 5) L fa cd)) Q (fun _ _ => False) s0 := by
  have hfill : PySem.Challenge.rw_dp0035_03 = PySem.Challenge.rw_dp0035_03 ∧ Mine.hd03.heap_39 = Mine.hd03.heap_39 := by
    k_fill
    exact ⟨rfl, rfl⟩
  clear hfill
  w_top off
  k_with_none
  have F0 := fr_put F hnames
  conv in (List.drop 4 _) => whnf
  conv in (occs := *) (defScope _ _) => all_goals whnf
  k_steps
  refine Stop.go ?_
  refine For_turns F0 ?_
  k_steps
  refine Stop.go ?_
  refine lp_turns (Str.ofString "name") (led3 L ha nma och nvs nn) ps3 stored3 (fun i c => Good L ha nma W (ns.take i) c) c0 rfl (fun i c _ => .tail _ (.tail _ (.tail _ (.tail _ (.tail _ (.head _)))))) F N ?l1 (by rw [List.take_zero]; exact g) ?l2 ?l3
  case l1 =>
    intro p hp
    rcases List.mem_cons.mp hp with rfl | hp
    · exact hrow
    · exact nomatch hp
  case l3 =>
    intro c u h tk gc F1 N1
    rw [hip.length, List.take_length] at gc
    exact hnext c u h tk gc F1 N1
  case l2 =>
    rintro i c v u h tk I oI hi hvi gi hI F1 N1
    k_steps
    refine Stop.go ?_
    have X1 := gi.fix
    obtain ⟨cx, hcx⟩ := gi.cn
    replace F1 : Fr h₀ L h (out3 c u m₀) := F1
    replace N1 : News h₀ L h ((I, oI) :: led3 L ha nma och nvs nn c) := N1
    have i1 := hI _ (.head _)
    have i2 := hI _ (.tail _ (.head _))
    have i3 := hI _ (.tail _ (.tail _ (.head _)))
    have i4 := hI _ (.tail _ (.tail _ (.tail _ (.head _))))
    have i5 := hI _ (.tail _ (.tail _ (.tail _ (.tail _ (.head _)))))
    have i6 := hI _ (.tail _ (.tail _ (.tail _ (.tail _ (.tail _ (.head _))))))
    have il : ∀ q ∈ c.led, q.1 ≠ I := fun q hq => hI q (.tail _ (.tail _ (.tail _ (.tail _ (.tail _ (.tail _ hq))))))
    dsimp only at i1 i2 i3 i4 i5 i6
    have hoff : ∀ p ∈ (I, oI) :: (ha, listOf c.hv.toArray c.hn) :: (c.ra, listOf c.rv.toArray c.rn) :: (L + 1 + 1, och) :: (L + 1 + 1 + 1 + 1, c.ocl) :: (nma, listOf nvs.toArray nn) :: c.led, p.1 ≠ L + 1 + 1 + 1 := by
      refine off_cons (Ne.symm i4) (off_cons X1.f2 (off_cons X1.f10 (off_cons (Nat.ne_of_lt (Nat.lt_succ_self _)) (off_cons (Nat.ne_of_gt (Nat.lt_succ_self _)) (off_cons X1.f6 ?_)))))
      exact fun q hq => (gi.off hq).2.2.2.1
    k_dflt (refine storeX_C (c := L + 1 + 1 + 1) (g := fun o' => (L + 1 + 1 + 1, o') :: (I, oI) :: (ha, listOf c.hv.toArray c.hn) :: (c.ra, listOf c.rv.toArray c.rn) :: (L + 1 + 1, och) :: (L + 1 + 1 + 1 + 1, c.ocl) :: (nma, listOf nvs.toArray nn) :: c.led) F1 (news_sub N1 ?k1) rfl (UpdF.head hoff) hcx ?_)
    case k1 =>
      intro q hq
      unfold led3
      simp only [List.mem_cons] at hq ⊢
      rcases hq with h | h | h | h | h | h | h | h <;> (repeat (first | exact h | exact Or.inl h | apply Or.inr))
    intro h2 ocn' F2 N2 hocn'
    obtain ⟨tn, rfl⟩ := hip.int_at i v hvi
    generalize hnm : ns.getD i 0 = nm at *
    have hns : ns.take (i + 1) = ns.take i ++ [nm] := by
      have hi' : i < ns.length := by rw [← hip.length]; exact hi
      rw [List.take_add_one, List.getElem?_eq_getElem hi', ← hnm, List.getD_eq_getElem?_getD, List.getElem?_eq_getElem hi']; rfl
    have gc : Good L ha nma W (ns.take i) { c with ocn := ocn' } := { gi with cn := ⟨_, hocn'⟩ }
    generalize hc : ({ c with ocn := ocn' } : St3) = c' at gc
    have e1 : c'.hv = c.hv := by rw [← hc]
    have e2 : c'.hn = c.hn := by rw [← hc]
    have e3 : c'.rv = c.rv := by rw [← hc]
    have e4 : c'.ra = c.ra := by rw [← hc]
    have e5 : c'.rn = c.rn := by rw [← hc]
    have e6 : c'.ocn = ocn' := by rw [← hc]
    have e7 : c'.ocl = c.ocl := by rw [← hc]
    have e8 : c'.led = c.led := by rw [← hc]
    have hrow' : (out3 c u m₀) (Str.ofString "row") = some (.ref c'.ra) := by rw [e4]; rfl
    have hwidth' : (out3 c u m₀) (Str.ofString "width") = some (.int (W : Int) tw) := hwidth
    have hm' : ∀ z, z ≠ Str.ofString "name" → z ≠ Str.ofString "row" → stored3.contains z = false → (out3 c u m₀) z = m₀ z := by
      intro z z1 z2 z3
      unfold out3 ps3
      simp only [kstB, z1, z2, z3, if_false, Bool.false_eq_true]
    rw [← e1, ← e2, ← e3, ← e4, ← e5, ← e7, ← e8] at N2
    rw [← e6] at N2 hocn'
    have hI' : ∀ p ∈ led3 L ha nma och nvs nn c', p.1 ≠ I := by
      unfold led3
      rw [e8]
      exact off_cons i1 (off_cons (e4 ▸ i2) (off_cons i3 (off_cons i4 (off_cons i5 (off_cons i6 il)))))
    clear hc e1 e2 e3 e5 e6 e7 e8 hoff gi N1 F1
    generalize out3 c u m₀ = m at *
    have hl := gc.len
    have s6 : ∀ q ∈ c'.led, q ∈ (L + 1 + 1 + 1 + 1, c'.ocl) :: (nma, listOf nvs.toArray nn) :: (I, oI) :: c'.led := fun q hq => .tail _ (.tail _ (.tail _ hq))
    refine part_pk w mean mg mb h₀ L fa cd base ((L + 1 + 1 + 1 + 1, c'.ocl) :: (nma, listOf nvs.toArray nn) :: (I, oI) :: c'.led) _ m ha c'.ra c'.hv c'.rv c'.hn c'.rn och c'.ocn nm tn c'.K _ B X T (fr_put F2 hrow') (news_sub N2 ?k2) hoh hocn' (fun v hv => (gc.he v hv).mono s6) (fun v hv => (gc.hr v hv).mono s6) (by omega) (by omega) ?k3
    case k2 =>
      intro q hq
      simp only [List.mem_cons] at hq ⊢
      rcases hq with h | h | h | h | h | h | h | h <;> (repeat (first | exact h | exact Or.inl h | apply Or.inr))
    case k3 =>
      intro h3 tk3 pa ka pv pn kn F3 N3 hip3 hpk hpka
      have N4 := news_sub (l' := (ka, listOf (c'.rv.filter fun v => decide ((c'.K v).2 = nm)).toArray kn) :: (pa, listOf pv.toArray pn) :: (I, oI) :: led3 L ha nma och nvs nn c') N3 (by
        intro q hq
        unfold led3 at hq
        simp only [List.mem_cons] at hq ⊢
        rcases hq with h | h | h | h | h | h | h | h | h | h <;> (repeat (first | exact h | exact Or.inl h | apply Or.inr)))
      have hpk' : ∀ p ∈ (I, oI) :: led3 L ha nma och nvs nn c', p.1 ≠ pa ∧ p.1 ≠ ka := by
        intro q hq
        refine hpk q ?_
        unfold led3 at hq
        simp only [List.mem_cons] at hq ⊢
        rcases hq with h | h | h | h | h | h | h | h <;> (repeat (first | exact h | exact Or.inl h | apply Or.inr))
      have hm3 : ∀ z, z ≠ Str.ofString "name" → z ≠ Str.ofString "row" → stored3.contains z = false → (fun y => if y = Str.ofString "known" then some (Value.ref ka) else if y = Str.ofString "place" then some (.ref pa) else if y = Str.ofString "row" then some (.ref c'.ra) else m y) z = m₀ z := by
        intro z z1 z2 z3
        have z3' := z3
        unfold stored3 at z3'
        simp only [List.contains_cons, List.contains_nil, Bool.or_false, Bool.or_eq_false_iff, beq_eq_false_iff_ne, ne_eq] at z3'
        simp only [z2, z3'.1, z3'.2, if_false]
        exact hm' z z1 z2 z3
      by_cases hpl : places c'.K c'.hv nm c'.hv.length = []
      · have hx := places_nil hpl
        rw [hpl] at hip3
        have hpv := hip3.nil_inv
        subst hpv
        rw [gc.none hx] at N4
        by_cases hroom : c'.hv.length < W
        · exact turn_r w mean mg mb h₀ L fa cd base ha nma och nvs nn W tw ns m₀ s0 _ B X T hoh hW i c' I oI h3 tk3 _ nm tn pa ka pn kn gc hns hI' hocn' F3 N4 hpk' hpka hx hroom rfl rfl rfl hwidth' hm3
        · exact turn_f w mean mg mb h₀ L fa cd base ha nma och nvs nn W tw ns m₀ s0 _ B X T hoh hW hW1 i c' I oI h3 tk3 _ nm tn pa ka pn kn gc hns hI' hocn' F3 N4 hpk' hpka hx hroom rfl rfl rfl hwidth' hm3
      · exact turn_k w mean mg mb h₀ L fa cd base ha nma och nvs nn W ns m₀ s0 _ B X T hoh hW i c' I oI h3 tk3 _ nm tn pa ka pv pn kn gc hns hI' hocn' F3 N4 hpk' hpka hip3 hpl rfl rfl rfl hm3
end Mine
namespace Mine
local macro_rules | `(tactic| walk_at "zz") => `(tactic| fail)
local macro_rules | `(tactic| walk_at "zz") => `(tactic| fail)
local macro_rules | `(tactic| walk_at "zz") => `(tactic| fail)
local macro_rules | `(tactic| walk_at "zz") => `(tactic| fail)
local macro_rules | `(tactic| walk_at "zz") => `(tactic| fail)
local macro_rules | `(tactic| walk_at "zz") => `(tactic| fail)
local macro_rules | `(tactic| walk_at "zz") => `(tactic| fail)
local macro_rules | `(tactic| walk_at "call ref") => `(tactic| refine Stop.out ?_)
local macro_rules | `(tactic| walk_at "exec For") => `(tactic| refine Stop.out ?_)
local macro_rules | `(tactic| walk_at "storeName") => `(tactic| refine Stop.out ?_)
local macro_rules | `(tactic| walk_at "pyIter ref") => `(tactic| refine Stop.out ?_)
local macro_rules | `(tactic| walk_at "execs cons") => `(tactic| ((with_reducible show wpAny _ _ (execs (Stmt.For _ _ _ _ _ :: _) _) _ _ _); refine Stop.out ?_))
theorem part_m (w : World) (mean : ExcName → Option Value) (mg mb : Str → Option Value) (h₀ : Heap) (L fa : Addr) (cd : Value) (base : Heap) (rest : List (Addr × Obj)) (s : Shared) (u : Str → Option Value)
    (ha : Addr) (hv : List Value) (hn : Nat) (och ocl : Obj) (cx : Option Value) (W : Int) (tw : Tok) (K : Value → Int × Int) (Q : Flow → Shared → Prop)
    (B : Below callerA base [] h₀) (X : (Mine.hd03.heap_39 w.params).In h₀) (T : Top Mine.hd03.view_39 (looseW Mine.hd03.view_39 []) mean mg mb h₀)
    (F : Fr h₀ L s.heap (fun y => if y = Str.ofString "width" then some (.int W tw) else u y))
    (N : News h₀ L s.heap ((L + 1 + 1 + 1 + 1, ocl) :: (ha, listOf hv.toArray hn) :: (L + 1 + 1, och) :: rest)) (hoh : och.data = .cell (some (.ref ha))) (hol : ocl.data = .cell cx)
    (hll : ∀ p ∈ (ha, listOf hv.toArray hn) :: (L + 1 + 1, och) :: rest, p.1 ≠ L + 1 + 1 + 1 + 1)
    (he : ∀ v ∈ hv, EntIn rest v (K v)) (hl2 : hv.length < 64) (hW : 1 ≤ W)
    (hnext : ∀ h' tk' ocl' least tl, Fr h₀ L h' (fun y => if y = Str.ofString "width" then some (.int W tw) else u y) →
      News h₀ L h' ((L + 1 + 1 + 1 + 1, ocl') :: (ha, listOf hv.toArray hn) :: (L + 1 + 1, och) :: rest) → ocl'.data = .cell (some (.int least tl)) →
      (((hv.length : Int) = W ∧ ∃ r ∈ hv.map K, r.1 = least) ∨ ((hv.length : Int) ≠ W ∧ least = 0)) →
      wpAny (model PySem.Challenge.rw_dp0035_03.row.prog w) (callerA.deeper (envOfC (Str.ofString "law") (defScope PySem.Challenge.pw_dp0035_03 5) L fa cd))
        (execs ((defBody PySem.Challenge.pw_dp0035_03 5).drop 6) (envOfC (Str.ofString "law") (defScope PySem.Challenge.pw_dp0035_03 5) L fa cd)) Q (fun _ _ => False) { s with heap := h', toks := tk' }) :
    wpAny (model PySem.Challenge.rw_dp0035_03.row.prog w) (callerA.deeper (envOfC (Str.ofString "law") (defScope PySem.Challenge.pw_dp0035_03 5) L fa cd))
      (execs ((defBody PySem.Challenge.pw_dp0035_03 5).drop 5) (envOfC (Str.ofString "law") (defScope PySem.Challenge.pw_dp0035_03 5) L fa cd)) Q (fun _ _ => False) s := by
  have hfill : PySem.Challenge.rw_dp0035_03 = PySem.Challenge.rw_dp0035_03 ∧ Mine.hd03.heap_39 = Mine.hd03.heap_39 := by
    k_fill
    exact ⟨rfl, rfl⟩
  clear hfill
  w_top off
  k_with_none
  conv in (List.drop 5 _) => whnf
  conv in (occs := *) (defScope _ _) => all_goals whnf
  k_steps
  refine len_at N (.tail _ (.head _)) (by omega) ?_
  intro t2 tk2
  k_steps
  · rename _ = W => hc
    have h0 : 0 < hv.length := by omega
    refine item_at N (.tail _ (.head _)) 0 rfl h0 (by omega) ?_
    obtain ⟨ea, t3, t4, ee, hea, hem⟩ := he _ (getD_mem h0)
    have hmm : K (hv.getD 0 default) ∈ hv.map K := List.mem_map_of_mem (getD_mem h0)
    rw [hea] at hem hmm ⊢
    k_steps
    refine ent_fst N (.tail _ (.tail _ (.tail _ hem))) ?_
    k_steps
    refine Stop.go ?_
    k_dflt (refine storeX_C (c := L + 1 + 1 + 1 + 1) (g := fun o' => (L + 1 + 1 + 1 + 1, o') :: (ha, listOf hv.toArray hn) :: (L + 1 + 1, och) :: rest) F N rfl (UpdF.head hll) hol ?_)
    intro h4 ocl' F4 N4 hol'
    k_steps
    refine Stop.go ?_
    exact hnext _ _ _ _ _ F4 N4 hol' (.inl ⟨hc, _, hmm, rfl⟩)
  · rename _ ≠ W => hc
    refine Stop.go ?_
    k_dflt (refine storeX_C (c := L + 1 + 1 + 1 + 1) (g := fun o' => (L + 1 + 1 + 1 + 1, o') :: (ha, listOf hv.toArray hn) :: (L + 1 + 1, och) :: rest) F N rfl (UpdF.head hll) hol ?_)
    intro h4 ocl' F4 N4 hol'
    k_steps
    refine Stop.go ?_
    exact hnext _ _ _ _ _ F4 N4 hol' (.inr ⟨hc, rfl⟩)
end Mine
namespace Mine
theorem eq_ints {prog : Program} {w : World} {A : Around} {E : Value → Shared → Prop} {s : Shared} {h₀ : Heap} {L a b : Addr} {news : List (Addr × Obj)} {k1 k2 : Nat} {vs ws : List Value} {ns ms : List Int} {Q : Value → Shared → Prop} (N : News h₀ L s.heap news) (ma : (a, listOf vs.toArray k1) ∈ news) (mb : (b, listOf ws.toArray k2) ∈ news) (hp : IntsAre vs ns) (hq : IntsAre ws ms) (hu : A.units + 64 < cLine)
    (h : Q (.bool (decide (ns = ms))) s) : wpAny (model prog w) A (compareOp .Eq (.ref a) (.ref b)) Q E s := by
  have hok : ∀ us : List Int, ∀ d ∈ us.map Dat.int, kqdOk 8 d = true := by
    intro us d hd
    obtain ⟨v, _, rfl⟩ := List.mem_map.mp hd
    rfl
  refine kqd_eq N ma rfl rfl (n₁ := []) (ints_dat hp) (fun _ h => nomatch h) mb rfl rfl (n₂ := []) (ints_dat hq) (fun _ h => nomatch h) (hok ns) (hok ms) hu ?_
  have inj : ∀ us vs : List Int, us.map Dat.int = vs.map Dat.int ↔ us = vs := by
    intro us
    induction us with
    | nil => intro vs; cases vs <;> simp
    | cons u us ih =>
      intro vs
      cases vs with
      | nil => simp
      | cons v vs => simp only [List.map_cons, List.cons.injEq, ih vs, Dat.int.injEq]
  have e : ∀ i : Decidable (ns.map Dat.int = ms.map Dat.int), @decide _ i = decide (ns = ms) := by
    intro i
    by_cases hc : ns = ms
    · rw [decide_eq_true hc, decide_eq_true ((inj ns ms).mpr hc)]
    · rw [decide_eq_false hc, decide_eq_false fun q => hc ((inj ns ms).mp q)]
  rw [e]
  exact h
local macro_rules | `(tactic| walk_at "zz") => `(tactic| fail)
local macro_rules | `(tactic| walk_at "zz") => `(tactic| fail)
local macro_rules | `(tactic| walk_at "zz") => `(tactic| fail)
local macro_rules | `(tactic| walk_at "zz") => `(tactic| fail)
local macro_rules | `(tactic| walk_at "zz") => `(tactic| fail)
local macro_rules | `(tactic| walk_at "zz") => `(tactic| fail)
local macro_rules | `(tactic| walk_at "zz") => `(tactic| fail)
local macro_rules | `(tactic| walk_at "call ref") => `(tactic| refine Stop.out ?_)
local macro_rules | `(tactic| walk_at "CompSrcT") => `(tactic| refine Stop.out ?_)
local macro_rules | `(tactic| walk_at "compareOp NotEq ref ref") => `(tactic| refine Stop.out ?_)
local macro_rules | `(tactic| walk_at "compareOp Eq ref ref") => `(tactic| refine Stop.out ?_)
local macro_rules | `(tactic| walk_at "exec Assign cons ListComp") => `(tactic| refine Stop.out ?_)
local macro_rules | `(tactic| walk_at "eval ListComp") => `(tactic| refine Stop.out ?_)

theorem part_t (w : World) (mean : ExcName → Option Value) (mg mb : Str → Option Value) (h₀ : Heap) (L fa : Addr) (cd : Value) (base : Heap) (rest : List (Addr × Obj)) (s : Shared) (u : Str → Option Value)
    (ha nma : Addr) (hv nvs : List Value) (ns : List Int) (hn nn : Nat) (och ocn ocl : Obj) (nm : Int) (tn : Tok) (least : Int) (tl : Tok) (K : Value → Int × Int) (Q : Flow → Shared → Prop)
    (B : Below callerA base [] h₀) (X : (Mine.hd03.heap_39 w.params).In h₀) (T : Top Mine.hd03.view_39 (looseW Mine.hd03.view_39 []) mean mg mb h₀)
    (F : Fr h₀ L s.heap (fun y => if y = Str.ofString "names" then some (.ref nma) else u y))
    (N : News h₀ L s.heap ((ha, listOf hv.toArray hn) :: (nma, listOf nvs.toArray nn) :: (L + 1 + 1, och) :: (L + 1 + 1 + 1, ocn) :: (L + 1 + 1 + 1 + 1, ocl) :: rest))
    (hoh : och.data = .cell (some (.ref ha))) (hoc : ocn.data = .cell (some (.int nm tn))) (hol : ocl.data = .cell (some (.int least tl)))
    (he : ∀ v ∈ hv, EntIn rest v (K v)) (hip : IntsAre nvs ns) (hl1 : hv.length < 64) (hl2 : ns.length < 64)
    (f1 : (∀ v ∈ hv, (K v).2 ≠ nm) → (ns.count nm : Int) ≤ least) (f2 : ∀ v ∈ hv, (K v).2 = nm → (ns.count nm : Int) ≤ (K v).1 ∧ (K v).1 - least ≤ (ns.count nm : Int))
    (hret : ∀ h' tk' tv cv, Fr h₀ L h' (fun y => if y = Str.ofString "told" then tv else if y = Str.ofString "came" then cv else if y = Str.ofString "names" then some (.ref nma) else u y) →
      News h₀ L h' ((ha, listOf hv.toArray hn) :: (nma, listOf nvs.toArray nn) :: (L + 1 + 1, och) :: (L + 1 + 1 + 1, ocn) :: (L + 1 + 1 + 1 + 1, ocl) :: rest) → Q .next { s with heap := h', toks := tk' }) :
    wpAny (model PySem.Challenge.rw_dp0035_03.row.prog w) (callerA.deeper (envOfC (Str.ofString "law") (defScope PySem.Challenge.pw_dp0035_03 5) L fa cd))
      (execs (forBody ((defBody PySem.Challenge.pw_dp0035_03 5).drop 6)) (envOfC (Str.ofString "law") (defScope PySem.Challenge.pw_dp0035_03 5) L fa cd)) Q (fun _ _ => False) s := by
  have hfill : PySem.Challenge.rw_dp0035_03 = PySem.Challenge.rw_dp0035_03 ∧ Mine.hd03.heap_39 = Mine.hd03.heap_39 := by
    k_fill
    exact ⟨rfl, rfl⟩
  clear hfill
  w_top off
  k_with_none
  conv in (forBody _) => whnf
  conv in (occs := *) (defScope _ _) => all_goals whnf
  have hnl := hip.length
  have s5 : ∀ p ∈ rest, p ∈ (ha, listOf hv.toArray hn) :: (nma, listOf nvs.toArray nn) :: (L + 1 + 1, och) :: (L + 1 + 1 + 1, ocn) :: (L + 1 + 1 + 1 + 1, ocl) :: rest := fun p hp => .tail _ (.tail _ (.tail _ (.tail _ (.tail _ hp))))
  k_steps
  refine Stop.go ?_
  k_dflt (refine LCt.ListComp_T (F₀ := F) (by with_unfolding_all rfl) (by decide) (by rfl) (by decide) (by rfl) ?_)
  k_steps
  refine Stop.go ?_
  refine LCt.CompSrcT.ledger rfl F N (.tail _ (.head _)) (by rw [sizeLine_eq, List.size_toArray]; omega) ?_
  intro g5
  refine compT_inv (fun i ys => ys.length = (ns.take i).count nm) rfl ?_ ?_
  · rintro i v I oI C oC D m₂ ys h tk E' hi hv' hys hC hx F5 N5 off ne
    rw [List.size_toArray] at hi
    rw [List.getElem?_toArray] at hv'
    obtain ⟨t7, rfl⟩ := hip.int_at i v hv'
    have hi' : i < ns.length := by omega
    have htk : ns.take (i + 1) = ns.take i ++ [ns.getD i 0] := by
      rw [List.take_add_one, List.getElem?_eq_getElem hi', List.getD_eq_getElem?_getD, List.getElem?_eq_getElem hi']; rfl
    generalize ns.getD i 0 = xx at *
    k_steps
    · rename _ = nm => hnm
      refine LCg.CompEnd.intro F5 N5 _ (fun p hp => hp) off (.inr ⟨_, .tail _ (.head _), rfl, _, rfl⟩) ⟨rfl, ?_⟩
      rw [htk, List.count_append, List.length_append, hys]
      simp [hnm]
    · rename _ ≠ nm => hnm
      refine LCg.CompEnd.intro F5 N5 _ (fun p hp => hp) off (.inr ⟨_, .tail _ (.head _), rfl, _, rfl⟩) ⟨rfl, ?_⟩
      rw [htk, List.count_append, hys]
      simp [hnm]
  · intro ys hys
    rw [List.size_toArray, hnl, List.take_length] at hys
    k_steps
    rename Fr _ _ _ (fun _ => _) => F6
    rename News _ _ _ ((_, LCg.lst ys) :: _) => N6
    have hcl : ns.count nm ≤ ns.length := List.count_le_length
    refine len_at N6 (.head _) (by omega) ?_
    intro t6 tk6
    k_steps
    refine Stop.go ?_
    rename Fr _ _ _ (fun z => if z = Str.ofString "came" then _ else _) => F7
    rename News _ _ _ ((_, LCg.lst ys) :: _) => N7
    replace N7 := news_sub (l' := (ha, listOf hv.toArray hn) :: (nma, listOf nvs.toArray nn) :: (L + 1 + 1, och) :: (L + 1 + 1 + 1, ocn) :: (L + 1 + 1 + 1 + 1, ocl) :: rest) N7 (fun p hp => .tail _ hp)
    k_dflt (refine LCt.Assign_ListComp_T (F₀ := F7) (by rfl) (by with_unfolding_all rfl) (by with_unfolding_all rfl) (by decide) (by rfl) (by decide) (by rfl) (by rfl) (by rfl) ?_)
    k_steps
    refine Stop.go ?_
    refine LCt.CompSrcT.ledger rfl F7 N7 (.head _) (by rw [sizeLine_eq, List.size_toArray]; omega) ?_
    intro g8
    refine compT_inv (fun i ys => IntsAre ys (((hv.take i).filter fun v => decide ((K v).2 = nm)).map fun v => (K v).1)) .nil ?_ ?_
    · rintro i v I oI C oC D m₂ ys8 h tk E' hi hv' hys8 hC hx F8 N8 off ne
      rw [List.size_toArray] at hi
      rw [List.getElem?_toArray] at hv'
      obtain ⟨ea, t1, t2, ee, rfl, hem⟩ := he v (List.mem_of_getElem? hv')
      have htk : hv.take (i + 1) = hv.take i ++ [Value.ref ea] := by rw [List.take_add_one, hv']; rfl
      k_steps
      refine ent_snd N8 (.tail _ (.tail _ (.tail _ (s5 _ hem)))) ?_
      k_steps
      · rename _ = nm => hnm
        refine ent_fst N8 (.tail _ (.tail _ (.tail _ (s5 _ hem)))) ?_
        refine LCg.CompEnd.intro F8 N8 _ (fun p hp => hp) off (.inr ⟨_, .head _, rfl, _, rfl⟩) ⟨rfl, ?_⟩
        rw [htk, List.filter_append, List.map_append]
        refine ints_app hys8 ?_
        rw [List.filter_cons_of_pos (by simpa using hnm)]
        exact ints_one rfl
      · rename _ ≠ nm => hnm
        refine LCg.CompEnd.intro F8 N8 _ (fun p hp => hp) off (.inr ⟨_, .head _, rfl, _, rfl⟩) ⟨rfl, ?_⟩
        rw [htk, List.filter_append]
        simpa [hnm] using hys8
    · intro ys8 hys8
      rw [List.size_toArray, List.take_length] at hys8
      have hnil : (((hv.filter fun v => decide ((K v).2 = nm)).map fun v => (K v).1) = [] → (ys.length : Int) ≤ least) := by
        intro e
        rw [hys]
        refine f1 fun v hv' h => ?_
        have := List.filter_eq_nil_iff.mp (List.map_eq_nil_iff.mp e) v hv'
        exact this (by simpa using h)
      have hcons : ∀ q r, ((hv.filter fun v => decide ((K v).2 = nm)).map fun v => (K v).1) = q :: r → (ys.length : Int) ≤ q ∧ q - least ≤ (ys.length : Int) := by
        intro q r e
        have hq : q ∈ (hv.filter fun v => decide ((K v).2 = nm)).map fun v => (K v).1 := by rw [e]; exact .head _
        obtain ⟨v, hv', rfl⟩ := List.mem_map.mp hq
        obtain ⟨h1, h2⟩ := List.mem_filter.mp hv'
        rw [hys]
        exact f2 v h1 (by simpa using h2)
      have htl : ((hv.filter fun v => decide ((K v).2 = nm)).map fun v => (K v).1).length < 64 := by
        rw [List.length_map]
        have := List.length_filter_le (fun v => decide ((K v).2 = nm)) hv
        omega
      generalize ((hv.filter fun v => decide ((K v).2 = nm)).map fun v => (K v).1) = told at *
      clear f1 f2
      k_steps
      refine Stop.go ?_
      rename News _ _ _ (_ :: (_, LCg.lst ys8) :: (ha, _) :: _) => N9
      refine eq_ints (ws := []) (ms := []) N9 (.tail _ (.head _)) (.head _) hys8 .nil (Nat.le_of_ble_eq_true rfl) ?_
      cases told with
      | nil =>
        have hle := hnil rfl
        rw [decide_eq_true rfl]
        clear hcons hnil
        k_steps
        refine Stop.go ?_
        rename News _ _ _ (_ :: _ :: (_, LCg.lst ys8) :: (ha, _) :: _) => N10
        refine ne_ints (ws := []) (ms := []) N10 (.tail _ (.tail _ (.head _))) (.head _) hys8 .nil (Nat.le_of_ble_eq_true rfl) ?_
        rw [decide_eq_true rfl]
        k_steps
        rename Fr _ _ _ (fun z => if z = Str.ofString "told" then _ else _) => F10
        exact hret _ _ _ _ F10 (news_sub N10 fun p hp => .tail _ (.tail _ (.tail _ hp)))
      | cons q r =>
        obtain ⟨hq1, hq2⟩ := hcons q r rfl
        rw [decide_eq_false (by simp)]
        clear hcons hnil
        k_steps
        refine Stop.go ?_
        rename News _ _ _ (_ :: _ :: (_, LCg.lst ys8) :: (ha, _) :: _) => N10
        refine ne_ints (ws := []) (ms := []) N10 (.tail _ (.tail _ (.head _))) (.head _) hys8 .nil (Nat.le_of_ble_eq_true rfl) ?_
        rw [decide_eq_false (by simp)]
        k_steps
        · rename List.getD _ _ _ < _ => hb
          replace hb : q < (ys.length : Int) := hb
          omega
        · rename _ < List.getD _ _ _ - least => hb
          replace hb : (ys.length : Int) < q - least := hb
          omega
        · rename Fr _ _ _ (fun z => if z = Str.ofString "told" then _ else _) => F10
          exact hret _ _ _ _ F10 (news_sub N10 fun p hp => .tail _ (.tail _ (.tail _ hp)))
end Mine
namespace Mine
local macro_rules | `(tactic| walk_at "call ref") => `(tactic| refine Stop.out ?_)
local macro_rules | `(tactic| walk_at "CompSrc") => `(tactic| refine Stop.out ?_)
local macro_rules | `(tactic| walk_at "call builtin:sum") => `(tactic| refine Stop.out ?_)
theorem part_o (w : World) (mean : ExcName → Option Value) (mg mb : Str → Option Value) (h₀ : Heap) (L fa : Addr) (cd : Value) (base : Heap) (rest : List (Addr × Obj)) (s : Shared) (u : Str → Option Value)
    (ha nma : Addr) (hv nvs : List Value) (ns : List Int) (hn nn : Nat) (och : Obj) (K : Value → Int × Int) (Q : Flow → Shared → Prop)
    (B : Below callerA base [] h₀) (X : (Mine.hd03.heap_39 w.params).In h₀) (T : Top Mine.hd03.view_39 (looseW Mine.hd03.view_39 []) mean mg mb h₀)
    (F : Fr h₀ L s.heap (fun y => if y = Str.ofString "alike" then some (.bool true) else if y = Str.ofString "names" then some (.ref nma) else u y))
    (N : News h₀ L s.heap ((ha, listOf hv.toArray hn) :: (nma, listOf nvs.toArray nn) :: (L + 1 + 1, och) :: rest)) (hoh : och.data = .cell (some (.ref ha)))
    (he : ∀ v ∈ hv, EntIn rest v (K v)) (hip : IntsAre nvs ns) (hl1 : hv.length < 64) (hl2 : ns.length < 64) (hsum : (hv.map fun v => (K v).1).sum = (ns.length : Int))
    (hret : ∀ h' tk' m', Fr h₀ L h' m' → Q (.ret (.bool true)) { s with heap := h', toks := tk' }) :
    wpAny (model PySem.Challenge.rw_dp0035_03.row.prog w) (callerA.deeper (envOfC (Str.ofString "law") (defScope PySem.Challenge.pw_dp0035_03 5) L fa cd))
      (execs ((defBody PySem.Challenge.pw_dp0035_03 5).drop 7) (envOfC (Str.ofString "law") (defScope PySem.Challenge.pw_dp0035_03 5) L fa cd)) Q (fun _ _ => False) s := by
  have hfill : PySem.Challenge.rw_dp0035_03 = PySem.Challenge.rw_dp0035_03 ∧ Mine.hd03.heap_39 = Mine.hd03.heap_39 := by
    k_fill
    exact ⟨rfl, rfl⟩
  clear hfill
  w_top off
  k_with_none
  conv in (List.drop 7 _) => whnf
  conv in (occs := *) (defScope _ _) => all_goals whnf
  have s3 : ∀ p ∈ rest, p ∈ (ha, listOf hv.toArray hn) :: (nma, listOf nvs.toArray nn) :: (L + 1 + 1, och) :: rest := fun p hp => .tail _ (.tail _ (.tail _ hp))
  k_steps
  refine Stop.go ?_
  refine LCg.CompSrc.ledger rfl F N (.head _) (by rw [sizeLine_eq, List.size_toArray]; omega) ?_
  intro g1
  refine comp_inv (fun i ys nw => nw = _ ∧ IntsAre ys ((hv.take i).map fun v => (K v).1)) ⟨rfl, .nil⟩ ?_ ?_
  · rintro i v I oI C oC D m₂ ys nw h tk E' hi hv' ⟨rfl, hys⟩ hC hx F2 N2 off ne
    rw [List.size_toArray] at hi
    rw [List.getElem?_toArray] at hv'
    obtain ⟨ea, t1, t2, ee, rfl, hem⟩ := he v (List.mem_of_getElem? hv')
    have htk : hv.take (i + 1) = hv.take i ++ [Value.ref ea] := by rw [List.take_add_one, hv']; rfl
    k_steps
    refine ent_fst N2 (.tail _ (.tail _ (.tail _ (s3 _ hem)))) ?_
    refine LCg.CompEnd.intro F2 N2 _ (fun p hp => hp) off (.inr ⟨_, .head _, rfl, _, rfl⟩) ⟨rfl, ?_⟩
    rw [htk, List.map_append]
    exact ints_app hys (ints_one rfl)
  · rintro ys nw ⟨rfl, hys⟩
    rw [List.size_toArray, List.take_length] at hys
    k_steps
    refine Stop.go ?_
    rename Fr _ _ _ (fun _ => _) => F3
    rename News _ _ _ ((_, LCg.lst ys) :: _) => N3
    refine sumK rfl F3 N3 ⟨_, (N3 _ (.head _)).1, rfl, _, rfl⟩ hys ?_
    intro h4 tk4 t4 F4 N4
    rw [hsum]
    k_steps
    · exact hret _ _ _ F4
    · rename _ ≠ _ => hb
      exact absurd rfl hb
end Mine
namespace Mine
def storedZ : List Str := [Str.ofString "told", Str.ofString "came"]
local macro_rules | `(tactic| walk_at "zz") => `(tactic| fail)
local macro_rules | `(tactic| walk_at "zz") => `(tactic| fail)
local macro_rules | `(tactic| walk_at "zz") => `(tactic| fail)
local macro_rules | `(tactic| walk_at "zz") => `(tactic| fail)
local macro_rules | `(tactic| walk_at "zz") => `(tactic| fail)
local macro_rules | `(tactic| walk_at "call ref") => `(tactic| refine Stop.out ?_)
local macro_rules | `(tactic| walk_at "exec For") => `(tactic| refine Stop.out ?_)
local macro_rules | `(tactic| walk_at "pyIter ref") => `(tactic| refine Stop.out ?_)
local macro_rules | `(tactic| walk_at "storeName") => `(tactic| refine Stop.out ?_)
local macro_rules | `(tactic| walk_at "CompSrcT") => `(tactic| refine Stop.out ?_)
local macro_rules | `(tactic| walk_at "CompSrc") => `(tactic| refine Stop.out ?_)
theorem part_n (w : World) (mean : ExcName → Option Value) (mg mb : Str → Option Value) (h₀ : Heap) (L fa : Addr) (cd : Value) (base : Heap) (rest : List (Addr × Obj)) (s : Shared) (m₀ : Str → Option Value)
    (ha nma : Addr) (hv nvs : List Value) (ns : List Int) (hn nn : Nat) (och ocn ocl : Obj) (cx : Option Value) (least : Int) (tl : Tok) (K : Value → Int × Int) (Q : Flow → Shared → Prop)
    (B : Below callerA base [] h₀) (X : (Mine.hd03.heap_39 w.params).In h₀) (T : Top Mine.hd03.view_39 (looseW Mine.hd03.view_39 []) mean mg mb h₀)
    (F : Fr h₀ L s.heap m₀) (halike : m₀ (Str.ofString "alike") = some (.bool true)) (hnames : m₀ (Str.ofString "names") = some (.ref nma))
    (N : News h₀ L s.heap ((ha, listOf hv.toArray hn) :: (nma, listOf nvs.toArray nn) :: (L + 1 + 1, och) :: (L + 1 + 1 + 1, ocn) :: (L + 1 + 1 + 1 + 1, ocl) :: rest))
    (hoh : och.data = .cell (some (.ref ha))) (hoc : ocn.data = .cell cx) (hol : ocl.data = .cell (some (.int least tl)))
    (hoff : ∀ p ∈ (ha, listOf hv.toArray hn) :: (nma, listOf nvs.toArray nn) :: (L + 1 + 1, och) :: (L + 1 + 1 + 1 + 1, ocl) :: rest, p.1 ≠ L + 1 + 1 + 1)
    (he : ∀ v ∈ hv, EntIn rest v (K v)) (hip : IntsAre nvs ns) (hl1 : hv.length < 64) (hl2 : ns.length < 64)
    (f1 : ∀ nm, (∀ v ∈ hv, (K v).2 ≠ nm) → (ns.count nm : Int) ≤ least) (f2 : ∀ v ∈ hv, (ns.count (K v).2 : Int) ≤ (K v).1 ∧ (K v).1 - least ≤ (ns.count (K v).2 : Int)) (hsum : (hv.map fun v => (K v).1).sum = (ns.length : Int))
    (hret : ∀ h' tk' m', Fr h₀ L h' m' → Q (.ret (.bool true)) { s with heap := h', toks := tk' }) :
    wpAny (model PySem.Challenge.rw_dp0035_03.row.prog w) (callerA.deeper (envOfC (Str.ofString "law") (defScope PySem.Challenge.pw_dp0035_03 5) L fa cd))
      (execs ((defBody PySem.Challenge.pw_dp0035_03 5).drop 6) (envOfC (Str.ofString "law") (defScope PySem.Challenge.pw_dp0035_03 5) L fa cd)) Q (fun _ _ => False) s := by
  have hfill : PySem.Challenge.rw_dp0035_03 = PySem.Challenge.rw_dp0035_03 ∧ Mine.hd03.heap_39 = Mine.hd03.heap_39 := by
    k_fill
    exact ⟨rfl, rfl⟩
  clear hfill
  w_top off
  k_with_none
  have F0 := fr_put F hnames
  conv in (List.drop 6 _) => whnf
  conv in (occs := *) (defScope _ _) => all_goals whnf
  k_steps
  refine Stop.go ?_
  refine For_turns F0 ?_
  k_steps
  refine Stop.go ?_
  refine lp_turns (σ := Obj) (Str.ofString "name") (fun o => (ha, listOf hv.toArray hn) :: (nma, listOf nvs.toArray nn) :: (L + 1 + 1, och) :: (L + 1 + 1 + 1, o) :: (L + 1 + 1 + 1 + 1, ocl) :: rest) (fun _ => []) storedZ (fun _ o => ∃ x, o.data = .cell x) ocn rfl (fun i c _ => .tail _ (.head _)) F N (fun _ h => nomatch h) ⟨_, hoc⟩ ?l2 ?l3
  case l3 =>
    intro o u h tk _ F1 N1
    replace N1 : News h₀ L h ((ha, listOf hv.toArray hn) :: (nma, listOf nvs.toArray nn) :: (L + 1 + 1, och) :: (L + 1 + 1 + 1, o) :: (L + 1 + 1 + 1 + 1, ocl) :: rest) := N1
    exact part_o w mean mg mb h₀ L fa cd base ((L + 1 + 1 + 1, o) :: (L + 1 + 1 + 1 + 1, ocl) :: rest) _ _ ha nma hv nvs ns hn nn och K _ B X T (fr_put (fr_put F1 hnames) halike) N1 hoh (fun v hv' => (he v hv').mono fun p hp => .tail _ (.tail _ hp)) hip hl1 hl2 hsum hret
  case l2 =>
    rintro i o v u h tk I oI hi hvi ⟨ox, hox⟩ hI F1 N1
    k_steps
    refine Stop.go ?_
    have i1 := hI _ (.head _)
    have i2 := hI _ (.tail _ (.head _))
    have i3 := hI _ (.tail _ (.tail _ (.head _)))
    have i4 := hI _ (.tail _ (.tail _ (.tail _ (.head _))))
    have i5 := hI _ (.tail _ (.tail _ (.tail _ (.tail _ (.head _)))))
    have il : ∀ q ∈ rest, q.1 ≠ I := fun q hq => hI q (.tail _ (.tail _ (.tail _ (.tail _ (.tail _ hq)))))
    dsimp only at i1 i2 i3 i4 i5
    k_dflt (refine storeX_C (c := L + 1 + 1 + 1) (g := fun o' => (L + 1 + 1 + 1, o') :: (I, oI) :: (ha, listOf hv.toArray hn) :: (nma, listOf nvs.toArray nn) :: (L + 1 + 1, och) :: (L + 1 + 1 + 1 + 1, ocl) :: rest) F1 (news_sub N1 ?k1) rfl (UpdF.head (off_cons (Ne.symm i4) hoff)) hox ?_)
    case k1 =>
      intro q hq
      simp only [List.mem_cons] at hq ⊢
      rcases hq with h | h | h | h | h | h | h <;> (repeat (first | exact h | exact Or.inl h | apply Or.inr))
    intro h2 ocn' F2 N2 hocn'
    obtain ⟨tn, rfl⟩ := hip.int_at i v hvi
    refine part_t w mean mg mb h₀ L fa cd base ((I, oI) :: rest) _ _ ha nma hv nvs ns hn nn och ocn' ocl (ns.getD i 0) tn least tl K _ B X T (fr_put F2 hnames) (news_sub N2 ?k2) hoh hocn' hol (fun v hv' => (he v hv').mono fun p hp => .tail _ hp) hip hl1 hl2 (f1 _) (fun v hv' e => e ▸ f2 v hv') ?k3
    case k2 =>
      intro q hq
      simp only [List.mem_cons] at hq ⊢
      rcases hq with h | h | h | h | h | h | h <;> (repeat (first | exact h | exact Or.inl h | apply Or.inr))
    case k3 =>
      intro h3 tk3 tv cv F3 N3
      refine lp_next ?_
      refine lp_end ocn' F3 N3 (.tail _ (.tail _ (.tail _ (.tail _ (.tail _ (.head _)))))) ?e1 ?e2 (fun _ h => nomatch h) ?e4 ⟨_, hocn'⟩
      case e1 =>
        intro q hq
        simp only [List.mem_cons] at hq ⊢
        rcases hq with h | h | h | h | h | h <;> (repeat (first | exact h | exact Or.inl h | apply Or.inr))
      case e2 => exact off_cons i1 (off_cons i2 (off_cons i3 (off_cons i4 (off_cons i5 il))))
      case e4 =>
        intro z z1 z2 z3
        have z3' := z3
        unfold storedZ at z3'
        simp only [List.contains_cons, List.contains_nil, Bool.or_false, Bool.or_eq_false_iff, beq_eq_false_iff_ne, ne_eq] at z3'
        simp only [kstB, z1, z3, z3'.1, z3'.2, if_false, Bool.false_eq_true]
        by_cases z5 : z = Str.ofString "names"
        · rw [if_pos z5, z5, hnames]
        · rw [if_neg z5]
end Mine
namespace Mine
theorem part_all (w : World) (mean : ExcName → Option Value) (mg mb : Str → Option Value) (h₀ : Heap) (L fa : Addr) (cd : Value) (base : Heap)
    (ha nma : Addr) (och : Obj) (nvs : List Value) (nn : Nat) (W : Nat) (tw : Tok) (ns : List Int) (m₀ : Str → Option Value) (s0 : Shared) (Q : Flow → Shared → Prop)
    (B : Below callerA base [] h₀) (X : (Mine.hd03.heap_39 w.params).In h₀) (T : Top Mine.hd03.view_39 (looseW Mine.hd03.view_39 []) mean mg mb h₀)
    (hoh : och.data = .cell (some (.ref ha))) (hW : W ≤ 10) (hW1 : 1 ≤ W) (c0 : St3) (hip : IntsAre nvs ns) (hn : ns.length ≤ 60)
    (g : Good L ha nma W [] c0) (F : Fr h₀ L s0.heap m₀) (N : News h₀ L s0.heap (led3 L ha nma och nvs nn c0))
    (hrow : m₀ (Str.ofString "row") = some (.ref c0.ra)) (hnames : m₀ (Str.ofString "names") = some (.ref nma)) (hwidth : m₀ (Str.ofString "width") = some (.int (W : Int) tw)) (halike : m₀ (Str.ofString "alike") = some (.bool true))
    (hret : ∀ h' tk' m', Fr h₀ L h' m' → Q (.ret (.bool true)) { s0 with heap := h', toks := tk' }) :
    wpAny (model PySem.Challenge.rw_dp0035_03.row.prog w) (callerA.deeper (envOfC (Str.ofString "law") (defScope PySem.Challenge.pw_dp0035_03 5) L fa cd))
      (execs ((defBody PySem.Challenge.pw_dp0035_03 5).drop 4) (envOfC (Str.ofString "law") (defScope PySem.Challenge.pw_dp0035_03 5) L fa cd)) Q (fun _ _ => False) s0 := by
  refine part_l w mean mg mb h₀ L fa cd base ha nma och nvs nn W tw ns m₀ s0 Q B X T hoh hW hW1 c0 hip hn g F N hrow hnames hwidth ?_
  intro c u h1 tk1 gc F1 N1
  have hwidth1 : (out3 c u m₀) (Str.ofString "width") = some (.int (W : Int) tw) := hwidth
  have hnames1 : (out3 c u m₀) (Str.ofString "names") = some (.ref nma) := hnames
  have halike1 : (out3 c u m₀) (Str.ofString "alike") = some (.bool true) := halike
  generalize out3 c u m₀ = m at *
  have X1 := gc.fix
  have hl := gc.len
  obtain ⟨x1, hcl⟩ := gc.cl
  obtain ⟨x2, hcn⟩ := gc.cn
  refine part_m w mean mg mb h₀ L fa cd base ((L + 1 + 1 + 1, c.ocn) :: (nma, listOf nvs.toArray nn) :: c.led) _ m ha c.hv c.hn och c.ocl x1 (W : Int) tw c.K Q B X T (fr_put F1 hwidth1) (news_sub N1 ?n1) hoh hcl ?n2 ?n3 (by omega) (by omega) ?n4
  case n1 =>
    intro q hq
    unfold led3
    simp only [List.mem_cons] at hq ⊢
    rcases hq with h | h | h | h | h | h <;> (repeat (first | exact h | exact Or.inl h | apply Or.inr))
  case n2 =>
    refine off_cons X1.f3 (off_cons (Nat.ne_of_lt (Nat.lt_succ_of_lt (Nat.lt_succ_self _))) (off_cons (Nat.ne_of_lt (Nat.lt_succ_self _)) (off_cons X1.f7 ?_)))
    exact fun q hq => (gc.off hq).2.2.2.2.1
  case n3 => exact fun v hv => (gc.he v hv).mono fun p hp => .tail _ (.tail _ hp)
  case n4 =>
    intro h2 tk2 ocl' least tl F2 N2 hol' hleast
    have hend := fun x => tab_end (least := least) gc.tab (by
      rw [List.length_map]
      rcases hleast with ⟨h1, h2⟩ | ⟨h1, h2⟩
      · exact .inl ⟨by omega, h2⟩
      · exact .inr ⟨by omega, h2⟩) x
    refine part_n w mean mg mb h₀ L fa cd base c.led _ _ ha nma c.hv nvs ns c.hn nn och c.ocn ocl' x2 least tl c.K Q B X T F2 halike1 hnames1 (news_sub N2 ?k1) hoh hcn hol' ?k2 gc.he hip (by omega) (by omega) ?k3 ?k4 ?k5 ?k6
    case k1 =>
      intro q hq
      simp only [List.mem_cons] at hq ⊢
      rcases hq with h | h | h | h | h | h <;> (repeat (first | exact h | exact Or.inl h | apply Or.inr))
    case k2 =>
      refine off_cons X1.f2 (off_cons X1.f6 (off_cons (Nat.ne_of_lt (Nat.lt_succ_self _)) (off_cons (Nat.ne_of_gt (Nat.lt_succ_self _)) ?_)))
      exact fun q hq => (gc.off hq).2.2.2.1
    case k3 =>
      intro nm hx
      refine (hend nm).1 ?_
      rw [List.filter_eq_nil_iff]
      intro r hr
      obtain ⟨v, hv, rfl⟩ := List.mem_map.mp hr
      simpa using hx v hv
    case k4 => exact fun v hv => (hend (c.K v).2).2 _ (List.mem_map_of_mem hv) rfl
    case k5 =>
      have := gc.tab.2.2.2.1
      rw [List.map_map] at this
      exact this
    case k6 => exact hret
end Mine
namespace Mine
theorem part_top (w : World) (mean : ExcName → Option Value) (mg mb : Str → Option Value) (h₀ : Heap) (L fa : Addr) (cd : Value) (base : Heap)
    (ha ra nma : Addr) (och ocn ocl : Obj) (nvs : List Value) (hn0 rn0 nn : Nat) (sm : Int) (tw : Tok) (ns : List Int) (m₀ : Str → Option Value) (s0 : Shared) (Q : Flow → Shared → Prop)
    (B : Below callerA base [] h₀) (X : (Mine.hd03.heap_39 w.params).In h₀) (T : Top Mine.hd03.view_39 (looseW Mine.hd03.view_39 []) mean mg mb h₀)
    (F : Fr h₀ L s0.heap m₀) (N : News h₀ L s0.heap [(ra, listOf #[] rn0), (ha, listOf #[] hn0), (nma, listOf nvs.toArray nn), (L + 1 + 1 + 1 + 1, ocl), (L + 1 + 1 + 1, ocn), (L + 1 + 1, och)])
    (hoh : och.data = .cell (some (.ref ha))) (hcn : ∃ x, ocn.data = .cell x) (hcl : ∃ x, ocl.data = .cell x) (hip : IntsAre nvs ns) (hn : ns.length ≤ 60)
    (n1 : ha < ra) (n2 : nma < ha) (n3 : L + 1 + 1 + 1 + 1 < ha) (n4 : L + 1 + 1 ≠ nma) (n5 : L + 1 + 1 + 1 ≠ nma) (n6 : L + 1 + 1 + 1 + 1 ≠ nma)
    (hrow : m₀ (Str.ofString "row") = some (.ref ra)) (hnames : m₀ (Str.ofString "names") = some (.ref nma)) (hwidth : m₀ (Str.ofString "width") = some (.int (sm.fmod 9 + 2) tw)) (halike : m₀ (Str.ofString "alike") = some (.bool true))
    (hret : ∀ h' tk' m', Fr h₀ L h' m' → Q (.ret (.bool true)) { s0 with heap := h', toks := tk' }) :
    wpAny (model PySem.Challenge.rw_dp0035_03.row.prog w) (callerA.deeper (envOfC (Str.ofString "law") (defScope PySem.Challenge.pw_dp0035_03 5) L fa cd))
      (execs ((defBody PySem.Challenge.pw_dp0035_03 5).drop 4) (envOfC (Str.ofString "law") (defScope PySem.Challenge.pw_dp0035_03 5) L fa cd)) Q (fun _ _ => False) s0 := by
  have m1 : 0 ≤ sm.fmod 9 := Int.fmod_nonneg_of_pos _ (by decide)
  have m2 : sm.fmod 9 < 9 := Int.fmod_lt_of_pos _ (by decide)
  obtain ⟨W, hW⟩ : ∃ W : Nat, sm.fmod 9 + 2 = (W : Int) := ⟨(sm.fmod 9 + 2).toNat, by omega⟩
  rw [hW] at hwidth
  refine part_all w mean mg mb h₀ L fa cd base ha nma och nvs nn W tw ns m₀ s0 Q B X T hoh (by omega) (by omega) { hv := [], hn := hn0, rv := [], ra := ra, rn := rn0, ocn := ocn, ocl := ocl, led := [], K := fun _ => (0, 0) } hip hn ?g F (news_sub N ?n) hrow hnames hwidth halike hret
  case n =>
    intro q hq
    unfold led3 at hq
    simp only [List.mem_cons, List.not_mem_nil, or_false] at hq ⊢
    rcases hq with h | h | h | h | h | h <;> (repeat (first | exact h | exact Or.inl h | apply Or.inr))
  case g =>
    have n1' := ltN n1
    have n2' := ltN n2
    have n3' := ltN n3
    have n4' := neN n4
    have n5' := neN n5
    have n6' := neN n6
    refine { he := fun _ h => (nomatch h), hr := fun _ h => (nomatch h), dis := fun _ h => (nomatch h), perm := .refl _, heap := fun k h0 hk => absurd hk (Nat.not_lt_zero _), tab := .start, cn := hcn, cl := hcl, fx := ?_, ra := ?_, led := fun _ h => (nomatch h) }
    · unfold fix3
      simp only [List.nodup_cons, List.mem_cons, not_or, List.not_mem_nil, or_false, not_false_eq_true, List.nodup_nil, and_true]
      refine ⟨⟨?_, ?_, ?_, ?_⟩, ⟨?_, ?_, ?_⟩, ⟨?_, ?_⟩, ?_⟩ <;> exact neN (by omega)
    · exact fix3_of (P := fun a => a ≠ ra) (neN (a := ha) (b := ra) (by omega)) (neN (a := L + 1 + 1) (b := ra) (by omega)) (neN (a := L + 1 + 1 + 1) (b := ra) (by omega)) (neN (a := L + 1 + 1 + 1 + 1) (b := ra) (by omega)) (neN (a := nma) (b := ra) (by omega))
theorem pick_top {h₀ h : Heap} {L : Addr} {t x1 x2 x3 y a b c d e f : Addr × Obj} (N : News h₀ L h [t, a, b, c, x1, x2, x3, d, e, f, y]) : News h₀ L h [a, b, c, d, e, f] := news_sub N (by
  intro p hp
  simp only [List.mem_cons, List.not_mem_nil, or_false] at hp ⊢
  rcases hp with h | h | h | h | h | h <;> (repeat (first | exact h | exact Or.inl h | apply Or.inr)))
end Mine
namespace Mine
theorem ints_at : ∀ {vs : List Value} {ns : List Int}, IntsAre vs ns → ∀ i, i < vs.length → ∃ t, vs.getD i default = .int (ns.getD i 0) t
  | _, _, .cons a u _, 0, _ => ⟨u, rfl⟩
  | _, _, .cons a u r, i + 1, h => by
    obtain ⟨t, e⟩ := ints_at r i (by simpa using h)
    exact ⟨t, by simpa using e⟩
  | _, _, .nil, _, h => absurd h (by simp)
end Mine
section
open Mine
local macro_rules | `(tactic| walk_at "zz") => `(tactic| fail)
local macro_rules | `(tactic| walk_at "zz") => `(tactic| fail)
local macro_rules | `(tactic| walk_at "zz") => `(tactic| fail)
local macro_rules | `(tactic| walk_at "zz") => `(tactic| fail)
local macro_rules | `(tactic| walk_at "zz") => `(tactic| fail)
local macro_rules | `(tactic| walk_at "zz") => `(tactic| fail)
local macro_rules | `(tactic| walk_at "zz") => `(tactic| fail)
local macro_rules | `(tactic| walk_at "zz") => `(tactic| fail)
local macro_rules | `(tactic| walk_at "call ref") => `(tactic| refine Stop.out ?_)
local macro_rules | `(tactic| walk_at "pyIter ref") => `(tactic| refine Stop.out ?_)
local macro_rules | `(tactic| walk_at "CompSrcT") => `(tactic| refine Stop.out ?_)
local macro_rules | `(tactic| walk_at "CompSrc") => `(tactic| refine Stop.out ?_)
local macro_rules | `(tactic| walk_at "call builtin:sum") => `(tactic| refine Stop.out ?_)
local macro_rules | `(tactic| walk_at "execs cons") => `(tactic| ((with_reducible show wpAny _ _ (execs (Stmt.For _ _ _ _ _ :: _) _) _ _ _); refine Stop.out ?_))
theorem PySem.Challenge.cw_dp0035_03_holds : PySem.Challenge.rw_dp0035_03.Holds := by
  refine Mine.hd03 ?_
  w_top off
  k_with_none
  k_go0
  all_goals (try k_fold)
  k_steps
  refine Stop.go ?_
  rename IsRange _ _ _ _ _ _ _ _ => hR
  rename IntsAre _ _ => hI
  rename Fr _ _ _ _ => F1
  rename News _ _ _ _ => N1
  rename ¬ ((63 : Nat) : Int) < _ => hlen
  refine LCg.CompSrc.range rfl F1 N1 hR (small_one (by omega) (by omega) (by split <;> omega) (by split <;> omega)) (rangeSize_nat _ _) (by rw [sizeLine_eq]; split <;> omega) ?_
  intro g1
  refine comp_inv (fun i ys nw => nw = _ ∧ ∃ ms : List Int, IntsAre ys ms ∧ ms.length = i) ⟨rfl, [], .nil, rfl⟩ ?_ ?_
  · rintro i v I oI C oC D m₂ ys nw h tk E' hi ⟨t2, rfl⟩ ⟨rfl, ms, hms, hml⟩ hC hx F2 N2 off ne
    k_steps
    refine Stop.go ?_
    rename Fr _ _ _ _ => F3
    rename News _ _ _ _ => N3
    have hsl := hI.pick (some (0 + (i : Int))) none (some 30)
    refine sumK rfl F3 N3 ⟨_, (N3 _ (.head _)).1, rfl, 0, rfl⟩ hsl ?_
    intro h5 tk5 t5 F5 N5
    refine LCg.CompEnd.intro F5 N5 _ (fun p hp => .tail _ hp) off trivial ⟨rfl, ms ++ [_], ints_app hms (.cons _ _ .nil), by simp [hml]⟩
  · rintro ys nw ⟨rfl, ms, hms, hml⟩
    k_steps
    refine Stop.go ?_
    rename IntsAre _ (_ ++ _) => hps
    rename Fr _ _ _ _ => F6
    rename News _ _ _ _ => N6
    have hml2 : ms.length ≤ 30 := by rw [hml]; split <;> omega
    have hpl := hps.length
    simp only [List.length_append, List.length_cons, List.length_nil] at hpl
    refine LCg.CompSrc.ledger rfl F6 N6 (.head _) (by rw [sizeLine_eq, List.size_toArray]; omega) ?_
    intro g6
    refine comp_inv (fun i ys nw => nw = _ ∧ ∃ ms : List Int, IntsAre ys ms ∧ ms.length = i) ⟨rfl, [], .nil, rfl⟩ ?_ ?_
    · rintro i v I oI C oC D m₂ ys2 nw h tk E' hi hv ⟨rfl, ms2, hms2, hml3⟩ hC hx F2 N2 off ne
      rw [List.size_toArray] at hi
      obtain ⟨tv, hvi⟩ := ints_at hps i hi
      have hv2 : v = .int ((ms ++ [3, 2, 5, 7, 1]).getD i 0) tv := by
        rw [← hvi]
        have := hv
        rw [List.getElem?_toArray] at this
        rw [List.getD_eq_getElem?_getD, this]; rfl
      subst hv2
      generalize (ms ++ [3, 2, 5, 7, 1]).getD i 0 = xx at *
      k_steps
      all_goals (
        rename Fr _ _ _ _ => F7
        rename News _ _ _ _ => N7
        refine LCg.CompEnd.intro F7 N7 _ (fun p hp => hp) off ?ko ⟨rfl, ms2 ++ [_], ints_app hms2 (.cons _ _ .nil), by simp [hml3]⟩
        case ko => exact .inr ⟨_, .head _, rfl, _, rfl⟩)
    · rintro ys2 nw ⟨rfl, ms2, hms2, hml3⟩
      k_steps
      refine Stop.go ?_
      rename Fr _ _ _ _ => F8
      rename News _ _ _ _ => N8
      rename Heap.IsList _ _ _ => hL
      refine sumK rfl F8 N8 (hL.at (F8.keep _)) hI ?_
      intro h9 tk9 t9 F9 N9
      k_steps
      refine Stop.go ?_
      rename Fr _ _ _ _ => F10
      rename News _ _ _ _ => N10
      rename _ = Data.cell (some (Value.ref _)) => hoc
      rename Below _ _ _ _ => B
      rename Top _ _ _ _ _ _ => T
      rename Frag.In _ _ => X
      refine wpAny_mono (part_top _ _ _ _ _ _ _ _ _ _ _ _ _ _ _ _ _ _ _ _ _ ms2 _ _ _ B X T F10 (pick_top N10) hoc ?k1 ?k2 hms2 ?k3 ?k4 ?k5 ?k6 ?k7 ?k8 ?k9 rfl rfl rfl rfl ?_) (fun _ _ h => h) (fun _ _ h => h.elim)
      case k1 => exact ⟨_, by assumption⟩
      case k2 => exact ⟨_, by assumption⟩
      case k3 => rw [hml3, List.size_toArray]; omega
      case k4 => exact ltN (by omega)
      case k5 => exact ltN (by omega)
      case k6 => exact ltN (by omega)
      case k7 => exact neN (by omega)
      case k8 => exact neN (by omega)
      case k9 => exact neN (by omega)
      intro h11 tk11 m11 F11
      k_steps
end
