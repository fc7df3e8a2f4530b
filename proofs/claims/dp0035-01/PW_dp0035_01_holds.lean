import PyProof.Rows.All
import Wide.All
import OpenK.AllK
import Wide.FinOn
import PySem.Challenge.RW_dp0035_01
open PySem PySem.W PyProof.Rows
set_option Elab.async false
set_option maxRecDepth 100000
set_option maxHeartbeats 8000000
set_option linter.unusedSectionVars false
namespace Mine
open_top hd01 for PySem.Challenge.rw_dp0035_01
end Mine
namespace Mine

/-- the loop of _siftdown and its last store -/
def sdLoop {α : Type} [Inhabited α] (lt : α → α → Bool) (new : α) (sp : Nat) (l : List α) (pos : Nat) : List α :=
  if _h : sp < pos then
    if lt new (l.getD ((pos - 1) / 2) default) then sdLoop lt new sp (l.set pos (l.getD ((pos - 1) / 2) default)) ((pos - 1) / 2)
    else l.set pos new
  else l.set pos new
termination_by pos
decreasing_by omega

def sd {α : Type} [Inhabited α] (lt : α → α → Bool) (l : List α) (sp pos : Nat) : List α := sdLoop lt (l.getD pos default) sp l pos

/-- the child that _siftup goes to -/
def kid {α : Type} [Inhabited α] (lt : α → α → Bool) (l : List α) (pos : Nat) : Nat :=
  if 2 * pos + 2 < l.length ∧ lt (l.getD (2 * pos + 1) default) (l.getD (2 * pos + 2) default) = false then 2 * pos + 2 else 2 * pos + 1

theorem kid_or {α : Type} [Inhabited α] (lt : α → α → Bool) (l : List α) (pos : Nat) : kid lt l pos = 2 * pos + 1 ∨ (kid lt l pos = 2 * pos + 2 ∧ 2 * pos + 2 < l.length) := by
  unfold kid; split
  · rename_i h; exact .inr ⟨rfl, h.1⟩
  · exact .inl rfl

def suLoop {α : Type} [Inhabited α] (lt : α → α → Bool) (l : List α) (pos : Nat) : List α × Nat :=
  if _h : 2 * pos + 1 < l.length then suLoop lt (l.set pos (l.getD (kid lt l pos) default)) (kid lt l pos) else (l, pos)
termination_by l.length - pos
decreasing_by
  rw [List.length_set]
  rcases kid_or lt l pos with h | h <;> omega

def su {α : Type} [Inhabited α] (lt : α → α → Bool) (l : List α) (pos : Nat) : List α :=
  let r := suLoop lt l pos
  sd lt (r.1.set r.2 (l.getD pos default)) pos r.2

def hpush {α : Type} [Inhabited α] (lt : α → α → Bool) (l : List α) (x : α) : List α := sd lt (l ++ [x]) 0 l.length

theorem sdLoop_length {α : Type} [Inhabited α] (lt : α → α → Bool) (new : α) (sp : Nat) (l : List α) (pos : Nat) : (sdLoop lt new sp l pos).length = l.length := by
  fun_induction sdLoop lt new sp l pos <;> simp_all
theorem sd_length {α : Type} [Inhabited α] (lt : α → α → Bool) (l : List α) (sp pos : Nat) : (sd lt l sp pos).length = l.length := sdLoop_length ..
theorem suLoop_length {α : Type} [Inhabited α] (lt : α → α → Bool) (l : List α) (pos : Nat) : (suLoop lt l pos).1.length = l.length := by
  fun_induction suLoop lt l pos <;> simp_all
theorem suLoop_lt {α : Type} [Inhabited α] (lt : α → α → Bool) (l : List α) (pos : Nat) (h : pos < l.length) : (suLoop lt l pos).2 < l.length := by
  fun_induction suLoop lt l pos with
  | case1 l pos h1 ih => 
    have := ih (by rw [List.length_set]; rcases kid_or lt l pos with h | h <;> omega)
    simpa using this
  | case2 l pos h1 => exact h
theorem su_length {α : Type} [Inhabited α] (lt : α → α → Bool) (l : List α) (pos : Nat) : (su lt l pos).length = l.length := by
  unfold su; rw [sd_length, List.length_set, suLoop_length]
theorem hpush_length {α : Type} [Inhabited α] (lt : α → α → Bool) (l : List α) (x : α) : (hpush lt l x).length = l.length + 1 := by
  unfold hpush; rw [sd_length]; simp

section
variable {prog : Program} {w : World} {A : Around} {E : Value → Shared → Prop} {s : Shared} {h₀ : Heap} {L D : Addr} {m : Str → Option Value} {rest : List (Addr × Obj)} {vs : List Value} {n : Nat} {k : Int} {t : Tok} {x : Value}

theorem getD_get {vs : List Value} {i : Nat} (h : i < vs.length) : vs[i]? = some (vs.getD i default) := by
  rw [List.getD_eq_getElem?_getD, List.getElem?_eq_getElem h]; rfl

theorem item_at {news : List (Addr × Obj)} {value slice : Expr} {Q : Value → Shared → Prop} (N : News h₀ L s.heap news) (hm : (D, listOf vs.toArray n) ∈ news) (i : Nat) (hk : k = (i : Int)) (hi : i < vs.length) (hl : vs.length ≤ 1000) (h : Q (vs.getD i default) s)
    (hs : subscripted slice false (.ref D) (.int k t) = operate [.ref D, .int k t] (getItem (.ref D) (.int k t)) := by with_unfolding_all rfl) (hg : ∀ r, letTemporaryGo value (.ref D) r = pure () := by intro _; with_unfolding_all rfl) :
    wpAny (model prog w) A (subscriptTail value slice (.ref D) (.int k t)) Q E s := by
  subst hk
  exact kim_list N hm rfl rfl (by omega) (by omega) (by simpa using getD_get hi) h hs hg

theorem len_at {news : List (Addr × Obj)} {Q : Value → Shared → Prop} (N : News h₀ L s.heap news) (hm : (D, listOf vs.toArray n) ∈ news) (hl : vs.length ≤ 1000) (h : ∀ t tk, Q (.int (vs.length : Int) t) { s with toks := tk }) :
    wpAny (model prog w) A (call (.builtin "len") [.ref D]) Q E s := by
  refine len_list (PySem.IsL.isList (n := n) (N _ hm).1) (by rw [List.size_toArray]; omega) ?_
  have := h (s.toks + 1) (s.toks + 1 + 1)
  simpa using this

theorem app_at {Q : Value → Shared → Prop} (F : Fr h₀ L s.heap m) (N : News h₀ L s.heap ((D, listOf vs.toArray n) :: rest)) (hne : ∀ p ∈ rest, p.1 ≠ D) (hl : vs.length ≤ 1000)
    (h : ∀ h', Fr h₀ L h' m → News h₀ L h' ((D, listOf (vs ++ [x]).toArray (n + 1)) :: rest) → Q .none { s with heap := h' }) :
    wpAny (model prog w) A (call (.builtin "list.append") [.ref D, x]) Q E s := by
  refine append_K F N (.head hne) (fun h' F' N' => h h' F' ?_) (by rw [sizeLine_eq, List.size_toArray]; omega)
  simpa using N'

theorem set_at {Q : Unit → Shared → Prop} (F : Fr h₀ L s.heap m) (N : News h₀ L s.heap ((D, listOf vs.toArray n) :: rest)) (hne : ∀ p ∈ rest, p.1 ≠ D) (i : Nat) (hk : k = (i : Int)) (hi : i < vs.length) (hl : vs.length ≤ 1000)
    (h : ∀ h', Fr h₀ L h' m → News h₀ L h' ((D, listOf (vs.set i x).toArray n) :: rest) → Q () { s with heap := h' }) :
    wpAny (model prog w) A (setItem (.ref D) (.int k t) x) Q E s := by
  subst hk
  have z := N (D, listOf vs.toArray n) (.head _)
  refine ki_setAt z.1 (by omega) (by omega) (by simpa using hi) (h _ (F.change (Heap.SameBut.update ..) z.2.1 z.2.2) (ki_turn (pre := []) _ N (fun _ h => nomatch h) hne ?_ ?_))
  · apply Array.toList_inj.mp
    simp
  · simp
end

theorem look_int {o : Option Value} {a b : Int} {t t' : Tok} (h1 : o = some (.int a t)) (h2 : a = b) (h3 : t = t') : o = some (.int b t') := by rw [h1, h2, h3]
theorem fr_look {h₀ h : Heap} {L : Addr} {m : Str → Option Value} (_F : Fr h₀ L h m) (x : Str) (b : Int) (e : ∃ t, m x = some (.int b t)) : ∃ t, m x = some (.int b t) := e
theorem fdiv_par {p : Nat} (h : 0 < p) : ((p : Int) - 1).fdiv (2 ^ Int.toNat 1) = (((p - 1) / 2 : Nat) : Int) := by
  have e : ((p : Int) - 1) = ((p - 1 : Nat) : Int) := by omega
  rw [e, Int.fdiv_eq_ediv_of_nonneg _ (by decide)]
  show ((p - 1 : Nat) : Int) / 2 = _
  omega

theorem getD_mem {vs : List Value} {i : Nat} (h : i < vs.length) : vs.getD i default ∈ vs := List.mem_of_getElem? (getD_get h)

/-- the order of the items is known while rest stands -/
def LtOk (prog : Program) (w : World) (rest : List (Addr × Obj)) (lt : Value → Value → Bool) (vs : List Value) : Prop :=
  ∀ x ∈ vs, ∀ y ∈ vs, ∀ (A : Around) (s : Shared) (Q : Value → Shared → Prop) (E : Value → Shared → Prop), A.handled = none → A.units + 60 < cLine → (∀ p ∈ rest, s.heap.get? p.1 = some p.2) →
    (∀ tk, Q (.bool (lt x y)) { s with toks := tk }) → wpAny (model prog w) A (compareOp .Lt x y) Q E s

theorem allLt_to {d : Addr} {l : List (Addr × Obj)} (h : AllLt d l) : ∀ p ∈ l, p.1 < d := by
  induction l with
  | nil => intro p hp; nomatch hp
  | cons q r ih =>
    intro p hp
    rcases List.mem_cons.mp hp with rfl | hp
    · exact h.1
    · exact ih h.2 p hp
/-- the walk stops here -/
def Stop (P : Prop) : Prop := P
theorem Stop.out {P : Prop} (h : Stop P) : P := h
theorem Stop.go {P : Prop} (h : P) : Stop P := h
end Mine
namespace Mine

theorem sd_call (w : World) (mean : ExcName → Option Value) (mg mb : Str → Option Value)
    (dp un : Nat) (gd : Option (List Code)) (cn : Str) (cs : Scope) (a : Addr) (ccd : Value) (cl : List (Str × Addr)) (outer : List Env) (A₀ : Around) (base h₀ : Heap) (L : Addr) (m : Str → Option Value) (rest : List (Addr × Obj)) (s : Shared)
    (lt : Value → Value → Bool) (la : Addr) (vs : List Value) (n : Nat) (sp pos : Nat) (t1 t2 : Tok)
    (Q E : Value → Shared → Prop) (B : Below A₀ base outer h₀) (F : Fr h₀ L s.heap m) (X : (Mine.hd01.heap_39 w.params).In h₀) (N : News h₀ L s.heap ((la, listOf vs.toArray n) :: rest))
    (T : Top Mine.hd01.view_39 (looseW Mine.hd01.view_39 []) mean mg mb h₀) (hk : cs.kind = .function) (hd : dp + 5 < recursionLimit) (hu : un + 100 < cLine)
    (hne : ∀ p ∈ rest, p.1 ≠ la) (hp1 : pos < vs.length) (hlen : vs.length ≤ 200) (hlt : LtOk PySem.Challenge.rw_dp0035_01.row.prog w rest lt vs)
    (hret : ∀ h' tk', Fr h₀ L h' m → News h₀ L h' ((la, listOf (sd lt vs sp pos).toArray n) :: rest) → Q .none { s with heap := h', toks := tk' }) :
    wpAny (model PySem.Challenge.rw_dp0035_01.row.prog w) (ktrTop dp un gd cn cs L a ccd cl outer) (call (.ref 28) [.ref la, .int (sp : Int) t1, .int (pos : Int) t2]) Q E s := by
  have hfill : PySem.Challenge.rw_dp0035_01 = PySem.Challenge.rw_dp0035_01 ∧ Mine.hd01.heap_39 = Mine.hd01.heap_39 := by
    k_fill
    exact ⟨rfl, rfl⟩
  clear hfill
  w_top off
  k_with_none
  k_with "exec While Compare cons nil" => refine Stop.out ?_
  refine wpAny_call ?_
  k_dflt ktr_enter
  k_steps
  rename News _ _ _ _ => N1
  refine item_at N1 (.head _) pos rfl hp1 (by omega) ?_
  k_steps
  refine Stop.go ?_
  rename News _ _ _ _ => N2
  rename Fr _ _ _ _ => F2
  refine ksw_while (σ := List Value × Nat × Tok) (fun c => (la, listOf c.1.toArray n) :: rest) (fun c => [(Str.ofString "pos", .int (c.2.1 : Int) c.2.2)]) (fun c => True) [Str.ofString "parentpos", Str.ofString "parent"]
    (fun c => c.1.length = vs.length ∧ c.2.1 < vs.length ∧ sdLoop lt (vs.getD pos default) sp c.1 c.2.1 = sd lt vs sp pos ∧ ∀ x ∈ c.1, x ∈ vs) (fun c => c.2.1) (vs, pos, t2) F2 N2 trivial ?kk ⟨rfl, hp1, rfl, fun _ h => h⟩ ?_
  case kk => intro p hp; rcases List.mem_cons.mp hp with rfl | hp; exact rfl; exact nomatch hp
  rintro ⟨l, p, tp⟩ u h3 tk3 - ⟨hl1, hl2, hl3, hl4⟩ F3 N3
  dsimp only at *
  k_steps
  · rename News _ _ _ _ => N4
    rename _ < _ => hgt
    have hgt' : sp < p := by omega
    refine item_at N4 (.head _) ((p - 1) / 2) (fdiv_par (by omega)) (by omega) (by omega) ?_
    k_steps
    rename News _ _ _ _ => N5
    rename Fr _ _ _ _ => F5
    refine hlt _ (getD_mem hp1) _ (hl4 _ (getD_mem (by omega))) _ _ _ _ rfl (by show un + 3 + 60 < cLine; omega) (fun q hq => (N5 q (.tail _ hq)).1) ?_
    intro tk5
    k_steps
    · rename lt _ _ = true => hb
      refine set_at F5 N5 hne p rfl (by omega) (by omega) ?_
      intro h6 F6 N6
      k_steps
      rename News _ _ _ _ => N7
      rename Fr _ _ _ _ => F7
      rw [fdiv_par (by omega)] at F7
      refine' ksw_end (l.set p (l.getD ((p - 1) / 2) default), (p - 1) / 2, _) F7 N7 (fun _ h => h) trivial ?k1 ?k2 ⟨by simpa using hl1, by show (p - 1) / 2 < _; omega, ?k3, ?k4⟩ (by show (p - 1) / 2 < p; omega)
      case k1 => intro q hq; rcases List.mem_cons.mp hq with rfl | hq; exact rfl; exact nomatch hq
      case k2 =>
        intro z h2 h3
        have z1 : ¬ z = Str.ofString "pos" := h2 _ (.head _)
        have h3' := h3
        simp only [List.contains_cons, List.contains_nil, Bool.or_false, Bool.or_eq_false_iff, beq_eq_false_iff_ne, ne_eq] at h3'
        simp only [kstB, h3, z1, h3'.1, h3'.2, if_false, Bool.false_eq_true]
      case k3 =>
        rw [← hl3, sdLoop.eq_def _ _ _ l p]
        simp only [dif_pos hgt', hb, if_true]
      case k4 =>
        intro x hx
        rcases List.mem_or_eq_of_mem_set hx with h | h
        · exact hl4 x h
        · exact h ▸ hl4 _ (getD_mem (by omega))
    · rename lt _ _ = false => hb
      refine set_at F5 N5 hne p rfl (by omega) (by omega) ?_
      intro h6 F6 N6
      k_steps
      rename Fr h₀ _ _ _ => F7
      rename News h₀ _ _ _ => N7
      have e : sd lt vs sp pos = l.set p (vs.getD pos default) := by
        rw [← hl3, sdLoop]
        simp only [dif_pos hgt', hb]
        rfl
      refine hret _ _ F7 ?_
      rw [e]; exact N7
  · refine set_at F3 N3 hne p rfl (by omega) (by omega) ?_
    intro h5 F5 N5
    k_steps
    rename Fr h₀ _ _ _ => F6
    rename News h₀ _ _ _ => N6
    have e : sd lt vs sp pos = l.set p (vs.getD pos default) := by
      rw [← hl3, sdLoop]
      simp only [dif_neg (show ¬ sp < p by omega)]
    refine hret _ _ F6 ?_
    rw [e]; exact N6
end Mine
namespace Mine
local macro_rules | `(tactic| walk_at "call ref") => `(tactic| refine Stop.out ?_)
local macro_rules | `(tactic| walk_at "KswEnd") => `(tactic| refine Stop.out ?_)

theorem su_call (w : World) (mean : ExcName → Option Value) (mg mb : Str → Option Value)
    (dp un : Nat) (gd : Option (List Code)) (cn : Str) (cs : Scope) (a : Addr) (ccd : Value) (cl : List (Str × Addr)) (outer : List Env) (A₀ : Around) (base h₀ : Heap) (L : Addr) (m : Str → Option Value) (rest : List (Addr × Obj)) (s : Shared)
    (lt : Value → Value → Bool) (la : Addr) (vs : List Value) (n : Nat) (pos : Nat) (t1 : Tok)
    (Q E : Value → Shared → Prop) (B : Below A₀ base outer h₀) (F : Fr h₀ L s.heap m) (X : (Mine.hd01.heap_39 w.params).In h₀) (N : News h₀ L s.heap ((la, listOf vs.toArray n) :: rest))
    (T : Top Mine.hd01.view_39 (looseW Mine.hd01.view_39 []) mean mg mb h₀) (hk : cs.kind = .function) (hd : dp + 10 < recursionLimit) (hu : un + 110 < cLine)
    (hne : ∀ p ∈ rest, p.1 ≠ la) (hp1 : pos < vs.length) (hlen : vs.length ≤ 200) (hlt : LtOk PySem.Challenge.rw_dp0035_01.row.prog w rest lt vs)
    (hret : ∀ h' tk', Fr h₀ L h' m → News h₀ L h' ((la, listOf (su lt vs pos).toArray n) :: rest) → Q .none { s with heap := h', toks := tk' }) :
    wpAny (model PySem.Challenge.rw_dp0035_01.row.prog w) (ktrTop dp un gd cn cs L a ccd cl outer) (call (.ref 35) [.ref la, .int (pos : Int) t1]) Q E s := by
  have hfill : PySem.Challenge.rw_dp0035_01 = PySem.Challenge.rw_dp0035_01 ∧ Mine.hd01.heap_39 = Mine.hd01.heap_39 := by
    k_fill
    exact ⟨rfl, rfl⟩
  clear hfill
  w_top off
  k_with_none
  k_with "exec While Compare cons nil" => refine Stop.out ?_
  refine wpAny_call ?_
  k_dflt ktr_enter
  k_steps
  rename News _ _ _ _ => N1
  refine len_at N1 (.head _) (by omega) ?_
  intro t2 tk2
  k_steps
  rename News _ _ _ _ => N2
  refine item_at N2 (.head _) pos rfl hp1 (by omega) ?_
  k_steps
  refine Stop.go ?_
  rename News _ _ _ _ => N3
  rename Fr _ _ _ _ => F3
  refine' ksw_while (σ := List Value × Nat × Tok × Tok) (fun c => (la, listOf c.1.toArray n) :: rest) (fun c => [(Str.ofString "pos", .int (c.2.1 : Int) c.2.2.1), (Str.ofString "childpos", .int (2 * (c.2.1 : Int) + 1) c.2.2.2)]) (fun c => True) [Str.ofString "rightpos"]
    (fun c => c.1.length = vs.length ∧ c.2.1 < vs.length ∧ suLoop lt c.1 c.2.1 = suLoop lt vs pos ∧ ∀ x ∈ c.1, x ∈ vs) (fun c => vs.length - c.2.1) (vs, pos, t1, _) F3 N3 trivial ?kk ⟨rfl, hp1, rfl, fun _ h => h⟩ ?kt
  case kk => 
    intro p hp; rcases List.mem_cons.mp hp with rfl | hp; exact rfl; rcases List.mem_cons.mp hp with rfl | hp; exact rfl; exact nomatch hp
  case kt =>
  rintro ⟨l, p, tp, tc⟩ u h4 tk4 - ⟨hl1, hl2, hl3, hl4⟩ F4 N4
  dsimp only at *
  k_steps
  · rename News _ _ _ _ => N5
    rename 2 * (p : Int) + 1 < _ => hc1
    rename 2 * (p : Int) + 1 + 1 < _ => hc2
    refine item_at N5 (.head _) (2 * p + 1) (by omega) (by omega) (by omega) ?_
    k_steps
    refine item_at N5 (.head _) (2 * p + 2) (by omega) (by omega) (by omega) ?_
    k_steps
    refine hlt _ (hl4 _ (getD_mem (by omega))) _ (hl4 _ (getD_mem (by omega))) _ _ _ _ rfl (by show un + 3 + 60 < cLine; omega) (fun q hq => (N5 q (.tail _ hq)).1) ?_
    intro tk5
    k_steps
    · rename lt _ _ = true => hb
      have hkid : kid lt l p = 2 * p + 1 := by
        unfold kid; rw [if_neg]; rw [hb]; simp
      refine item_at N5 (.head _) (2 * p + 1) (by omega) (by omega) (by omega) ?_
      k_steps
      rename News _ _ _ _ => N6
      rename Fr _ _ _ _ => F6
      refine set_at F6 N6 hne p rfl (by omega) (by omega) ?_
      intro h7 F7 N7
      k_steps
      rename News _ _ _ _ => N8
      rename Fr _ _ _ _ => F8
      refine Stop.go ?_
      obtain ⟨u0, e0⟩ := fr_look F8 (Str.ofString "pos") ((2 * p + 1 : Nat) : Int) ⟨_, look_int rfl (by omega) rfl⟩
      obtain ⟨u1, e1⟩ := fr_look F8 (Str.ofString "childpos") (2 * ((2 * p + 1 : Nat) : Int) + 1) ⟨_, look_int rfl (by omega) rfl⟩
      refine ksw_end (l.set p (l.getD (2 * p + 1) default), 2 * p + 1, u0, u1) F8 N8 (fun _ h => h) trivial ?k1 ?k2 ⟨by simpa using hl1, by show 2 * p + 1 < _; omega, ?k3, ?k4⟩ (by show vs.length - (2 * p + 1) < vs.length - p; omega)
      case k1 => intro q hq; rcases List.mem_cons.mp hq with rfl | hq; exact e0; rcases List.mem_cons.mp hq with rfl | hq; exact e1; exact nomatch hq
      case k2 =>
        intro z h2 h3
        have z1 : ¬ z = Str.ofString "pos" := h2 _ (.head _)
        have z2 : ¬ z = Str.ofString "childpos" := h2 _ (.tail _ (.head _))
        have h3' := h3
        simp only [List.contains_cons, List.contains_nil, Bool.or_false, Bool.or_eq_false_iff, beq_eq_false_iff_ne, ne_eq] at h3'
        simp only [kstB, h3, z1, z2, h3', if_false, Bool.false_eq_true]
      case k3 =>
        rw [← hl3, suLoop.eq_def _ l p]
        simp only [dif_pos (show 2 * p + 1 < l.length by omega), hkid]
      case k4 =>
        intro x hx
        rcases List.mem_or_eq_of_mem_set hx with h | h
        · exact hl4 x h
        · exact h ▸ hl4 _ (getD_mem (by omega))
    · rename lt _ _ = false => hb
      rename News _ _ _ _ => N5'
      have hkid : kid lt l p = 2 * p + 2 := by
        unfold kid; rw [if_pos ⟨by omega, hb⟩]
      refine item_at N5' (.head _) (2 * p + 2) (by omega) (by omega) (by omega) ?_
      k_steps
      rename News _ _ _ _ => N6
      rename Fr _ _ _ _ => F6
      refine set_at F6 N6 hne p rfl (by omega) (by omega) ?_
      intro h7 F7 N7
      k_steps
      rename News _ _ _ _ => N8
      rename Fr _ _ _ _ => F8
      refine Stop.go ?_
      obtain ⟨u0, e0⟩ := fr_look F8 (Str.ofString "pos") ((2 * p + 2 : Nat) : Int) ⟨_, look_int rfl (by omega) rfl⟩
      obtain ⟨u1, e1⟩ := fr_look F8 (Str.ofString "childpos") (2 * ((2 * p + 2 : Nat) : Int) + 1) ⟨_, look_int rfl (by omega) rfl⟩
      refine ksw_end (l.set p (l.getD (2 * p + 2) default), 2 * p + 2, u0, u1) F8 N8 (fun _ h => h) trivial ?k1 ?k2 ⟨by simpa using hl1, by show 2 * p + 2 < _; omega, ?k3, ?k4⟩ (by show vs.length - (2 * p + 2) < vs.length - p; omega)
      case k1 => intro q hq; rcases List.mem_cons.mp hq with rfl | hq; exact e0; rcases List.mem_cons.mp hq with rfl | hq; exact e1; exact nomatch hq
      case k2 =>
        intro z h2 h3
        have z1 : ¬ z = Str.ofString "pos" := h2 _ (.head _)
        have z2 : ¬ z = Str.ofString "childpos" := h2 _ (.tail _ (.head _))
        have h3' := h3
        simp only [List.contains_cons, List.contains_nil, Bool.or_false, Bool.or_eq_false_iff, beq_eq_false_iff_ne, ne_eq] at h3'
        simp only [kstB, h3, z1, z2, h3', if_false, Bool.false_eq_true]
      case k3 =>
        rw [← hl3, suLoop.eq_def _ l p]
        simp only [dif_pos (show 2 * p + 1 < l.length by omega), hkid]
      case k4 =>
        intro x hx
        rcases List.mem_or_eq_of_mem_set hx with h | h
        · exact hl4 x h
        · exact h ▸ hl4 _ (getD_mem (by omega))
  · rename News _ _ _ _ => N5
    rename 2 * (p : Int) + 1 < _ => hc1
    rename ¬ 2 * (p : Int) + 1 + 1 < _ => hc2
    have hkid : kid lt l p = 2 * p + 1 := by
      unfold kid; rw [if_neg]; omega
    refine item_at N5 (.head _) (2 * p + 1) (by omega) (by omega) (by omega) ?_
    k_steps
    rename News _ _ _ _ => N6
    rename Fr _ _ _ _ => F6
    refine set_at F6 N6 hne p rfl (by omega) (by omega) ?_
    intro h7 F7 N7
    k_steps
    rename News _ _ _ _ => N8
    rename Fr _ _ _ _ => F8
    refine Stop.go ?_
    obtain ⟨u0, e0⟩ := fr_look F8 (Str.ofString "pos") ((2 * p + 1 : Nat) : Int) ⟨_, look_int rfl (by omega) rfl⟩
    obtain ⟨u1, e1⟩ := fr_look F8 (Str.ofString "childpos") (2 * ((2 * p + 1 : Nat) : Int) + 1) ⟨_, look_int rfl (by omega) rfl⟩
    refine ksw_end (l.set p (l.getD (2 * p + 1) default), 2 * p + 1, u0, u1) F8 N8 (fun _ h => h) trivial ?k1 ?k2 ⟨by simpa using hl1, by show 2 * p + 1 < _; omega, ?k3, ?k4⟩ (by show vs.length - (2 * p + 1) < vs.length - p; omega)
    case k1 => intro q hq; rcases List.mem_cons.mp hq with rfl | hq; exact e0; rcases List.mem_cons.mp hq with rfl | hq; exact e1; exact nomatch hq
    case k2 =>
      intro z h2 h3
      have z1 : ¬ z = Str.ofString "pos" := h2 _ (.head _)
      have z2 : ¬ z = Str.ofString "childpos" := h2 _ (.tail _ (.head _))
      have h3' := h3
      simp only [List.contains_cons, List.contains_nil, Bool.or_false, Bool.or_eq_false_iff, beq_eq_false_iff_ne, ne_eq] at h3'
      simp only [kstB, h3, z1, z2, h3', if_false, Bool.false_eq_true]
    case k3 =>
      rw [← hl3, suLoop.eq_def _ l p]
      simp only [dif_pos (show 2 * p + 1 < l.length by omega), hkid]
    case k4 =>
      intro x hx
      rcases List.mem_or_eq_of_mem_set hx with h | h
      · exact hl4 x h
      · exact h ▸ hl4 _ (getD_mem (by omega))
  · rename ¬ 2 * (p : Int) + 1 < _ => hc1
    refine set_at F4 N4 hne p rfl (by omega) (by omega) ?_
    intro h5 F5 N5
    k_steps
    refine Stop.go ?_
    have e : suLoop lt vs pos = (l, p) := by
      rw [← hl3, suLoop.eq_def _ l p]
      simp only [dif_neg (show ¬ 2 * p + 1 < l.length by omega)]
    have hl5 : ∀ x ∈ l.set p (vs.getD pos default), x ∈ vs := by
      intro x hx
      rcases List.mem_or_eq_of_mem_set hx with h | h
      · exact hl4 x h
      · exact h ▸ getD_mem hp1
    refine sd_call w mean mg mb (dp + 1) (un + 3) gd _ _ _ _ [] _ _ _ _ _ _ rest _ lt la (l.set p (vs.getD pos default)) n pos p t1 tp _ _ (by k_asm) F5 (by k_asm) N5 (by k_asm) rfl (by omega) (by omega) hne (by rw [List.length_set]; omega) (by rw [List.length_set]; omega) (fun x hx y hy => hlt x (hl5 x hx) y (hl5 y hy)) ?_
    intro h6 tk6 F6 N6
    k_steps
    rename Fr h₀ _ _ _ => F7
    rename News h₀ _ _ _ => N7
    have e2 : su lt vs pos = sd lt (l.set p (vs.getD pos default)) pos p := by
      unfold su; rw [e]
    refine hret _ _ F7 ?_
    rw [e2]; exact N7
end Mine
namespace Mine
local macro_rules | `(tactic| walk_at "call ref") => `(tactic| refine Stop.out ?_)

theorem hp_call (w : World) (mean : ExcName → Option Value) (mg mb : Str → Option Value)
    (dp un : Nat) (gd : Option (List Code)) (cn : Str) (cs : Scope) (a : Addr) (ccd : Value) (cl : List (Str × Addr)) (outer : List Env) (A₀ : Around) (base h₀ : Heap) (L : Addr) (m : Str → Option Value) (rest : List (Addr × Obj)) (s : Shared)
    (lt : Value → Value → Bool) (la : Addr) (vs : List Value) (n : Nat) (x : Value)
    (Q E : Value → Shared → Prop) (B : Below A₀ base outer h₀) (F : Fr h₀ L s.heap m) (X : (Mine.hd01.heap_39 w.params).In h₀) (N : News h₀ L s.heap ((la, listOf vs.toArray n) :: rest))
    (T : Top Mine.hd01.view_39 (looseW Mine.hd01.view_39 []) mean mg mb h₀) (hk : cs.kind = .function) (hd : dp + 10 < recursionLimit) (hu : un + 110 < cLine)
    (hne : ∀ p ∈ rest, p.1 ≠ la) (hlen : vs.length < 200) (hlt : LtOk PySem.Challenge.rw_dp0035_01.row.prog w rest lt (vs ++ [x]))
    (hret : ∀ h' tk', Fr h₀ L h' m → News h₀ L h' ((la, listOf (hpush lt vs x).toArray (n + 1)) :: rest) → Q .none { s with heap := h', toks := tk' }) :
    wpAny (model PySem.Challenge.rw_dp0035_01.row.prog w) (ktrTop dp un gd cn cs L a ccd cl outer) (call (.ref 21) [.ref la, x]) Q E s := by
  have hfill : PySem.Challenge.rw_dp0035_01 = PySem.Challenge.rw_dp0035_01 ∧ Mine.hd01.heap_39 = Mine.hd01.heap_39 := by
    k_fill
    exact ⟨rfl, rfl⟩
  clear hfill
  w_top off
  k_with_none
  refine wpAny_call ?_
  k_dflt ktr_enter
  k_steps
  rename News _ _ _ _ => N1
  rename Fr _ _ _ _ => F1
  refine app_at F1 N1 hne (by omega) ?_
  intro h2 F2 N2
  k_steps
  refine len_at N2 (.head _) (by simp; omega) ?_
  intro t3 tk3
  k_steps
  refine Stop.go ?_
  have e : ((vs ++ [x]).length : Int) - 1 = (vs.length : Nat) := by simp
  rw [e]
  refine sd_call w mean mg mb (dp + 1) (un + 3) gd _ _ _ _ [] _ _ _ _ _ _ rest _ lt la (vs ++ [x]) (n + 1) 0 vs.length _ _ _ _ (by k_asm) F2 (by k_asm) N2 (by k_asm) rfl (by omega) (by omega) hne (by simp) (by simp; omega) hlt ?_
  intro h6 tk6 F6 N6
  k_steps
  rename Fr h₀ _ _ _ => F7
  rename News h₀ _ _ _ => N7
  exact hret _ _ F7 N7
end Mine
namespace Mine

/-- what a turn of a for loop leaves: the loop's own iterator as it was, and the word of the next turn -/
def LpEnd (h₀ : Heap) (L I : Addr) (oI : Obj) (J : (Str → Option Value) → List (Addr × Obj) → Prop) (s s₂ : Shared) : Prop :=
  ∃ h' tk m' nx, s₂ = { s with heap := h', toks := tk } ∧ Fr h₀ L h' m' ∧ News h₀ L h' ((I, oI) :: nx) ∧ (∀ p ∈ nx, p.1 ≠ I) ∧ J m' nx
def LpPost (h₀ : Heap) (L I : Addr) (oI : Obj) (J : (Str → Option Value) → List (Addr × Obj) → Prop) (s : Shared) (Q : Flow → Shared → Prop) (f : Flow) (s₂ : Shared) : Prop :=
  match f with
  | .ret v => Q (.ret v) s₂
  | .brk => Q .next s₂
  | _ => LpEnd h₀ L I oI J s s₂

def KS {σ : Type} (Led : σ → List (Addr × Obj)) (ps : σ → List (Str × Value)) (x : Str) (stored : List Str) (m₀ : Str → Option Value) (P : Nat → σ → Prop) (i : Nat) (m : Str → Option Value) (nx : List (Addr × Obj)) : Prop :=
  ∃ c : σ, nx = Led c ∧ (∀ p ∈ ps c, m p.1 = some p.2) ∧ (∀ z, z ≠ x → (∀ p ∈ ps c, z ≠ p.1) → stored.contains z = false → m z = m₀ z) ∧ P i c

theorem lp_end {σ : Type} {Led : σ → List (Addr × Obj)} {ps : σ → List (Str × Value)} {x : Str} {stored : List Str} {m₀ m' : Str → Option Value} {P : Nat → σ → Prop} {i : Nat} {h₀ h' : Heap} {L I : Addr} {oI : Obj} {s : Shared} {tk : Nat} {news : List (Addr × Obj)} (c : σ)
    (F : Fr h₀ L h' m') (N : News h₀ L h' news) (hI : (I, oI) ∈ news) (hn : ∀ p ∈ Led c, p ∈ news) (hne : ∀ p ∈ Led c, p.1 ≠ I) (hk : ∀ p ∈ ps c, m' p.1 = some p.2) (hr : ∀ z, z ≠ x → (∀ p ∈ ps c, z ≠ p.1) → stored.contains z = false → m' z = m₀ z) (hp : P i c) :
    LpEnd h₀ L I oI (KS Led ps x stored m₀ P i) s { s with heap := h', toks := tk } :=
  ⟨h', tk, m', Led c, rfl, F, fun p hp => (List.mem_cons.mp hp).elim (fun e => e ▸ N _ hI) (fun h => N p (hn p h)), hne, c, rfl, hk, hr, hp⟩

theorem lp_next {h₀ : Heap} {L I : Addr} {oI : Obj} {J : (Str → Option Value) → List (Addr × Obj) → Prop} {s : Shared} {Q : Flow → Shared → Prop} {s₂ : Shared} (h : LpEnd h₀ L I oI J s s₂) : LpPost h₀ L I oI J s Q .next s₂ := h
theorem lp_cont {h₀ : Heap} {L I : Addr} {oI : Obj} {J : (Str → Option Value) → List (Addr × Obj) → Prop} {s : Shared} {Q : Flow → Shared → Prop} {s₂ : Shared} (h : LpEnd h₀ L I oI J s s₂) : LpPost h₀ L I oI J s Q .cont s₂ := h
theorem ints_app : ∀ {vs ws : List Value} {ns ms : List Int}, IntsAre vs ns → IntsAre ws ms → IntsAre (vs ++ ws) (ns ++ ms)
  | _, _, _, _, .nil, h => h
  | _, _, _, _, .cons a u r, h => .cons a u (ints_app r h)
/-- a name for the head's address -/
theorem name_head {h₀ h : Heap} {L a : Addr} {o : Obj} {r : List (Addr × Obj)} (_N : News h₀ L h ((a, o) :: r)) {P : Prop} (k : ∀ a', a' = a → P) : P := k a rfl
/-- a name for the head's items -/
theorem name_items {h₀ h : Heap} {L a : Addr} {vs : List Value} {n : Nat} {r : List (Addr × Obj)} (_N : News h₀ L h ((a, listOf vs.toArray n) :: r)) {P : Prop} (k : ∀ vs', vs' = vs → P) : P := k vs rfl
theorem ints_one {a b : Int} {t : Tok} (h : a = b) : IntsAre [.int a t] [b] := h ▸ .cons a t .nil
theorem news_sub {h₀ h : Heap} {L : Addr} {l l' : List (Addr × Obj)} (N : News h₀ L h l) (hs : ∀ p ∈ l', p ∈ l) : News h₀ L h l' := fun p hp => N p (hs p hp)

section
variable {prog : Program} {w : World} {A : Around} {E : Value → Shared → Prop} {s : Shared} {env : Env} {h₀ : Heap} {x : Str} {body : List Stmt} {Q : Flow → Shared → Prop}

theorem lp_range {σ : Type} {r : Addr} {a₀ b₀ d : Int} {t₀ u₀ v₀ : Tok} {n : Nat} {m₀ : Str → Option Value} (Led : σ → List (Addr × Obj)) (ps : σ → List (Str × Value)) (stored : List Str) (P : Nat → σ → Prop) (val : Nat → Int) (c₀ : σ)
    (hh : A.handled = none) (hr : IsRange s.heap r a₀ b₀ d t₀ u₀ v₀) (hsmall : Builtin.Range.small a₀ b₀ d = true) (hn : Builtin.Range.rangeSize a₀ b₀ d = (n : Int)) (hval : ∀ i : Nat, i < n → a₀ + i * d = val i) (F : Fr h₀ env.locals s.heap m₀) (N : News h₀ env.locals s.heap (Led c₀)) (hk : ∀ p ∈ ps c₀, m₀ p.1 = some p.2) (hp : P 0 c₀)
    (turn : ∀ (i : Nat) (c : σ) t (u : Str → Option Value) h tk I oI, i < n → P i c → (∀ p ∈ Led c, p.1 ≠ I) →
      Fr h₀ env.locals h (fun y => if y = x then some (.int (val i) t) else kstB (fun z => if stored.contains z then u z else m₀ z) (ps c) y) → News h₀ env.locals h ((I, oI) :: Led c) →
      wpAny (model prog w) A (execs body env) (LpPost h₀ env.locals I oI (KS Led ps x stored m₀ P (i + 1)) s Q) E { s with heap := h, toks := tk })
    (done : ∀ (c : σ) (u : Str → Option Value) h tk, P n c → Fr h₀ env.locals h (fun y => if y = x then u y else kstB (fun z => if stored.contains z then u z else m₀ z) (ps c) y) → News h₀ env.locals h (Led c) → Q .next { s with heap := h, toks := tk }) :
    wpAny (model prog w) A (pyIter (.ref r)) (fun it s₂ => LoopAtV prog w A h₀ env x body Q E it s₂) E s := by
  refine wpAny_pyIter_range hr hsmall ?_
  have W : Walks prog w A s.heap.objs.size [s.heap.objs.size] [s.heap.objs.size] n (fun i v => ∃ t, v = .int (a₀ + i * d) t)
      (fun i h => IsRangeIter h s.heap.objs.size (a₀ + (i : Nat) * d) ((n : Int) - (i : Nat)) d) := Walks.range hh _ a₀ d n
  refine ⟨_, _, _, n, _, _, m₀, Led c₀, KS Led ps x stored m₀ P, rfl, W, ?_, ?_, ?_, (by show IsRangeIter _ _ _ _ _; rw [hn]; simpa using Heap.get?_push_size _ rfl), F.push _, (fun p hp => ⟨Heap.get?_push_of_some _ (N p hp).1, (N p hp).2⟩), ⟨c₀, rfl, hk, fun _ _ _ _ => rfl, hp⟩, ?_, ?_⟩
  · intro hm
    exact absurd F.ns.lt ((List.mem_singleton.mp hm) ▸ Nat.lt_irrefl _)
  · intro b hb
    rw [List.mem_singleton.mp hb]
    exact next_is_new F
  · intro p hp hI
    exact absurd (Heap.lt_size (N p hp).1) ((List.mem_singleton.mp hI) ▸ Nat.lt_irrefl _)
  · rintro i v m₁ nx s₁ own ⟨h, tk, rfl⟩ hi ⟨t, rfl⟩ ⟨c, rfl, h1, h2, hp'⟩ hoff hfp _ hown hst F₁ N₁
    have hI0 : h₀.get? s.heap.objs.size = none := next_is_new F
    rw [hval i hi] at F₁
    obtain ⟨oI, hst⟩ : ∃ oI, h.get? s.heap.objs.size = some oI := ⟨_, hst⟩
    have hoI := hown _ (.head _) hI0 _ hst
    refine wpAny_mono (turn i c t m₁ h tk s.heap.objs.size oI hi hp' (fun p hp e => hoff p hp (by rw [e]; exact .head _)) (kst_fr h1 h2 F₁) (fun p hp => ?_)) (fun f s₂ q => ?_) fun _ _ e => e
    · rcases List.mem_cons.mp hp with rfl | hp
      · exact N₁ _ (List.mem_append_left _ hoI)
      · exact N₁ _ (List.mem_append_right _ hp)
    · have fin : LpEnd h₀ env.locals s.heap.objs.size oI (KS Led ps x stored m₀ P (i + 1)) s s₂ → LoopStepU h₀ env.locals [s.heap.objs.size] own (KS Led ps x stored m₀ P (i + 1)) { s with heap := h, toks := tk } .next s₂ := by
        rintro ⟨h', tk', m', nx', rfl, F', N', hne', hJ'⟩
        refine ⟨rfl, h', tk', m', nx', rfl, F', fun p hp => ?_, fun p hp hq => hne' p hp (List.mem_singleton.mp hq), hJ'⟩
        rcases List.mem_append.mp hp with hp | hp
        · have e1 := List.mem_singleton.mp (hfp p hp)
          have e2 : p.2 = oI := Option.some.inj ((N₁ p (List.mem_append_left _ hp)).1.symm.trans (by rw [e1]; exact hst))
          have e3 : p = (s.heap.objs.size, oI) := Prod.ext e1 e2
          rw [e3]
          exact N' _ (.head _)
        · exact N' _ (.tail _ hp)
      cases f with
      | ret v => exact .ret q
      | brk => exact .brk q
      | next => exact .next (fin q)
      | cont => exact .cont (fin q)
  · rintro h' tk m' nx F' N' _ ⟨c, rfl, h1, h2, hp'⟩
    exact done c m' h' tk hp' (kst_frOut h1 h2 F') N'

theorem lp_list {σ : Type} {l : Addr} {vs : List Value} {nn : Nat} {m₀ : Str → Option Value} (Led : σ → List (Addr × Obj)) (ps : σ → List (Str × Value)) (stored : List Str) (P : Nat → σ → Prop) (c₀ : σ)
    (hh : A.handled = none) (hl : ∀ i c, P i c → (l, listOf vs.toArray nn) ∈ Led c) (F : Fr h₀ env.locals s.heap m₀) (N : News h₀ env.locals s.heap (Led c₀)) (hk : ∀ p ∈ ps c₀, m₀ p.1 = some p.2) (hp : P 0 c₀)
    (turn : ∀ (i : Nat) (c : σ) v (u : Str → Option Value) h tk I oI, i < vs.length → vs[i]? = some v → P i c → (∀ p ∈ Led c, p.1 ≠ I) →
      Fr h₀ env.locals h (fun y => if y = x then some v else kstB (fun z => if stored.contains z then u z else m₀ z) (ps c) y) → News h₀ env.locals h ((I, oI) :: Led c) →
      wpAny (model prog w) A (execs body env) (LpPost h₀ env.locals I oI (KS Led ps x stored m₀ P (i + 1)) s Q) E { s with heap := h, toks := tk })
    (done : ∀ (c : σ) (u : Str → Option Value) h tk, P vs.length c → Fr h₀ env.locals h (fun y => if y = x then u y else kstB (fun z => if stored.contains z then u z else m₀ z) (ps c) y) → News h₀ env.locals h (Led c) → Q .next { s with heap := h, toks := tk }) :
    wpAny (model prog w) A (pyIter (.ref l)) (fun it s₂ => LoopAtV prog w A h₀ env x body Q E it s₂) E s := by
  have hl0 := N _ (hl 0 c₀ hp)
  have hls : s.heap.IsList l vs.toArray := PySem.IsL.isList (n := nn) hl0.1
  have hne : l ≠ s.heap.objs.size := Nat.ne_of_lt (Heap.lt_size hl0.1)
  refine wpAny_pyIter_list hls ?_
  have W := Walks.list (prog := prog) (w := w) hh s.heap.objs.size l hne vs.toArray
  rw [List.size_toArray] at W
  refine ⟨_, _, _, vs.length, _, _, m₀, Led c₀, KS Led ps x stored m₀ P, rfl, W, ?_, ?_, ?_, ⟨⟨_, Heap.get?_push_size _ rfl, rfl, rfl⟩, hls.at fun o e => Heap.get?_push_of_some _ e⟩, F.push _, (fun p hp => ⟨Heap.get?_push_of_some _ (N p hp).1, (N p hp).2⟩), ⟨c₀, rfl, hk, fun _ _ _ _ => rfl, hp⟩, ?_, ?_⟩
  · intro hm
    rcases List.mem_cons.mp hm with e | hm
    · exact absurd F.ns.lt (e ▸ Nat.lt_irrefl _)
    · exact hl0.2.1 (List.mem_singleton.mp hm).symm
  · intro b hb
    rw [List.mem_singleton.mp hb]
    exact next_is_new F
  · intro p hp hI
    exact absurd (Heap.lt_size (N p hp).1) ((List.mem_singleton.mp hI) ▸ Nat.lt_irrefl _)
  · rintro i v m₁ nx s₁ own ⟨h, tk, rfl⟩ hi hv ⟨c, rfl, h1, h2, hp'⟩ hoff hfp _ hown ⟨⟨oI, hst, hoI2⟩, hst2⟩ F₁ N₁
    have hI0 : h₀.get? s.heap.objs.size = none := next_is_new F
    have hoI := hown _ (.head _) hI0 _ hst
    have hlc := N₁ _ (List.mem_append_right _ (hl i c hp'))
    refine wpAny_mono (turn i c v m₁ h tk s.heap.objs.size oI hi (by simpa using hv) hp' (fun p hp e => hoff p hp (by rw [e]; exact .head _)) (kst_fr h1 h2 F₁) (fun p hp => ?_)) (fun f s₂ q => ?_) fun _ _ e => e
    · rcases List.mem_cons.mp hp with rfl | hp
      · exact N₁ _ (List.mem_append_left _ hoI)
      · exact N₁ _ (List.mem_append_right _ hp)
    · have fin : LpEnd h₀ env.locals s.heap.objs.size oI (KS Led ps x stored m₀ P (i + 1)) s s₂ → LoopStepU h₀ env.locals [s.heap.objs.size] own (KS Led ps x stored m₀ P (i + 1)) { s with heap := h, toks := tk } .next s₂ := by
        rintro ⟨h', tk', m', nx', rfl, F', N', hne', hJ'⟩
        refine ⟨rfl, h', tk', m', nx', rfl, F', fun p hp => ?_, fun p hp hq => hne' p hp (List.mem_singleton.mp hq), hJ'⟩
        rcases List.mem_append.mp hp with hp | hp
        · rcases List.mem_cons.mp (hfp p hp) with e1 | e1
          · have e2 : p.2 = oI := Option.some.inj ((N₁ p (List.mem_append_left _ hp)).1.symm.trans (by rw [e1]; exact hst))
            have e3 : p = (s.heap.objs.size, oI) := Prod.ext e1 e2
            rw [e3]
            exact N' _ (.head _)
          · have e1 := List.mem_singleton.mp e1
            have e2 : p.2 = listOf vs.toArray nn := Option.some.inj ((N₁ p (List.mem_append_left _ hp)).1.symm.trans (by rw [e1]; exact hlc.1))
            have e3 : p = (l, listOf vs.toArray nn) := Prod.ext e1 e2
            rw [e3]
            obtain ⟨c', rfl, _, _, hp9⟩ := hJ'
            exact N' _ (.tail _ (hl _ _ hp9))
        · exact N' _ (.tail _ hp)
      cases f with
      | ret v => exact .ret q
      | brk => exact .brk q
      | next => exact .next (fin q)
      | cont => exact .cont (fin q)
  · rintro h' tk m' nx F' N' _ ⟨c, rfl, h1, h2, hp'⟩
    exact done c m' h' tk hp' (kst_frOut h1 h2 F') N'
end
end Mine
namespace Mine

section
variable {α : Type} [Inhabited α]

/-- the item at a place -/
abbrev it (l : List α) (i : Nat) : α := l.getD i default
theorem it_set (l : List α) (i : Nat) (v : α) (j : Nat) (h : i < l.length) : it (l.set i v) j = if i = j then v else it l j := by
  unfold it
  rw [List.getD_eq_getElem?_getD, List.getD_eq_getElem?_getD, List.getElem?_set]
  by_cases e : i = j
  · subst e; simp [h]
  · simp [e]
theorem it_set_ne {l : List α} {i j : Nat} {v : α} (h : i ≠ j) : it (l.set i v) j = it l j := by
  unfold it
  rw [List.getD_eq_getElem?_getD, List.getD_eq_getElem?_getD, List.getElem?_set]
  simp [h]
theorem it_set_eq {l : List α} {i : Nat} {v : α} (h : i < l.length) : it (l.set i v) i = v := by
  rw [it_set l i v i h, if_pos rfl]

structure LO (lt : α → α → Bool) : Prop where
  asym : ∀ a b, lt a b = true → lt b a = false
  tr : ∀ a b c, lt b a = false → lt c b = false → lt c a = false
theorem LO.irr {lt : α → α → Bool} (o : LO lt) (a : α) : lt a a = false := by
  cases h : lt a a with
  | false => rfl
  | true => exact absurd (o.asym a a h) (by rw [h]; decide)

variable (lt : α → α → Bool)
/-- an item is not less than the one over it -/
def Edge (l : List α) (k : Nat) : Prop := lt (it l k) (it l ((k - 1) / 2)) = false
/-- the edges that do not touch p -/
def EdgesBut (l : List α) (p : Nat) : Prop := ∀ k, 0 < k → k < l.length → k ≠ p → (k - 1) / 2 ≠ p → Edge lt l k
/-- what lies over p is not greater than what lies below p -/
def Over (l : List α) (p : Nat) : Prop := 0 < p → ∀ k, 0 < k → k < l.length → (k - 1) / 2 = p → lt (it l k) (it l ((p - 1) / 2)) = false
def Heap' (l : List α) : Prop := ∀ k, 0 < k → k < l.length → Edge lt l k

inductive Desc (sp : Nat) : Nat → Prop
  | self : Desc sp sp
  | kid {p : Nat} : 0 < p → Desc sp ((p - 1) / 2) → Desc sp p
theorem Desc.le {sp p : Nat} (h : Desc sp p) : sp ≤ p := by
  induction h with
  | self => exact Nat.le_refl _
  | kid h0 _ ih => omega
theorem Desc.up {sp p : Nat} (h : Desc sp p) (hp : sp < p) : Desc sp ((p - 1) / 2) := by
  cases h with
  | self => omega
  | kid _ h => exact h
theorem Desc.zero (p : Nat) : Desc 0 p := by
  induction p using Nat.strongRecOn with
  | ind p ih =>
    by_cases h : p = 0
    · rw [h]; exact .self
    · exact .kid (by omega) (ih _ (by omega))

variable {lt}
theorem sdLoop_ok (o : LO lt) {new : α} {sp : Nat} : ∀ {p : Nat} {l : List α}, p < l.length → Desc sp p → EdgesBut lt l p → (∀ k, 0 < k → k < l.length → (k - 1) / 2 = p → lt (it l k) new = false) → Over lt l p →
    (∀ k, 0 < k → k < l.length → k ≠ sp → Edge lt (sdLoop lt new sp l p) k) ∧ Over lt (sdLoop lt new sp l p) sp ∧ (0 < sp → lt new (it l ((sp - 1) / 2)) = false → Edge lt (sdLoop lt new sp l p) sp) ∧ (∀ j, ¬ Desc sp j → it (sdLoop lt new sp l p) j = it l j) := by
  intro p
  induction p using Nat.strongRecOn with
  | ind p ih =>
    intro l hp hd hA hB hC
    have stop : (sp < p → lt new (it l ((p - 1) / 2)) = false) → (∀ k, 0 < k → k < l.length → k ≠ sp → Edge lt (l.set p new) k) ∧ Over lt (l.set p new) sp ∧ (0 < sp → lt new (it l ((sp - 1) / 2)) = false → Edge lt (l.set p new) sp) ∧ (∀ j, ¬ Desc sp j → it (l.set p new) j = it l j) := by
      intro hs
      have e1 : ∀ k, 0 < k → k < l.length → k ≠ sp → Edge lt (l.set p new) k := by
        intro k h0 hk hne
        unfold Edge
        by_cases hkp : k = p
        · subst hkp
          have : sp < k := by have := hd.le; omega
          rw [it_set_eq hp, it_set_ne (by omega)]
          exact hs this
        · by_cases hkq : (k - 1) / 2 = p
          · rw [it_set_ne (Ne.symm hkp), hkq, it_set_eq hp]
            exact hB k h0 hk hkq
          · rw [it_set_ne (Ne.symm hkp), it_set_ne (Ne.symm hkq)]
            exact hA k h0 hk hkp hkq
      have le := hd.le
      refine ⟨e1, ?_, ?_, ?_⟩
      · intro hsp k h0 hk hks
        rw [List.length_set] at hk
        have hne : k ≠ sp := by omega
        have h1 := e1 k h0 hk hne
        unfold Edge at h1
        rw [hks] at h1
        by_cases hps : p = sp
        · subst hps
          rw [it_set_ne (show p ≠ k by omega), it_set_ne (show p ≠ (p - 1) / 2 by omega)]
          exact hC hsp k h0 hk hks
        · refine o.tr _ _ _ ?_ h1
          rw [it_set_ne (show p ≠ sp by omega), it_set_ne (show p ≠ (sp - 1) / 2 by omega)]
          exact hA sp hsp (by omega) (by omega) (by omega)
      · intro hsp hnew
        unfold Edge
        by_cases hps : p = sp
        · subst hps
          rw [it_set_eq hp, it_set_ne (show p ≠ (p - 1) / 2 by omega)]
          exact hnew
        · rw [it_set_ne (show p ≠ sp by omega), it_set_ne (show p ≠ (sp - 1) / 2 by omega)]
          exact hA sp hsp (by omega) (by omega) (by omega)
      · intro j hj
        exact it_set_ne fun e => hj (e ▸ hd)
    rw [sdLoop.eq_def]
    by_cases hgt : sp < p
    · rw [dif_pos hgt]
      cases hlt : lt new (l.getD ((p - 1) / 2) default) with
      | false => simp only [Bool.false_eq_true, if_false]; exact stop fun _ => hlt
      | true =>
        simp only [if_true]
        have hq : (p - 1) / 2 < p := by omega
        have hnq : lt (it l ((p - 1) / 2)) new = false := o.asym _ _ hlt
        have R := ih ((p - 1) / 2) hq (l := l.set p (l.getD ((p - 1) / 2) default)) (by rw [List.length_set]; omega) (hd.up hgt) ?_ ?_ ?_
        · rw [List.length_set] at R
          obtain ⟨r1, r2, r3, r4⟩ := R
          refine ⟨r1, r2, ?_, ?_⟩
          · intro hsp hnew
            refine r3 hsp ?_
            rw [it_set_ne (show p ≠ (sp - 1) / 2 by omega)]
            exact hnew
          · intro j hj
            rw [r4 j hj]
            exact it_set_ne fun e => hj (e ▸ hd)
        · intro k h0 hk h1 h2
          rw [List.length_set] at hk
          have hkp : k ≠ p := by intro e; rw [e] at h2; exact h2 rfl
          unfold Edge
          by_cases hkq : (k - 1) / 2 = p
          · rw [it_set_ne (Ne.symm hkp), hkq, it_set_eq hp]
            exact hC (by omega) k h0 hk hkq
          · rw [it_set_ne (Ne.symm hkp), it_set_ne (Ne.symm hkq)]
            exact hA k h0 hk hkp hkq
        · intro k h0 hk h1
          rw [List.length_set] at hk
          by_cases hkp : k = p
          · rw [hkp, it_set_eq hp]; exact hnq
          · rw [it_set_ne (Ne.symm hkp)]
            have := hA k h0 hk hkp (by omega)
            unfold Edge at this
            rw [h1] at this
            exact o.tr _ _ _ hnq this
        · intro hq0 k h0 hk h1
          rw [List.length_set] at hk
          rw [it_set_ne (show p ≠ ((p - 1) / 2 - 1) / 2 by omega)]
          have hE := hA ((p - 1) / 2) hq0 (by omega) (by omega) (by omega)
          unfold Edge at hE
          by_cases hkp : k = p
          · rw [hkp, it_set_eq hp]; exact hE
          · rw [it_set_ne (Ne.symm hkp)]
            have := hA k h0 hk hkp (by omega)
            unfold Edge at this
            rw [h1] at this
            exact o.tr _ _ _ hE this
    · rw [dif_neg hgt]
      exact stop fun h => absurd h hgt

theorem kid_parent (lt : α → α → Bool) (l : List α) (p : Nat) : (kid lt l p - 1) / 2 = p ∧ p < kid lt l p := by
  rcases kid_or lt l p with h | ⟨h, _⟩ <;> rw [h] <;> omega
theorem kid_lt {l : List α} {p : Nat} (h : 2 * p + 1 < l.length) : kid lt l p < l.length := by
  rcases kid_or lt l p with h | h <;> omega
theorem kid_least (o : LO lt) {l : List α} {p : Nat} (k : Nat) (h0 : 0 < k) (hk : k < l.length) (hp : (k - 1) / 2 = p) : lt (it l k) (it l (kid lt l p)) = false := by
  have h2 : k = 2 * p + 1 ∨ k = 2 * p + 2 := by omega
  unfold kid
  split
  · rename_i h
    rcases h2 with rfl | rfl
    · exact h.2
    · exact o.irr _
  · rename_i h
    rcases h2 with rfl | rfl
    · exact o.irr _
    · refine o.asym _ _ ?_
      cases hb : lt (it l (2 * p + 1)) (it l (2 * p + 2)) with
      | true => rfl
      | false => exact absurd ⟨hk, hb⟩ h

theorem suLoop_ok (o : LO lt) {sp : Nat} (l : List α) (p : Nat) (hp : p < l.length) (hd : Desc sp p) (hA : EdgesBut lt l p) (hC : Over lt l p) :
    EdgesBut lt (suLoop lt l p).1 (suLoop lt l p).2 ∧ Over lt (suLoop lt l p).1 (suLoop lt l p).2 ∧ Desc sp (suLoop lt l p).2 ∧ l.length ≤ 2 * (suLoop lt l p).2 + 1 ∧ (∀ j, ¬ Desc sp j → it (suLoop lt l p).1 j = it l j) := by
  fun_induction suLoop lt l p with
  | case2 l p h => exact ⟨hA, hC, hd, by omega, fun _ _ => rfl⟩
  | case1 l p h ih =>
    obtain ⟨hk1, hk2⟩ := kid_parent lt l p
    have hkl := kid_lt (lt := lt) h
    have R := ih (by rw [List.length_set]; exact hkl) (.kid (by omega) (by rw [hk1]; exact hd)) ?_ ?_
    · obtain ⟨r1, r2, r3, r4, r5⟩ := R
      refine ⟨r1, r2, r3, by rw [List.length_set] at r4; exact r4, ?_⟩
      intro j hj
      rw [r5 j hj]
      exact it_set_ne fun e => hj (e ▸ hd)
    · intro k h0 hk h1 h2
      rw [List.length_set] at hk
      unfold Edge
      by_cases hkp : k = p
      · subst hkp
        rw [it_set_eq hp, it_set_ne (by omega)]
        exact hC h0 _ (by omega) hkl hk1
      · by_cases hkq : (k - 1) / 2 = p
        · rw [it_set_ne (Ne.symm hkp), hkq, it_set_eq hp]
          exact kid_least o k h0 hk hkq
        · rw [it_set_ne (Ne.symm hkp), it_set_ne (Ne.symm hkq)]
          exact hA k h0 hk hkp hkq
    · intro _ k h0 hk h1
      rw [List.length_set] at hk
      rw [it_set_ne (show p ≠ k by omega), hk1, it_set_eq hp]
      have := hA k h0 hk (by omega) (by omega)
      unfold Edge at this
      rw [h1] at this
      exact this

theorem su_ok (o : LO lt) {l : List α} {pos : Nat} (hp : pos < l.length) (hA : EdgesBut lt l pos) (hC : Over lt l pos) :
    (∀ k, 0 < k → k < l.length → k ≠ pos → Edge lt (su lt l pos) k) ∧ Over lt (su lt l pos) pos ∧ (0 < pos → lt (it l pos) (it l ((pos - 1) / 2)) = false → Edge lt (su lt l pos) pos) ∧ (∀ j, ¬ Desc pos j → it (su lt l pos) j = it l j) := by
  obtain ⟨r1, r2, r3, r4, r5⟩ := suLoop_ok o l pos hp .self hA hC
  have hl := suLoop_length lt l pos
  have hq := suLoop_lt lt l pos hp
  unfold su
  dsimp only
  generalize (suLoop lt l pos).1 = l1 at *
  generalize (suLoop lt l pos).2 = q at *
  unfold sd
  have e : (l1.set q (l.getD pos default)).getD q default = l.getD pos default := it_set_eq (by omega)
  rw [e]
  have nokid : ∀ k, 0 < k → k < l.length → (k - 1) / 2 = q → False := fun k _ _ h => by omega
  have R := sdLoop_ok o (new := l.getD pos default) (sp := pos) (p := q) (l := l1.set q (l.getD pos default)) (by rw [List.length_set]; omega) r3 ?_ ?_ ?_
  · rw [List.length_set, hl] at R
    obtain ⟨s1, s2, s3, s4⟩ := R
    have npar : 0 < pos → ¬ Desc pos ((pos - 1) / 2) := fun h0 h => by have := h.le; omega
    refine ⟨s1, s2, ?_, ?_⟩
    · intro h0 hn
      refine s3 h0 ?_
      have hle := r3.le
      rw [it_set_ne (show q ≠ (pos - 1) / 2 by omega), r5 _ (npar h0)]
      exact hn
    · intro j hj
      rw [s4 j hj, it_set_ne (fun e : q = j => hj (e ▸ r3)), r5 j hj]
  · intro k h0 hk h1 h2
    rw [List.length_set] at hk
    unfold Edge
    rw [it_set_ne (Ne.symm h1), it_set_ne (Ne.symm h2)]
    exact r1 k h0 hk h1 h2
  · intro k h0 hk h1
    rw [List.length_set] at hk
    exact (nokid k h0 (by omega) h1).elim
  · intro _ k h0 hk h1
    rw [List.length_set] at hk
    exact (nokid k h0 (by omega) h1).elim

theorem sd0_ok (o : LO lt) {l : List α} {p : Nat} (hp : p < l.length) (hA : ∀ k, 0 < k → k < l.length → k ≠ p → Edge lt l k) (hC : Over lt l p) : Heap' lt (sd lt l 0 p) := by
  obtain ⟨r1, _⟩ := sdLoop_ok o (new := l.getD p default) (sp := 0) hp (Desc.zero p) (fun k h0 hk h1 _ => hA k h0 hk h1) (fun k h0 hk h1 => by
    have := hA k h0 hk (by omega); unfold Edge at this; rw [h1] at this; exact this) hC
  intro k h0 hk
  unfold sd at hk ⊢
  rw [sdLoop_length] at hk
  exact r1 k h0 hk (by omega)

theorem hpush_ok (o : LO lt) {l : List α} (h : Heap' lt l) (x : α) : Heap' lt (hpush lt l x) := by
  unfold hpush
  refine sd0_ok o (by simp) ?_ ?_
  · intro k h0 hk hne
    have hk' : k < l.length := by simp at hk; omega
    have := h k h0 hk'
    unfold Edge it at this ⊢
    rw [List.getD_eq_getElem?_getD, List.getD_eq_getElem?_getD] at this ⊢
    rw [List.getElem?_append_left hk', List.getElem?_append_left (by omega)]
    exact this
  · intro _ k h0 hk h1
    simp at hk
    omega

theorem heap_root (o : LO lt) {l : List α} (h : Heap' lt l) : ∀ k, k < l.length → lt (it l k) (it l 0) = false := by
  intro k
  induction k using Nat.strongRecOn with
  | ind k ih =>
    intro hk
    by_cases h0 : k = 0
    · rw [h0]; exact o.irr _
    · exact o.tr _ _ _ (ih _ (show (k - 1) / 2 < k by omega) (by omega)) (h k (by omega) hk)

/-- a heap whose top is changed, and _siftup from there -/
theorem su0_ok (o : LO lt) {l : List α} (h : Heap' lt l) (hl : 0 < l.length) (x : α) : Heap' lt (su lt (l.set 0 x) 0) := by
  obtain ⟨r1, _⟩ := su_ok o (l := l.set 0 x) (pos := 0) (by rw [List.length_set]; exact hl) (fun k h0 hk h1 h2 => by
    rw [List.length_set] at hk
    unfold Edge
    rw [it_set_ne (Ne.symm h1), it_set_ne (Ne.symm h2)]
    exact h k h0 hk) (fun h => absurd h (by decide))
  intro k h0 hk
  rw [su_length] at hk
  exact r1 k h0 hk (by omega)
end

section
variable {α : Type} [Inhabited α] [DecidableEq α] {lt : α → α → Bool}
theorem count_set' {l : List α} {i : Nat} (h : i < l.length) (v a : α) : (l.set i v).count a + (if it l i = a then 1 else 0) = l.count a + (if v = a then 1 else 0) := by
  have e : it l i = l[i] := by unfold it; rw [List.getD_eq_getElem?_getD, List.getElem?_eq_getElem h]; rfl
  rw [List.count_set h, e]
  have hp : l[i] = a → 0 < l.count a := fun q => List.count_pos_iff.mpr (q ▸ List.getElem_mem h)
  by_cases h1 : l[i] = a
  · have := hp h1
    by_cases h2 : v = a <;> simp [h1, h2] <;> omega
  · by_cases h2 : v = a <;> simp [h1, h2]
theorem sdLoop_count {new : α} {sp : Nat} {l : List α} {p : Nat} (hp : p < l.length) (a : α) : (sdLoop lt new sp l p).count a = (l.set p new).count a := by
  fun_induction sdLoop lt new sp l p with
  | case1 l p h1 h2 ih =>
    have hq : (p - 1) / 2 < p := by omega
    rw [ih (by rw [List.length_set]; omega)]
    have e1 := count_set' (l := l.set p (l.getD ((p - 1) / 2) default)) (i := (p - 1) / 2) (by rw [List.length_set]; omega) new a
    have e2 := count_set' hp (l.getD ((p - 1) / 2) default) a
    have e3 := count_set' hp new a
    rw [it_set_ne (show p ≠ (p - 1) / 2 by omega)] at e1
    have e4 : it l ((p - 1) / 2) = l.getD ((p - 1) / 2) default := rfl
    rw [e4] at e1
    omega
  | case2 l p h1 h2 => rfl
  | case3 l p h1 => rfl
theorem sd_count {sp : Nat} {l : List α} {p : Nat} (hp : p < l.length) (a : α) : (sd lt l sp p).count a = l.count a := by
  unfold sd
  rw [sdLoop_count hp]
  have := count_set' hp (l.getD p default) a
  have e : it l p = l.getD p default := rfl
  rw [e] at this
  omega
theorem suLoop_count {l : List α} {p : Nat} (hp : p < l.length) (v a : α) : ((suLoop lt l p).1.set (suLoop lt l p).2 v).count a = (l.set p v).count a := by
  fun_induction suLoop lt l p with
  | case1 l p h ih =>
    obtain ⟨hk1, hk2⟩ := kid_parent lt l p
    have hkl := kid_lt (lt := lt) h
    rw [ih (by rw [List.length_set]; exact hkl)]
    have e1 := count_set' (l := l.set p (l.getD (kid lt l p) default)) (i := kid lt l p) (by rw [List.length_set]; exact hkl) v a
    have e2 := count_set' hp (l.getD (kid lt l p) default) a
    have e3 := count_set' hp v a
    rw [it_set_ne (show p ≠ kid lt l p by omega)] at e1
    have e4 : it l (kid lt l p) = l.getD (kid lt l p) default := rfl
    rw [e4] at e1
    omega
  | case2 l p h => rfl
theorem su_count {l : List α} {p : Nat} (hp : p < l.length) (a : α) : (su lt l p).count a = l.count a := by
  unfold su
  dsimp only
  have h1 := suLoop_length lt l p
  have h2 := suLoop_lt lt l p hp
  rw [sd_count (by rw [List.length_set, h1]; exact h2), suLoop_count hp]
  have := count_set' hp (l.getD p default) a
  have e : it l p = l.getD p default := rfl
  rw [e] at this
  omega
theorem su_perm {l : List α} {p : Nat} (hp : p < l.length) : (su lt l p).Perm l := List.perm_iff_count.mpr (su_count hp)
theorem hpush_perm {l : List α} {x : α} : (hpush lt l x).Perm (x :: l) := by
  refine (List.perm_iff_count.mpr (sd_count (by simp))).trans ?_
  exact List.perm_append_comm
end
end Mine
set_option linter.unusedSectionVars false
namespace Mine
section
variable {α : Type} [Inhabited α] {lt : α → α → Bool}

/-! ## the hole: what stands at the place itself is of no account -/
theorem set_own {l : List α} {c : Nat} (h : c < l.length) : l.set c (it l c) = l := by
  apply List.ext_getElem?
  intro i
  rw [List.getElem?_set]
  by_cases e : c = i
  · subst e
    unfold it
    rw [List.getD_eq_getElem?_getD, List.getElem?_eq_getElem h]
    simp [h]
  · simp [e]
theorem sdLoop_hole {y v : α} {sp p : Nat} {l : List α} : sdLoop lt y sp (l.set p v) p = sdLoop lt y sp l p := by
  rw [sdLoop.eq_def lt y sp (l.set p v) p, sdLoop.eq_def lt y sp l p]
  by_cases h : sp < p
  · rw [dif_pos h, dif_pos h]
    have e : (l.set p v).getD ((p - 1) / 2) default = l.getD ((p - 1) / 2) default := it_set_ne (show p ≠ (p - 1) / 2 by omega)
    rw [e, List.set_set, List.set_set]
  · rw [dif_neg h, dif_neg h, List.set_set]
theorem kid_set {l : List α} {p c : Nat} {v : α} (h : p < 2 * c + 1) : kid lt (l.set p v) c = kid lt l c := by
  unfold kid
  have e1 : (l.set p v).getD (2 * c + 1) default = l.getD (2 * c + 1) default := it_set_ne (by omega)
  have e2 : (l.set p v).getD (2 * c + 2) default = l.getD (2 * c + 2) default := it_set_ne (by omega)
  rw [e1, e2, List.length_set]

/-- the plain way down -/
def sink (lt : α → α → Bool) (y : α) (l : List α) (p : Nat) : List α × Nat :=
  if _h : 2 * p + 1 < l.length ∧ lt (it l (kid lt l p)) y = true then sink lt y (l.set p (it l (kid lt l p))) (kid lt l p) else (l.set p y, p)
termination_by l.length - p
decreasing_by
  rw [List.length_set]
  rcases kid_or lt l p with h | h <;> omega
/-- the way up, with its end -/
def lift (lt : α → α → Bool) (y : α) (sp : Nat) (l : List α) (p : Nat) : List α × Nat :=
  if _h : sp < p ∧ lt y (it l ((p - 1) / 2)) = true then lift lt y sp (l.set p (it l ((p - 1) / 2))) ((p - 1) / 2) else (l.set p y, p)
termination_by p
decreasing_by omega
theorem sdLoop_lift (y : α) (sp : Nat) (l : List α) (p : Nat) : sdLoop lt y sp l p = (lift lt y sp l p).1 := by
  fun_induction sdLoop lt y sp l p with
  | case1 l p h1 h2 ih => rw [ih, lift.eq_def lt y sp l p, dif_pos ⟨h1, h2⟩]
  | case2 l p h1 h2 => rw [lift.eq_def, dif_neg fun h => h2 h.2]
  | case3 l p h1 => rw [lift.eq_def, dif_neg fun h => h1 h.1]
theorem sink_hole {y v : α} {p : Nat} {l : List α} : sink lt y (l.set p v) p = sink lt y l p := by
  rw [sink.eq_def lt y (l.set p v) p, sink.eq_def lt y l p]
  have hk : kid lt (l.set p v) p = kid lt l p := kid_set (by omega)
  have hne : p ≠ kid lt l p := by have := (kid_parent lt l p).2; omega
  rw [hk, List.length_set, it_set_ne hne]
  split
  · rw [List.set_set]
  · rw [List.set_set]
theorem sink_length (y : α) (l : List α) (p : Nat) : (sink lt y l p).1.length = l.length := by
  fun_induction sink lt y l p <;> simp_all
theorem lift_length (y : α) (sp : Nat) (l : List α) (p : Nat) : (lift lt y sp l p).1.length = l.length := by
  fun_induction lift lt y sp l p <;> simp_all
theorem sink_lt (y : α) (l : List α) (p : Nat) (h : p < l.length) : (sink lt y l p).2 < l.length := by
  fun_induction sink lt y l p with
  | case1 l p h1 ih =>
    have := ih (by rw [List.length_set]; exact kid_lt h1.1)
    simpa using this
  | case2 => exact h
theorem lift_le (y : α) (sp : Nat) (l : List α) (p : Nat) : (lift lt y sp l p).2 ≤ p := by
  fun_induction lift lt y sp l p with
  | case1 l p h ih => omega
  | case2 => exact Nat.le_refl _
theorem sink_at (y : α) (l : List α) (p : Nat) (h : p < l.length) : it (sink lt y l p).1 (sink lt y l p).2 = y := by
  fun_induction sink lt y l p with
  | case1 l p h1 ih => exact ih (by rw [List.length_set]; exact kid_lt h1.1)
  | case2 => exact it_set_eq h
theorem lift_at (y : α) (sp : Nat) (l : List α) (p : Nat) (h : p < l.length) : it (lift lt y sp l p).1 (lift lt y sp l p).2 = y := by
  fun_induction lift lt y sp l p with
  | case1 l p h1 ih => exact ih (by rw [List.length_set]; omega)
  | case2 => exact it_set_eq h

theorem lt_le (o : LO lt) {a b c : α} (h1 : lt a b = true) (h2 : lt c b = false) : lt a c = true := by
  cases h : lt a c with
  | true => rfl
  | false => have := o.tr _ _ _ h2 h; rw [h1] at this; cases this
theorem Desc.trans {a b c : Nat} (h1 : Desc a b) (h2 : Desc b c) : Desc a c := by
  induction h2 with
  | self => exact h1
  | kid h0 _ ih => exact .kid h0 ih
theorem Desc.of_kid {p k : Nat} (lt : α → α → Bool) (l : List α) (h : Desc (Mine.kid lt l p) k) : Desc p k :=
  Desc.trans (.kid (by have := (kid_parent lt l p).2; omega) (by rw [(kid_parent lt l p).1]; exact .self)) h

/-- edges strictly below p -/
def EB (lt : α → α → Bool) (l : List α) (p : Nat) : Prop := ∀ k, k < l.length → Desc p k → k ≠ p → (k - 1) / 2 ≠ p → Edge lt l k
theorem EB.down {l : List α} {p : Nat} {v : α} (h : EB lt l p) : EB lt (l.set p v) (kid lt l p) := by
  intro k hk hd h1 h2
  have hkp := (kid_parent lt l p).2
  have hle := hd.le
  have hq : kid lt l p < (k - 1) / 2 := by
    have hu := hd.up (by omega)
    have := hu.le
    omega
  unfold Edge
  rw [it_set_ne (show p ≠ k by omega), it_set_ne (show p ≠ (k - 1) / 2 by omega)]
  rw [List.length_set] at hk
  exact h k hk (Desc.of_kid lt l hd) (by omega) (by omega)
/-- down one step and up again -/
theorem back_step {l : List α} {p c : Nat} {x : α} {sp : Nat} (hc : (c - 1) / 2 = p) (hpc : p < c) (hcl : c < l.length) (hsp : sp ≤ p) (hx : lt x (it l c) = true) :
    sdLoop lt x sp (l.set p (it l c)) c = sdLoop lt x sp l p := by
  rw [sdLoop.eq_def, dif_pos (by omega), hc]
  have e : (l.set p (it l c)).getD p default = it l c := it_set_eq (by omega)
  rw [e, if_pos hx, List.set_comm _ _ (by omega : p ≠ c), set_own hcl, sdLoop_hole]

theorem climb (o : LO lt) {y : α} {sp : Nat} (l : List α) (p : Nat) (hp : p < l.length) (hsp : sp ≤ p) (hE : EB lt l p) (hy : 2 * p + 1 < l.length → lt y (it l (kid lt l p)) = true) :
    sdLoop lt y sp (suLoop lt l p).1 (suLoop lt l p).2 = sdLoop lt y sp l p := by
  fun_induction suLoop lt l p with
  | case2 l p h => rfl
  | case1 l p h ih =>
    obtain ⟨hk1, hk2⟩ := kid_parent lt l p
    have hkl := kid_lt (lt := lt) h
    rw [ih (by rw [List.length_set]; exact hkl) (by omega) hE.down ?_]
    · exact back_step hk1 hk2 hkl hsp (hy h)
    · intro h2
      rw [List.length_set] at h2
      rw [kid_set (by omega)]
      obtain ⟨g1, g2⟩ := kid_parent lt l (kid lt l p)
      have gl := kid_lt (lt := lt) h2
      have e := hE (kid lt l (kid lt l p)) gl (.kid (by omega) (by rw [g1]; exact .kid (by omega) (by rw [hk1]; exact .self))) (by omega) (by omega)
      unfold Edge at e
      rw [g1] at e
      show lt y (it _ _) = true
      rw [it_set_ne (show p ≠ kid lt l (kid lt l p) by omega)]
      exact lt_le o (hy h) e

theorem su_is_sink' (o : LO lt) {y : α} {sp : Nat} (l : List α) (p : Nat) (hp : p < l.length) (hsp : sp ≤ p) (hE : EB lt l p) (hD : ∀ k, k < l.length → Desc p k → k ≠ p → lt y (it l k) = true ∨ lt (it l k) y = true)
    (hpar : p = sp ∨ lt y (it l ((p - 1) / 2)) = false) : sdLoop lt y sp (suLoop lt l p).1 (suLoop lt l p).2 = (sink lt y l p).1 := by
  fun_induction sink lt y l p with
  | case1 l p h ih =>
    obtain ⟨hk1, hk2⟩ := kid_parent lt l p
    have hkl := kid_lt (lt := lt) h.1
    rw [suLoop.eq_def, dif_pos h.1]
    refine ih (by rw [List.length_set]; exact hkl) (by omega) hE.down ?_ (.inr ?_)
    · intro k hk hd hne
      rw [List.length_set] at hk
      have := hd.le
      rw [it_set_ne (show p ≠ k by omega)]
      exact hD k hk (Desc.of_kid lt l hd) (by omega)
    · rw [hk1, it_set_eq hp]
      exact o.asym _ _ h.2
  | case2 l p h =>
    rw [climb o l p hp hsp hE ?_]
    · rw [sdLoop.eq_def]
      by_cases hs : sp < p
      · rw [dif_pos hs]
        rcases hpar with h | h
        · omega
        · have h' : ¬ lt y (l.getD ((p - 1) / 2) default) = true := by show ¬ lt y (it l _) = true; rw [h]; decide
          rw [if_neg h']
      · rw [dif_neg hs]
    · intro h2
      obtain ⟨hk1, hk2⟩ := kid_parent lt l p
      rcases hD _ (kid_lt (lt := lt) h2) (.kid (by omega) (by rw [hk1]; exact .self)) (by omega) with g | g
      · exact g
      · exact absurd ⟨h2, g⟩ h

theorem su_is_sink (o : LO lt) {y : α} {l : List α} {p : Nat} (hp : p < l.length) (hE : EB lt l p) (hD : ∀ k, k < l.length → Desc p k → k ≠ p → lt y (it l k) = true ∨ lt (it l k) y = true) : su lt (l.set p y) p = (sink lt y l p).1 := by
  have hE' : EB lt (l.set p y) p := by
    intro k hk hd h1 h2
    rw [List.length_set] at hk
    unfold Edge
    rw [it_set_ne (Ne.symm h1), it_set_ne (Ne.symm h2)]
    exact hE k hk hd h1 h2
  have R := su_is_sink' o (y := y) (sp := p) (l.set p y) p (by rw [List.length_set]; exact hp) (Nat.le_refl _) hE' (fun k hk hd hne => by
    rw [List.length_set] at hk
    rw [it_set_ne (Ne.symm hne)]
    exact hD k hk hd hne) (.inl rfl)
  rw [sink_hole] at R
  rw [← R]
  have hq := suLoop_lt lt (l.set p y) p (by rw [List.length_set]; exact hp)
  have hl := suLoop_length lt (l.set p y) p
  unfold su sd
  dsimp only
  have e : (l.set p y).getD p default = y := it_set_eq hp
  have e2 : (((suLoop lt (l.set p y) p).1.set (suLoop lt (l.set p y) p).2 y)).getD (suLoop lt (l.set p y) p).2 default = y := it_set_eq (by omega)
  rw [e, e2, sdLoop_hole]

/-- up what went down -/
theorem lift_of_sink {x y : α} {sp : Nat} (l : List α) (p : Nat) (hp : p < l.length) (hsp : sp ≤ p) (hx : ∀ k, k < l.length → Desc p k → k ≠ p → lt x (it l k) = true) :
    sdLoop lt x sp (sink lt y l p).1 (sink lt y l p).2 = sdLoop lt x sp l p := by
  fun_induction sink lt y l p with
  | case1 l p h ih =>
    obtain ⟨hk1, hk2⟩ := kid_parent lt l p
    have hkl := kid_lt (lt := lt) h.1
    rw [ih (by rw [List.length_set]; exact hkl) (by omega) ?_]
    · exact back_step hk1 hk2 hkl hsp (hx _ hkl (.kid (by omega) (by rw [hk1]; exact .self)) (by omega))
    · intro k hk hd hne
      rw [List.length_set] at hk
      have := hd.le
      rw [it_set_ne (show p ≠ k by omega)]
      exact hx k hk (Desc.of_kid lt l hd) (by omega)
  | case2 l p h => exact sdLoop_hole

/-- down what went up -/
theorem sink_of_lift {x y : α} {sp : Nat} (l : List α) (p : Nat) (hp : p < l.length)
    (h1 : ∀ b, b < p → lt (it l b) x = true ∨ ¬ Desc b p) (h2 : ∀ q, Desc q p → 0 < q → ∀ k, k < l.length → (k - 1) / 2 = (q - 1) / 2 → 0 < k → k ≠ q → lt (it l ((q - 1) / 2)) (it l k) = true)
    (o : LO lt) : sink lt x (lift lt y sp l p).1 (lift lt y sp l p).2 = sink lt x l p := by
  fun_induction lift lt y sp l p with
  | case2 l p h => exact sink_hole
  | case1 l p h ih =>
    have ha : (p - 1) / 2 < p := by omega
    have hdp : Desc ((p - 1) / 2) p := .kid (by omega) .self
    rw [ih (by rw [List.length_set]; omega) ?_ ?_]
    · -- one step down again
      have hpl : p < (l.set p (it l ((p - 1) / 2))).length := by rw [List.length_set]; exact hp
      have hkid : kid lt (l.set p (it l ((p - 1) / 2))) ((p - 1) / 2) = p := by
        have hs := h2 p .self (by omega)
        rcases (show p = 2 * ((p - 1) / 2) + 1 ∨ p = 2 * ((p - 1) / 2) + 2 by omega) with e | e
        · -- the left one
          unfold kid
          rw [if_neg, ← e]
          rintro ⟨g1, g2⟩
          rw [List.length_set] at g1
          have gs := hs (2 * ((p - 1) / 2) + 2) g1 (by omega) (by omega) (by omega)
          have e1 : (l.set p (it l ((p - 1) / 2))).getD (2 * ((p - 1) / 2) + 1) default = it l ((p - 1) / 2) := by
            rw [← e]; exact it_set_eq hp
          have e2 : (l.set p (it l ((p - 1) / 2))).getD (2 * ((p - 1) / 2) + 2) default = it l (2 * ((p - 1) / 2) + 2) := it_set_ne (by omega)
          rw [e1, e2, gs] at g2
          cases g2
        · unfold kid
          rw [if_pos, ← e]
          refine ⟨by rw [← e]; exact hpl, ?_⟩
          have gs := hs (2 * ((p - 1) / 2) + 1) (by omega) (by omega) (by omega) (by omega)
          have e1 : (l.set p (it l ((p - 1) / 2))).getD (2 * ((p - 1) / 2) + 2) default = it l ((p - 1) / 2) := by
            rw [← e]; exact it_set_eq hp
          have e2 : (l.set p (it l ((p - 1) / 2))).getD (2 * ((p - 1) / 2) + 1) default = it l (2 * ((p - 1) / 2) + 1) := it_set_ne (by omega)
          rw [e1, e2]
          exact o.asym _ _ gs
      have hv : it (l.set p (it l ((p - 1) / 2))) p = it l ((p - 1) / 2) := it_set_eq hp
      have hlt : lt (it l ((p - 1) / 2)) x = true := by
        rcases h1 _ ha with g | g
        · exact g
        · exact absurd hdp g
      rw [sink.eq_def, hkid, hv, dif_pos ⟨by omega, hlt⟩]
      have e : (l.set p (it l ((p - 1) / 2))).set ((p - 1) / 2) (it l ((p - 1) / 2)) = l.set p (it l ((p - 1) / 2)) := by
        have e' : it l ((p - 1) / 2) = it (l.set p (it l ((p - 1) / 2))) ((p - 1) / 2) := (it_set_ne (by omega)).symm
        have := set_own (l := l.set p (it l ((p - 1) / 2))) (c := (p - 1) / 2) (by rw [List.length_set]; omega)
        rw [← e'] at this
        exact this
      rw [e, sink_hole]
    · intro b hb
      rw [it_set_ne (show p ≠ b by omega)]
      rcases h1 b (by omega) with g | g
      · exact .inl g
      · exact .inr fun hd => g (hd.trans hdp)
    · intro q hq h0 k hk hpar hk0 hne
      rw [List.length_set] at hk
      have hle := hq.le
      have hkp : k ≠ p := by
        intro e
        rw [e] at hpar
        omega
      rw [it_set_ne (show p ≠ (q - 1) / 2 by omega), it_set_ne (Ne.symm hkp)]
      exact h2 q (hq.trans hdp) h0 k hk hpar hk0 hne

theorem lift_append {y z : α} {sp : Nat} (l : List α) (p : Nat) (hp : p < l.length) : lift lt y sp (l ++ [z]) p = ((lift lt y sp l p).1 ++ [z], (lift lt y sp l p).2) := by
  fun_induction lift lt y sp l p with
  | case2 l p h =>
    have e : it (l ++ [z]) ((p - 1) / 2) = it l ((p - 1) / 2) := by
      unfold it
      rw [List.getD_eq_getElem?_getD, List.getD_eq_getElem?_getD, List.getElem?_append_left (by omega)]
    rw [lift.eq_def, dif_neg (by rw [e]; exact h), List.set_append_left _ _ hp]
  | case1 l p h ih =>
    have e : it (l ++ [z]) ((p - 1) / 2) = it l ((p - 1) / 2) := by
      unfold it
      rw [List.getD_eq_getElem?_getD, List.getD_eq_getElem?_getD, List.getElem?_append_left (by omega)]
    rw [lift.eq_def, dif_pos (by rw [e]; exact h), e, List.set_append_left _ _ hp]
    exact ih (by rw [List.length_set]; omega)
end
end Mine
set_option linter.unusedSectionVars false
namespace Mine
/-- what _law_lay makes of the list -/
def lay {α : Type} [Inhabited α] (lt : α → α → Bool) (l : List α) (p : Nat) (x : α) : List α := sd lt (su lt (l.set p x) p) 0 p
theorem lay_length {α : Type} [Inhabited α] (lt : α → α → Bool) (l : List α) (p : Nat) (x : α) : (lay lt l p x).length = l.length := by
  unfold lay; rw [sd_length, su_length, List.length_set]
section
variable {α : Type} [Inhabited α] {lt : α → α → Bool}
theorem lay_perm {l : List α} {p : Nat} {x : α} (hp : p < l.length) : (lay lt l p x).Perm (l.set p x) := by
  classical
  unfold lay
  exact (List.perm_iff_count.mpr (sd_count (by rw [su_length, List.length_set]; exact hp))).trans (su_perm (by rw [List.length_set]; exact hp))
theorem lay_heap (o : LO lt) {l : List α} {p : Nat} {x : α} (hp : p < l.length) (h : Heap' lt l) : Heap' lt (lay lt l p x) := by
  obtain ⟨r1, r2, _⟩ := su_ok o (l := l.set p x) (pos := p) (by rw [List.length_set]; exact hp) (fun k h0 hk h1 h2 => by
    rw [List.length_set] at hk
    unfold Edge
    rw [it_set_ne (Ne.symm h1), it_set_ne (Ne.symm h2)]
    exact h k h0 hk) (fun h0 k hk0 hk h1 => by
    rw [List.length_set] at hk
    rw [it_set_ne (show p ≠ k by omega), it_set_ne (show p ≠ (p - 1) / 2 by omega)]
    have e1 := h k hk0 hk
    unfold Edge at e1
    rw [h1] at e1
    exact o.tr _ _ _ (h p h0 hp) e1)
  unfold lay
  refine sd0_ok o (by rw [su_length, List.length_set]; exact hp) ?_ r2
  intro k h0 hk hne
  rw [su_length] at hk
  exact r1 k h0 hk hne

/-- a heap of unlike items -/
def SH (lt : α → α → Bool) (l : List α) : Prop := ∀ k, 0 < k → k < l.length → lt (it l ((k - 1) / 2)) (it l k) = true
theorem lt_tr (o : LO lt) {a b c : α} (h1 : lt a b = true) (h2 : lt b c = true) : lt a c = true := lt_le o h1 (o.asym _ _ h2)
theorem SH.heap (o : LO lt) {l : List α} (h : SH lt l) : Heap' lt l := fun k h0 hk => o.asym _ _ (h k h0 hk)
theorem SH.desc (o : LO lt) {l : List α} (h : SH lt l) {p k : Nat} (hd : Desc p k) (hk : k < l.length) (hne : k ≠ p) : lt (it l p) (it l k) = true := by
  induction hd with
  | self => exact absurd rfl hne
  | @kid q h0 hd ih =>
    by_cases e : (q - 1) / 2 = p
    · rw [← e]; exact h q h0 hk
    · exact lt_tr o (ih (by omega) e) (h q h0 hk)
theorem EB.of {l : List α} (h : Heap' lt l) (p : Nat) : EB lt l p := by
  intro k hk hd h1 _
  have := hd.le
  exact h k (by omega) hk
theorem sd_still {l : List α} {p : Nat} (hp : p < l.length) (h : 0 < p → lt (it l p) (it l ((p - 1) / 2)) = false) : sd lt l 0 p = l := by
  unfold sd
  rw [sdLoop.eq_def]
  by_cases h0 : 0 < p
  · have h' : ¬ lt (l.getD p default) (l.getD ((p - 1) / 2) default) = true := by
      show ¬ lt (it l p) (it l ((p - 1) / 2)) = true
      rw [h h0]; decide
    rw [dif_pos h0, if_neg h']
    exact set_own hp
  · rw [dif_neg h0]
    exact set_own hp
theorem sink_frame (y : α) (l : List α) (p : Nat) (hp : p < l.length) : Desc p (sink lt y l p).2 ∧ (∀ j, ¬ Desc p j → it (sink lt y l p).1 j = it l j) ∧ ∀ k, Desc (sink lt y l p).2 k → k ≠ (sink lt y l p).2 → it (sink lt y l p).1 k = it l k := by
  fun_induction sink lt y l p with
  | case1 l p h ih =>
    obtain ⟨hk1, hk2⟩ := kid_parent lt l p
    obtain ⟨i1, i2, i3⟩ := ih (by rw [List.length_set]; exact kid_lt h.1)
    have d1 := Desc.of_kid lt l i1
    refine ⟨d1, ?_, ?_⟩
    · intro j hj
      rw [i2 j fun hd => hj (Desc.of_kid lt l hd), it_set_ne fun e : p = j => hj (e ▸ .self)]
    · intro k hd hne
      rw [i3 k hd hne]
      have h1 := i1.le
      have h2 := hd.le
      exact it_set_ne (show p ≠ k by omega)
  | case2 l p h =>
    refine ⟨.self, ?_, ?_⟩
    · intro j hj
      exact it_set_ne fun e : p = j => hj (e ▸ .self)
    · intro k hd hne
      exact it_set_ne (Ne.symm hne)

/-- unlike items: y and those of l -/
structure Unlike (lt : α → α → Bool) (y : α) (l : List α) : Prop where
  nd : l.Nodup
  ny : y ∉ l
  tri : ∀ a ∈ y :: l, ∀ b ∈ y :: l, a ≠ b → lt a b = true ∨ lt b a = true
theorem it_mem {l : List α} {i : Nat} (h : i < l.length) : it l i ∈ l := by
  unfold it
  rw [List.getD_eq_getElem?_getD, List.getElem?_eq_getElem h]
  exact List.getElem_mem h
theorem nd_inj {l : List α} (nd : l.Nodup) {i j : Nat} (hi : i < l.length) (hj : j < l.length) (e : l[i] = l[j]) : i = j := by
  rw [List.nodup_iff_pairwise_ne, List.pairwise_iff_getElem] at nd
  rcases Nat.lt_trichotomy i j with h | h | h
  · exact absurd e (nd i j hi hj h)
  · exact h
  · exact absurd e.symm (nd j i hj hi h)
theorem it_inj {l : List α} (nd : l.Nodup) {i j : Nat} (hi : i < l.length) (hj : j < l.length) (e : it l i = it l j) : i = j := by
  unfold it at e
  rw [List.getD_eq_getElem?_getD, List.getElem?_eq_getElem hi, List.getD_eq_getElem?_getD, List.getElem?_eq_getElem hj] at e
  exact nd_inj nd hi hj e
theorem mem_it {l : List α} {v : α} (h : v ∈ l) : ∃ i, i < l.length ∧ it l i = v := by
  obtain ⟨i, hi, e⟩ := List.getElem_of_mem h
  refine ⟨i, hi, ?_⟩
  unfold it
  rw [List.getD_eq_getElem?_getD, List.getElem?_eq_getElem hi]
  exact e
theorem set_mem {l : List α} {p : Nat} {y v : α} (hp : p < l.length) (h : v ∈ l.set p y) : v = y ∨ ∃ j, j < l.length ∧ j ≠ p ∧ v = it l j := by
  obtain ⟨i, hi, e⟩ := mem_it h
  rw [List.length_set] at hi
  by_cases q : p = i
  · subst q; rw [it_set_eq hi] at e; exact .inl e.symm
  · rw [it_set_ne q] at e; exact .inr ⟨i, hi, Ne.symm q, e.symm⟩
theorem SH.of (o : LO lt) {y : α} {l : List α} (u : Unlike lt y l) (h : Heap' lt l) : SH lt l := by
  intro k h0 hk
  have hne : it l ((k - 1) / 2) ≠ it l k := fun e => by have := it_inj u.nd (by omega) hk e; omega
  rcases u.tri _ (.tail _ (it_mem (show (k - 1) / 2 < l.length by omega))) _ (.tail _ (it_mem hk)) hne with g | g
  · exact g
  · have := h k h0 hk
    unfold Edge at this
    rw [g] at this
    cases this
theorem Unlike.set {y : α} {l : List α} (u : Unlike lt y l) {p : Nat} (hp : p < l.length) : (l.set p y).Nodup ∧ (∀ v ∈ l.set p y, v ∈ y :: l) ∧ it l p ∉ l.set p y := by
  refine ⟨?_, ?_, ?_⟩
  · rw [List.nodup_iff_pairwise_ne, List.pairwise_iff_getElem]
    intro i j hi hj hij e
    rw [List.length_set] at hi hj
    rw [List.getElem_set, List.getElem_set] at e
    split at e
    · split at e
      · omega
      · exact u.ny (e ▸ List.getElem_mem hj)
    · split at e
      · exact u.ny (e ▸ List.getElem_mem hi)
      · have := nd_inj u.nd hi hj e
        omega
  · intro v hv
    rcases set_mem hp hv with h | ⟨j, hj, _, h⟩
    · rw [h]; exact .head _
    · rw [h]; exact .tail _ (it_mem hj)
  · intro hv
    rcases set_mem hp hv with h | ⟨j, hj, hne, h⟩
    · exact u.ny (h ▸ it_mem hp)
    · exact hne (it_inj u.nd hj hp h.symm)

/-- what went up goes down again -/
theorem back_up (o : LO lt) {y : α} {l : List α} {p : Nat} (u : Unlike lt y l) (h : Heap' lt l) (hp : p < l.length) (hr : Heap' lt (lift lt y 0 l p).1) (hm : ∀ v ∈ (lift lt y 0 l p).1, v ∈ l.set p y) :
    lay lt (lift lt y 0 l p).1 (lift lt y 0 l p).2 (it l p) = l := by
  have hsh := SH.of o u h
  have hq : (lift lt y 0 l p).2 < (lift lt y 0 l p).1.length := by
    rw [lift_length]
    have := lift_le (lt := lt) y 0 l p
    omega
  obtain ⟨u1, u2, u3⟩ := u.set hp
  unfold lay
  rw [su_is_sink o hq (EB.of hr _) ?_]
  · rw [sink_of_lift l p hp ?_ ?_ o]
    · have e : (sink lt (it l p) l p).1 = l := by
        rw [sink.eq_def, dif_neg, set_own hp]
        rintro ⟨g1, g2⟩
        obtain ⟨hk1, hk2⟩ := kid_parent lt l p
        have := hsh (kid lt l p) (by omega) (kid_lt g1)
        rw [hk1] at this
        rw [o.asym _ _ this] at g2
        cases g2
      rw [e]
      have hq' := hq
      rw [lift_length] at hq'
      exact sd_still hq' fun h0 => h _ h0 hq'
    · intro b hb
      by_cases hd : Desc b p
      · exact .inl (hsh.desc o hd hp (by omega))
      · exact .inr hd
    · intro q _ h0 k hk hpar hk0 _
      rw [← hpar]
      exact hsh k hk0 hk
  · intro k hk _ _
    have hv := hm _ (it_mem hk)
    refine u.tri _ (.tail _ (it_mem hp)) _ (u2 _ hv) fun e => u3 (e ▸ hv)

theorem lay_back (o : LO lt) {y : α} {l : List α} {p : Nat} (u : Unlike lt y l) (h : Heap' lt l) (hp : p < l.length) :
    ∃ q, q < l.length ∧ it (lay lt l p y) q = y ∧ lay lt (lay lt l p y) q (it l p) = l := by
  have hsh := SH.of o u h
  obtain ⟨u1, u2, u3⟩ := u.set hp
  have hH := lay_heap o (x := y) hp h
  have hPm := lay_perm (lt := lt) (x := y) hp
  have hsu : su lt (l.set p y) p = (sink lt y l p).1 := su_is_sink o hp (EB.of h p) fun k hk hd hne => u.tri _ (.head _) _ (.tail _ (it_mem hk)) fun e => u.ny (e ▸ it_mem hk)
  obtain ⟨f1, f2, f3⟩ := sink_frame (lt := lt) y l p hp
  have hq1 := sink_lt (lt := lt) y l p hp
  have ha1 := sink_at (lt := lt) y l p hp
  have hl1 := sink_length (lt := lt) y l p
  by_cases hc : 2 * p + 1 < l.length ∧ lt (it l (kid lt l p)) y = true
  · -- down
    obtain ⟨hk1, hk2⟩ := kid_parent lt l p
    have hkl := kid_lt (lt := lt) hc.1
    have ep : it (sink lt y l p).1 p = it l (kid lt l p) := by
      rw [sink.eq_def, dif_pos hc]
      rw [(sink_frame (lt := lt) y (l.set p (it l (kid lt l p))) (kid lt l p) (by rw [List.length_set]; exact hkl)).2.1 p fun hd => by have := hd.le; omega]
      exact it_set_eq hp
    have er : lay lt l p y = (sink lt y l p).1 := by
      unfold lay
      rw [hsu]
      refine sd_still (by omega) fun h0 => ?_
      rw [ep, f2 ((p - 1) / 2) fun hd => by have := hd.le; omega]
      have e1 := hsh (kid lt l p) (by omega) hkl
      rw [hk1] at e1
      exact o.asym _ _ (lt_tr o (hsh p h0 hp) e1)
    rw [er] at hH ⊢
    refine ⟨(sink lt y l p).2, hq1, ha1, ?_⟩
    have hx : ∀ k, k < l.length → Desc p k → k ≠ p → lt (it l p) (it l k) = true := fun k hk hd hne => hsh.desc o hd hk hne
    have hx2 : ∀ k, k < (sink lt y l p).1.length → Desc (sink lt y l p).2 k → k ≠ (sink lt y l p).2 → lt (it l p) (it (sink lt y l p).1 k) = true := by
      intro k hk hd hne
      rw [f3 k hd hne]
      have h1 := f1.le
      have h2 := hd.le
      exact hx k (by omega) (f1.trans hd) (by omega)
    unfold lay
    rw [su_is_sink o (by omega) (EB.of hH _) fun k hk hd hne => .inl (hx2 k hk hd hne)]
    have e2 : (sink lt (it l p) (sink lt y l p).1 (sink lt y l p).2).1 = (sink lt y l p).1.set (sink lt y l p).2 (it l p) := by
      rw [sink.eq_def, dif_neg]
      rintro ⟨g1, g2⟩
      obtain ⟨gk1, gk2⟩ := kid_parent lt (sink lt y l p).1 (sink lt y l p).2
      have := hx2 _ (kid_lt (lt := lt) g1) (.kid (by omega) (by rw [gk1]; exact .self)) (by omega)
      rw [o.asym _ _ this] at g2
      cases g2
    rw [e2]
    unfold sd
    have e3 : ((sink lt y l p).1.set (sink lt y l p).2 (it l p)).getD (sink lt y l p).2 default = it l p := it_set_eq (by omega)
    rw [e3, sdLoop_hole, lift_of_sink l p hp (Nat.zero_le _) hx]
    exact sd_still hp fun h0 => h p h0 hp
  · -- up
    have er : lay lt l p y = (lift lt y 0 l p).1 := by
      unfold lay
      rw [hsu, sink.eq_def, dif_neg hc]
      unfold sd
      have e3 : (l.set p y).getD p default = y := it_set_eq hp
      rw [e3, sdLoop_hole, sdLoop_lift]
    rw [er] at hH hPm ⊢
    have hle := lift_le (lt := lt) y 0 l p
    refine ⟨(lift lt y 0 l p).2, by omega, lift_at y 0 l p hp, ?_⟩
    exact back_up o u h hp hH fun v hv => hPm.mem_iff.mp hv

/-- the push taken back -/
theorem push_back (o : LO lt) {y : α} {l : List α} (u : Unlike lt y l) (h : Heap' lt l) :
    hpush lt l y = l ++ [y] ∨ ∃ r last q, hpush lt l y = r ++ [last] ∧ r.length = l.length ∧ q < r.length ∧ it r q = y ∧ last ∈ l ∧ lay lt r q last = l := by
  have hH := hpush_ok o h y
  have hPm : (hpush lt l y).Perm (y :: l) := by classical exact hpush_perm
  have e0 : hpush lt l y = (lift lt y 0 (l ++ [y]) l.length).1 := by
    unfold hpush sd
    have e : (l ++ [y]).getD l.length default = y := by
      rw [List.getD_eq_getElem?_getD]; simp
    rw [e, sdLoop_lift]
  have ea : ∀ z : α, ∀ i, i < l.length → it (l ++ [z]) i = it l i := by
    intro z i hi
    unfold it
    rw [List.getD_eq_getElem?_getD, List.getD_eq_getElem?_getD, List.getElem?_append_left hi]
  have es : ∀ z w : α, (l ++ [z]).set l.length w = l ++ [w] := by
    intro z w
    rw [List.set_append_right _ _ (Nat.le_refl _)]
    simp
  rw [lift.eq_def] at e0
  by_cases hc : 0 < l.length ∧ lt y (it (l ++ [y]) ((l.length - 1) / 2)) = true
  · rw [dif_pos hc, ea y _ (by omega), es] at e0
    have ha : (l.length - 1) / 2 < l.length := by omega
    rw [lift_append l _ ha] at e0
    dsimp only at e0
    have hle := lift_le (lt := lt) y 0 l ((l.length - 1) / 2)
    have hll := lift_length (lt := lt) y 0 l ((l.length - 1) / 2)
    have hR : Heap' lt (lift lt y 0 l ((l.length - 1) / 2)).1 := by
      intro k h0 hk
      have := hH k h0 (by rw [hpush_length]; omega)
      rw [e0] at this
      unfold Edge at this ⊢
      have eb : ∀ r : List α, ∀ z : α, ∀ i, i < r.length → it (r ++ [z]) i = it r i := by
        intro r z i hi
        unfold it
        rw [List.getD_eq_getElem?_getD, List.getD_eq_getElem?_getD, List.getElem?_append_left hi]
      rw [eb _ _ _ hk, eb _ _ _ (by omega)] at this
      exact this
    have hP2 : (lift lt y 0 l ((l.length - 1) / 2)).1.Perm (l.set ((l.length - 1) / 2) y) := by
      classical
      rw [← sdLoop_lift]
      exact List.perm_iff_count.mpr (sdLoop_count ha)
    refine .inr ⟨_, _, _, e0, hll, by omega, lift_at y 0 l _ ha, it_mem ha, ?_⟩
    exact back_up o u h ha hR fun v hv => hP2.mem_iff.mp hv
  · rw [dif_neg hc, es] at e0
    exact .inl e0
end
end Mine
namespace Mine
local macro_rules | `(tactic| walk_at "call ref") => `(tactic| refine Stop.out ?_)

theorem lay_call (w : World) (mean : ExcName → Option Value) (mg mb : Str → Option Value)
    (dp un : Nat) (gd : Option (List Code)) (cn : Str) (cs : Scope) (a : Addr) (ccd : Value) (cl : List (Str × Addr)) (outer : List Env) (A₀ : Around) (base h₀ : Heap) (L : Addr) (m : Str → Option Value) (rest : List (Addr × Obj)) (s : Shared)
    (lt : Value → Value → Bool) (la : Addr) (vs : List Value) (n : Nat) (p : Nat) (tp : Tok) (x : Value)
    (Q E : Value → Shared → Prop) (B : Below A₀ base outer h₀) (F : Fr h₀ L s.heap m) (X : (Mine.hd01.heap_39 w.params).In h₀) (N : News h₀ L s.heap ((la, listOf vs.toArray n) :: rest))
    (T : Top Mine.hd01.view_39 (looseW Mine.hd01.view_39 []) mean mg mb h₀) (hk : cs.kind = .function) (hd : dp + 20 < recursionLimit) (hu : un + 120 < cLine)
    (hne : ∀ p ∈ rest, p.1 ≠ la) (hp1 : p < vs.length) (hlen : vs.length < 200) (hlt : LtOk PySem.Challenge.rw_dp0035_01.row.prog w rest lt (x :: vs))
    (hsu : ∀ y ∈ su lt (vs.set p x) p, y ∈ x :: vs)
    (hret : ∀ h' tk', Fr h₀ L h' m → News h₀ L h' ((la, listOf (lay lt vs p x).toArray n) :: rest) → Q .none { s with heap := h', toks := tk' }) :
    wpAny (model PySem.Challenge.rw_dp0035_01.row.prog w) (ktrTop dp un gd cn cs L a ccd cl outer) (call (.ref 47) [.ref la, .int (p : Int) tp, x]) Q E s := by
  have hfill : PySem.Challenge.rw_dp0035_01 = PySem.Challenge.rw_dp0035_01 ∧ Mine.hd01.heap_39 = Mine.hd01.heap_39 := by
    k_fill
    exact ⟨rfl, rfl⟩
  clear hfill
  w_top off
  k_with_none
  refine wpAny_call ?_
  k_dflt ktr_enter
  k_steps
  rename Fr _ _ _ _ => F1
  rename News _ _ _ _ => N1
  refine set_at F1 N1 hne p rfl hp1 (by omega) ?_
  intro h2 F2 N2
  k_steps
  refine Stop.go ?_
  have hset : ∀ y ∈ vs.set p x, y ∈ x :: vs := by
    intro y hy
    rcases List.mem_or_eq_of_mem_set hy with h | h
    · exact .tail _ h
    · rw [h]; exact .head _
  refine su_call w mean mg mb (dp + 1) (un + 3) gd _ _ _ _ [] _ _ _ _ _ _ rest _ lt la (vs.set p x) n p _ _ _ (by k_asm) F2 (by k_asm) N2 (by k_asm) rfl (by omega) (by omega) hne (by rw [List.length_set]; exact hp1) (by rw [List.length_set]; omega) (fun y hy z hz => hlt y (hset y hy) z (hset z hz)) ?_
  intro h3 tk3 F3 N3
  k_steps
  refine Stop.go ?_
  refine sd_call w mean mg mb (dp + 1) (un + 3) gd _ _ _ _ [] _ _ _ _ _ _ rest _ lt la (su lt (vs.set p x) p) n 0 p _ _ _ _ (by k_asm) F3 (by k_asm) N3 (by k_asm) rfl (by omega) (by omega) hne (by rw [su_length, List.length_set]; exact hp1) (by rw [su_length, List.length_set]; omega) (fun y hy z hz => hlt y (hsu y hy) z (hsu z hz)) ?_
  intro h6 tk6 F6 N6
  k_steps
  rename Fr h₀ _ _ _ => F7
  rename News h₀ _ _ _ => N7
  exact hret _ _ F7 N7
end Mine
namespace Mine
section
variable {prog : Program} {w : World} {A : Around} {h₀ : Heap} {L : Addr} {m : Str → Option Value} {env : Env} {ct elt : Expr} {x : Str} {scope : Scope} {cl : List (Str × Addr)} {s : Shared} {S : List (Addr × Obj) → Prop} {P : Nat → Value → Prop} {Fin : List Value → List (Addr × Obj) → Prop} {news : List (Addr × Obj)}

/-- a comprehension with a test, by a word over its turns; what it finds stands as it stood -/
theorem compT_inv {n : Nat} (J : Nat → List Value → Prop) (h0 : J 0 [])
    (turn : ∀ i v I oI C oC D m₂ ys h tk (E' : Value → Shared → Prop), i < n → P i v → J i ys → LCg.NsObj oC m₂ → m₂ x = some v → Fr h₀ L h m → News h₀ L h ((I, oI) :: (C, oC) :: (D, LCg.lst ys) :: news) → LCg.Off3 I C D news → ((@Ne Nat I C) ∧ (@Ne Nat I D) ∧ (@Ne Nat C D)) →
      wpAny (model prog w) A (isTrue ct (compEnvC scope cl C env) (eval ct (compEnvC scope cl C env))) (fun ok s' => if ok = true then
        wpAny (model prog w) A (eval elt (compEnvC scope cl C env)) (LCg.CompEnd h₀ L m { s with heap := h, toks := tk } I oI C oC D (LCg.lst ys) S (fun y news' => news' = news ∧ J (i + 1) (ys ++ [y]))) E' s'
        else LCg.CompEnd h₀ L m { s with heap := h, toks := tk } I oI C oC D (LCg.lst ys) S (fun _ news' => news' = news ∧ J (i + 1) ys) Value.none s') E' { s with heap := h, toks := tk })
    (fin : ∀ ys, J n ys → Fin ys news) : LCt.CompRestT prog w A h₀ L m env ct elt x scope cl s S P Fin n 0 [] news := by
  have key : ∀ (j i : Nat) (ys : List Value), i + j = n → J i ys → LCt.CompRestT prog w A h₀ L m env ct elt x scope cl s S P Fin j i ys news := by
    intro j
    induction j with
    | zero =>
      intro i ys hi hy
      have e : i = n := by omega
      subst e
      exact LCt.CompRestT.zero (fin ys hy)
    | succ j ih =>
      intro i ys hi hy
      refine LCt.CompRestT.succ ?_
      intro v I oI C oC D m₂ h tk E' hv hC hx F N off ne
      refine wpAny_mono (turn i v I oI C oC D m₂ ys h tk E' (by omega) hv hy hC hx F N off ne) (fun ok s₂ hq => ?_) fun _ _ e => e
      cases ok with
      | true =>
        simp only [if_true] at hq ⊢
        refine wpAny_mono hq (fun y s₃ hq => ?_) fun _ _ e => e
        obtain ⟨h', tk', nw, e, F', N', off', hS, hn, hJ⟩ := hq
        refine ⟨h', tk', nw, e, F', N', off', hS, ?_⟩
        rw [hn]
        exact ih (i + 1) _ (by omega) hJ
      | false =>
        simp only [Bool.false_eq_true, if_false] at hq ⊢
        obtain ⟨h', tk', nw, e, F', N', off', hS, hn, hJ⟩ := hq
        refine ⟨h', tk', nw, e, F', N', off', hS, ?_⟩
        rw [hn]
        exact ih (i + 1) _ (by omega) hJ
  exact key n 0 [] (by omega) h0

/-- a comprehension without a test, by a word over its turns and over what it makes -/
theorem comp_inv {n : Nat} (J : Nat → List Value → List (Addr × Obj) → Prop) (h0 : J 0 [] news)
    (turn : ∀ i v I oI C oC D m₂ ys nw h tk (E' : Value → Shared → Prop), i < n → P i v → J i ys nw → LCg.NsObj oC m₂ → m₂ x = some v → Fr h₀ L h m → News h₀ L h ((I, oI) :: (C, oC) :: (D, LCg.lst ys) :: nw) → LCg.Off3 I C D nw → ((@Ne Nat I C) ∧ (@Ne Nat I D) ∧ (@Ne Nat C D)) →
      wpAny (model prog w) A (eval elt (compEnvC scope cl C env)) (LCg.CompEnd h₀ L m { s with heap := h, toks := tk } I oI C oC D (LCg.lst ys) S (fun y news' => J (i + 1) (ys ++ [y]) news')) E' { s with heap := h, toks := tk })
    (fin : ∀ ys nw, J n ys nw → Fin ys nw) : LCg.CompRest prog w A h₀ L m env elt x scope cl s S P Fin n 0 [] news := by
  have key : ∀ (j i : Nat) (ys : List Value) (nw : List (Addr × Obj)), i + j = n → J i ys nw → LCg.CompRest prog w A h₀ L m env elt x scope cl s S P Fin j i ys nw := by
    intro j
    induction j with
    | zero =>
      intro i ys nw hi hy
      have e : i = n := by omega
      subst e
      exact LCg.CompRest.zero (fin ys nw hy)
    | succ j ih =>
      intro i ys nw hi hy
      refine LCg.CompRest.succ ?_
      intro v I oI C oC D m₂ h tk E' hv hC hx F N off ne
      refine wpAny_mono (turn i v I oI C oC D m₂ ys nw h tk E' (by omega) hv hy hC hx F N off ne) (fun y s₂ hq => ?_) fun _ _ e => e
      obtain ⟨h', tk', nw', e, F', N', off', hS, hJ⟩ := hq
      exact ⟨h', tk', nw', e, F', N', off', hS, ih (i + 1) _ _ (by omega) hJ⟩
  exact key n 0 [] news (by omega) h0
end
end Mine
namespace Mine
/-- what a tree of questions gives where the answers are known -/
def ev {α : Type} (c : Nat → Nat → Bool) : KasT α → α
  | .ret a => a
  | .ask i j k => ev c (k (c i j))
theorem ev_bind {α β : Type} (c : Nat → Nat → Bool) (f : α → KasT β) : ∀ t : KasT α, ev c (t.bind f) = ev c (f (ev c t))
  | .ret _ => rfl
  | .ask i j k => ev_bind c f (k (c i j))
theorem wp_of_ev {α : Type} {c : Nat → Nat → Bool} {cmp : Nat → Nat → (Bool → Shared → Prop) → Shared → Prop} (I : Shared → Prop)
    (hc : ∀ i j (C : Bool → Shared → Prop) s, I s → (∀ s', I s' → C (c i j) s') → cmp i j C s) {Q : α → Shared → Prop} : ∀ (t : KasT α) (s : Shared), I s → (∀ s', I s' → Q (ev c t) s') → t.kasWp cmp Q s
  | .ret _, s, h, hq => hq s h
  | .ask i j k, s, h, hq => hc i j _ s h fun s' h' => wp_of_ev I hc (k (c i j)) s' h' hq

section
variable {c : Nat → Nat → Bool}
abbrev pg (p : Array Nat) (k : Nat) : Nat := p.getD k 0
theorem pg_eq {p q : Array Nat} {i j : Nat} (h : p[i]? = q[j]?) : pg p i = pg q j := by
  unfold pg
  rw [Array.getD_eq_getD_getElem?, Array.getD_eq_getD_getElem?, h]
theorem pg_bubble {p : Array Nat} {src d : Nat} (hs : src < p.size) (hd : d ≤ src) (k : Nat) :
    pg (bubble p src d) k = if k = src - d then pg p src else if src - d < k ∧ k ≤ src then pg p (k - 1) else pg p k := by
  have e := getElem?_bubble hs d hd k
  by_cases h1 : k = src - d
  · rw [if_pos h1] at e ⊢; exact pg_eq e
  · rw [if_neg h1] at e ⊢
    by_cases h2 : src - d < k ∧ k ≤ src
    · rw [if_pos h2] at e ⊢; exact pg_eq e
    · rw [if_neg h2] at e ⊢; exact pg_eq e
theorem pg_rev {p : Array Nat} {i j : Nat} (hj : j ≤ p.size) (k : Nat) : pg (kas_rev p i j) k = if i ≤ k ∧ k < j then pg p (i + j - 1 - k) else pg p k := by
  have e := getElem?_mirror_all (i := i) hj k
  by_cases h1 : i ≤ k ∧ k < j
  · rw [if_pos h1] at e ⊢; exact pg_eq e
  · rw [if_neg h1] at e ⊢; exact pg_eq e

def Up (c : Nat → Nat → Bool) (p : Array Nat) (n : Nat) : Prop := ∀ i j, i < j → j < n → c (pg p j) (pg p i) = false
def Dn (c : Nat → Nat → Bool) (p : Array Nat) (n : Nat) : Prop := ∀ i j, i < j → j < n → c (pg p i) (pg p j) = false

theorem asc_ok (o : LO c) {p : Array Nat} : ∀ f n, 1 ≤ n → Up c p n → n ≤ ev c (kas_asc p f n) ∧ ev c (kas_asc p f n) ≤ n + f ∧ Up c p (ev c (kas_asc p f n)) ∧ (ev c (kas_asc p f n) < n + f → c (pg p (ev c (kas_asc p f n))) (pg p (ev c (kas_asc p f n) - 1)) = true)
  | 0, n, _, h => ⟨Nat.le_refl _, Nat.le_refl _, h, fun h => absurd h (Nat.lt_irrefl _)⟩
  | f + 1, n, h1, h => by
    unfold kas_asc
    show n ≤ ev c (if c (pg p n) (pg p (n - 1)) = true then KasT.ret n else kas_asc p f (n + 1)) ∧ _
    cases hc : c (pg p n) (pg p (n - 1)) with
    | true =>
      simp only [if_true, ev, hc]
      exact ⟨Nat.le_refl _, by omega, h, fun _ => trivial⟩
    | false =>
      have := asc_ok o f (n + 1) (by omega) (p := p) (by
        intro i j hij hj
        by_cases e : j = n
        · subst e
          by_cases e2 : i = j - 1
          · rw [e2]; exact hc
          · exact o.tr _ _ _ (h i (j - 1) (by omega) (by omega)) hc
        · exact h i j hij (by omega))
      simp only [Bool.false_eq_true, if_false, ev, hc]
      obtain ⟨a1, a2, a3, a4⟩ := this
      exact ⟨by omega, by omega, a3, fun h => a4 (by omega)⟩

theorem rev_perm (p : Array Nat) (i j : Nat) : (kas_rev p i j).Perm p := mirror_perm _ _ _ _
theorem rev_size (p : Array Nat) (i j : Nat) : (kas_rev p i j).size = p.size := mirror_size _ _ _ _

theorem desc_ok (o : LO c) : ∀ f (p : Array Nat) n q, q < n → n + f ≤ p.size → Dn c p n → (∀ i j, n - (q + 1) ≤ i → i < n → n - (q + 1) ≤ j → j < n → c (pg p i) (pg p j) = false) →
    (ev c (kas_desc f p n q)).1.Perm p ∧ n ≤ (ev c (kas_desc f p n q)).2.1 ∧ (ev c (kas_desc f p n q)).2.1 ≤ n + f ∧ (ev c (kas_desc f p n q)).2.2 < (ev c (kas_desc f p n q)).2.1 ∧ Dn c (ev c (kas_desc f p n q)).1 (ev c (kas_desc f p n q)).2.1 ∧
      (∀ i j, (ev c (kas_desc f p n q)).2.1 - ((ev c (kas_desc f p n q)).2.2 + 1) ≤ i → i < (ev c (kas_desc f p n q)).2.1 → (ev c (kas_desc f p n q)).2.1 - ((ev c (kas_desc f p n q)).2.2 + 1) ≤ j → j < (ev c (kas_desc f p n q)).2.1 → c (pg (ev c (kas_desc f p n q)).1 i) (pg (ev c (kas_desc f p n q)).1 j) = false)
  | 0, p, n, q, h1, _, h2, h3 => ⟨.refl _, Nat.le_refl _, Nat.le_refl _, h1, h2, h3⟩
  | f + 1, p, n, q, h1, hs, h2, h3 => by
    have ext : ∀ p' : Array Nat, Dn c p' n → c (pg p' (n - 1)) (pg p' n) = false → Dn c p' (n + 1) := by
      intro p' hd he i j hij hj
      by_cases e : j = n
      · subst e
        by_cases e2 : i = j - 1
        · rw [e2]; exact he
        · exact o.tr _ _ _ he (hd i (j - 1) (by omega) (by omega))
      · exact hd i j hij (by omega)
    unfold kas_desc
    simp only [ev]
    cases hc : c (pg p n) (pg p (n - 1)) with
    | true =>
      simp only [if_true, ev, hc]
      by_cases hq : q > 0
      · simp only [if_pos hq]
        have hdr : Dn c (kas_rev p (n - (q + 1)) n) (n + 1) := by
          refine ext _ ?_ ?_
          · intro i j hij hj
            rw [pg_rev (by omega), pg_rev (by omega)]
            by_cases ei : n - (q + 1) ≤ i ∧ i < n
            · rw [if_pos ei, if_pos ⟨by omega, by omega⟩]
              exact h3 _ _ (by omega) (by omega) (by omega) (by omega)
            · rw [if_neg ei]
              by_cases ej : n - (q + 1) ≤ j ∧ j < n
              · rw [if_pos ej]
                exact h2 _ _ (by omega) (by omega)
              · rw [if_neg ej]; exact h2 _ _ hij (by omega)
          · rw [pg_rev (by omega), pg_rev (by omega), if_pos ⟨by omega, by omega⟩, if_neg (by omega)]
            refine o.tr _ _ _ (o.asym _ _ hc) ?_
            exact h3 _ _ (by omega) (by omega) (by omega) (by omega)
        obtain ⟨a1, a2, a3, a4, a5, a6⟩ := desc_ok o f (kas_rev p (n - (q + 1)) n) (n + 1) 0 (by omega) (by rw [rev_size]; omega) hdr (by
          intro i j hi hi' hj hj'
          have : i = j := by omega
          subst this; exact o.irr _)
        exact ⟨a1.trans (rev_perm _ _ _), by omega, by omega, a4, a5, a6⟩
      · simp only [if_neg hq]
        obtain ⟨a1, a2, a3, a4, a5, a6⟩ := desc_ok o f p (n + 1) 0 (by omega) (by omega) (ext p h2 (o.asym _ _ hc)) (by
          intro i j hi hi' hj hj'
          have : i = j := by omega
          subst this; exact o.irr _)
        exact ⟨a1, by omega, by omega, a4, a5, a6⟩
    | false =>
      simp only [Bool.false_eq_true, if_false, ev, hc]
      cases hd : c (pg p (n - 1)) (pg p n) with
      | true =>
        simp only [if_true, ev, hd]
        exact ⟨.refl _, by omega, by omega, h1, h2, h3⟩
      | false =>
        simp only [Bool.false_eq_true, if_false, hd]
        obtain ⟨a1, a2, a3, a4, a5, a6⟩ := desc_ok o f p (n + 1) (q + 1) (by omega) (by omega) (ext p h2 hd) (by
          intro i j hi hi' hj hj'
          have old : ∀ i, n - (q + 1) ≤ i → i < n → c (pg p i) (pg p n) = false ∧ c (pg p n) (pg p i) = false := fun i h h' =>
            ⟨o.tr _ _ _ hd (h3 i (n - 1) h h' (by omega) (by omega)), o.tr _ _ _ (h3 (n - 1) i (by omega) (by omega) h h') hc⟩
          by_cases ei : i = n
          · by_cases ej : j = n
            · rw [ei, ej]; exact o.irr _
            · rw [ei]; exact (old j (by omega) (by omega)).2
          · by_cases ej : j = n
            · rw [ej]; exact (old i (by omega) (by omega)).1
            · exact h3 i j (by omega) (by omega) (by omega) (by omega))
        exact ⟨a1, by omega, by omega, a4, a5, a6⟩

theorem up_of_dn (o : LO c) {p : Array Nat} {n : Nat} (hn : n ≤ p.size) (h : Dn c p n) : Up c (kas_rev p 0 n) n := by
  intro i j hij hj
  rw [pg_rev hn, pg_rev hn, if_pos ⟨by omega, by omega⟩, if_pos ⟨by omega, by omega⟩]
  exact h _ _ (by omega) (by omega)
theorem tail3_ok (o : LO c) {p : Array Nat} {n nrem : Nat} (h1 : 1 ≤ n) (hn : n ≤ nrem) (hz : nrem ≤ p.size) (h : Dn c p n) :
    (ev c (kas_tail3 n nrem p)).2.Perm p ∧ 1 ≤ (ev c (kas_tail3 n nrem p)).1 ∧ (ev c (kas_tail3 n nrem p)).1 ≤ nrem ∧ Up c (ev c (kas_tail3 n nrem p)).2 (ev c (kas_tail3 n nrem p)).1 := by
  unfold kas_tail3
  rw [ev_bind]
  obtain ⟨a1, a2, a3, _⟩ := asc_ok o (p := kas_rev p 0 n) (nrem - n) n h1 (up_of_dn o (by omega) h)
  exact ⟨rev_perm _ _ _, by show 1 ≤ ev c _; omega, by show ev c _ ≤ _; omega, a3⟩
theorem descPart_ok (o : LO c) {p : Array Nat} {n nrem : Nat} (h1 : 1 ≤ n) (hn : n + 1 ≤ nrem) (hz : nrem ≤ p.size) (h : Dn c p (n + 1)) :
    (ev c (kas_descPart n nrem p)).2.Perm p ∧ 1 ≤ (ev c (kas_descPart n nrem p)).1 ∧ (ev c (kas_descPart n nrem p)).1 ≤ nrem ∧ Up c (ev c (kas_descPart n nrem p)).2 (ev c (kas_descPart n nrem p)).1 := by
  unfold kas_descPart
  rw [ev_bind]
  obtain ⟨a1, a2, a3, a4, a5, a6⟩ := desc_ok o (nrem - (n + 1)) p (n + 1) 0 (by omega) (by omega) h (by
    intro i j hi hi' hj hj'
    have : i = j := by omega
    subst this; exact o.irr _)
  generalize ev c (kas_desc (nrem - (n + 1)) p (n + 1) 0) = r at *
  obtain ⟨p1, n1, q1⟩ := r
  dsimp only at *
  have hsz : p1.size = p.size := a1.size_eq
  by_cases hq : q1 > 0
  · rw [if_pos hq]
    obtain ⟨b1, b2, b3, b4⟩ := tail3_ok o (p := kas_rev p1 (n1 - (q1 + 1)) n1) (n := n1) (nrem := nrem) (by omega) (by omega) (by rw [rev_size]; omega) (by
      intro i j hij hj
      rw [pg_rev (by omega), pg_rev (by omega)]
      by_cases ei : n1 - (q1 + 1) ≤ i ∧ i < n1
      · rw [if_pos ei, if_pos ⟨by omega, by omega⟩]
        exact a6 _ _ (by omega) (by omega) (by omega) (by omega)
      · rw [if_neg ei]
        by_cases ej : n1 - (q1 + 1) ≤ j ∧ j < n1
        · rw [if_pos ej]; exact a5 _ _ (by omega) (by omega)
        · rw [if_neg ej]; exact a5 _ _ hij (by omega))
    exact ⟨b1.trans ((rev_perm _ _ _).trans a1), b2, b3, b4⟩
  · rw [if_neg hq]
    obtain ⟨b1, b2, b3, b4⟩ := tail3_ok o (p := p1) (n := n1) (nrem := nrem) (by omega) (by omega) (by omega) a5
    exact ⟨b1.trans a1, b2, b3, b4⟩
theorem count_ok (o : LO c) {p : Array Nat} {n : Nat} (h1 : 1 ≤ n) (hz : n ≤ p.size) :
    (ev c (kas_count n p)).2.Perm p ∧ 1 ≤ (ev c (kas_count n p)).1 ∧ (ev c (kas_count n p)).1 ≤ n ∧ Up c (ev c (kas_count n p)).2 (ev c (kas_count n p)).1 := by
  unfold kas_count
  rw [ev_bind]
  obtain ⟨a1, a2, a3, a4⟩ := asc_ok o (p := p) (n - 1) 1 (Nat.le_refl _) (by intro i j hij hj; omega)
  generalize ev c (kas_asc p (n - 1) 1) = m at *
  by_cases e : (m == n) = true
  · rw [if_pos e]
    have : m = n := by simpa using e
    exact ⟨.refl _, by show 1 ≤ m; omega, by show m ≤ n; omega, a3⟩
  · rw [if_neg e]
    have hmn : m < n := by
      have : m ≠ n := by simpa using e
      omega
    have a5 := a4 (by omega)
    by_cases hm : m > 1
    · rw [if_pos hm]
      simp only [ev]
      cases hc : c (pg p 0) (pg p (m - 1)) with
      | true =>
        simp only [if_true, ev, hc]
        exact ⟨.refl _, a1, by omega, a3⟩
      | false =>
        simp only [Bool.false_eq_true, if_false, ev, hc]
        have all : ∀ i j, i < m → j < m → c (pg p i) (pg p j) = false := by
          intro i j hi hj
          have l0 : c (pg p (m - 1)) (pg p j) = false := by
            by_cases ej : j = m - 1
            · rw [ej]; exact o.irr _
            · exact a3 j (m - 1) (by omega) (by omega)
          have r0 : c (pg p i) (pg p 0) = false := by
            by_cases ei : i = 0
            · rw [ei]; exact o.irr _
            · exact a3 0 i (by omega) hi
          have hup : c (pg p 0) (pg p j) = false := by
            by_cases ej : j = m - 1
            · rw [ej]; exact hc
            · have := a3 j (m - 1) (by omega) (by omega)
              exact o.tr _ _ _ this hc
          have hdn : c (pg p i) (pg p (m - 1)) = false := by
            by_cases ei : i = m - 1
            · rw [ei]; exact o.irr _
            · exact o.tr _ _ _ hc r0
          exact o.tr _ _ _ hup r0
        obtain ⟨b1, b2, b3, b4⟩ := descPart_ok o (p := kas_rev p 0 m) (n := m) (nrem := n) (by omega) (by omega) (by rw [rev_size]; omega) (by
          intro i j hij hj
          rw [pg_rev (by omega), pg_rev (by omega), if_pos ⟨by omega, by omega⟩]
          by_cases ej : j < m
          · rw [if_pos ⟨by omega, ej⟩]; exact all _ _ (by omega) (by omega)
          · have : j = m := by omega
            subst this
            rw [if_neg (by omega)]
            refine o.tr _ _ _ (o.asym _ _ a5) ?_
            exact all _ _ (by omega) (by omega))
        exact ⟨b1.trans (rev_perm _ _ _), b2, b3, b4⟩
    · rw [if_neg hm]
      have : m = 1 := by omega
      subst this
      exact descPart_ok o (by omega) (by omega) hz (by
        intro i j hij hj
        have : i = 0 := by omega
        have : j = 1 := by omega
        subst i j
        exact o.asym _ _ a5)

theorem place_ok (o : LO c) {p : Array Nat} {k : Nat} (hu : Up c p k) : ∀ f l r, l ≤ r → r ≤ k → r - l ≤ f → (∀ i, i < l → c (pg p k) (pg p i) = false) → (∀ i, r ≤ i → i < k → c (pg p k) (pg p i) = true) →
    ev c (kas_place p k f l r) ≤ k ∧ (∀ i, i < ev c (kas_place p k f l r) → c (pg p k) (pg p i) = false) ∧ (∀ i, ev c (kas_place p k f l r) ≤ i → i < k → c (pg p k) (pg p i) = true)
  | 0, l, r, h1, h2, h3, h4, h5 => by
    have : l = r := by omega
    subst this
    exact ⟨h2, h4, h5⟩
  | f + 1, l, r, h1, h2, h3, h4, h5 => by
    unfold kas_place
    by_cases e : l ≥ r
    · rw [if_pos e]
      have : l = r := by omega
      subst this
      exact ⟨h2, h4, h5⟩
    · rw [if_neg e]
      show ev c (if c (pg p k) (pg p ((l + r) / 2)) = true then _ else _) ≤ k ∧ _
      cases hc : c (pg p k) (pg p ((l + r) / 2)) with
      | true =>
        simp only [if_true, ev, hc]
        refine place_ok o hu f l ((l + r) / 2) (by omega) (by omega) (by omega) h4 ?_
        intro i hi hik
        by_cases ei : i = (l + r) / 2
        · rw [ei]; exact hc
        · have := hu ((l + r) / 2) i (by omega) hik
          cases hb : c (pg p k) (pg p i) with
          | true => rfl
          | false =>
            have := o.tr _ _ _ this hb
            rw [hc] at this; cases this
      | false =>
        simp only [Bool.false_eq_true, if_false, ev, hc]
        refine place_ok o hu f ((l + r) / 2 + 1) r (by omega) h2 (by omega) ?_ h5
        intro i hi
        by_cases ei : i = (l + r) / 2
        · rw [ei]; exact hc
        · exact o.tr _ _ _ (hu i ((l + r) / 2) (by omega) (by omega)) hc
theorem bin_ok (o : LO c) : ∀ f (p : Array Nat) k, k + f ≤ p.size → Up c p k → (ev c (kas_bin f p k)).Perm p ∧ Up c (ev c (kas_bin f p k)) (k + f)
  | 0, p, k, _, h => ⟨.refl _, h⟩
  | f + 1, p, k, hz, h => by
    unfold kas_bin
    rw [ev_bind]
    obtain ⟨a1, a2, a3⟩ := place_ok o h k 0 k (Nat.zero_le _) (Nat.le_refl _) (Nat.le_refl _) (fun i hi => absurd hi (Nat.not_lt_zero _)) (fun i hi hk => by omega)
    generalize ev c (kas_place p k k 0 k) = l at *
    obtain ⟨b1, b2⟩ := bin_ok o f (bubble p k (k - l)) (k + 1) (by rw [bubble_size]; omega) (by
      intro i j hij hj
      have e : k - (k - l) = l := by omega
      rw [pg_bubble (by omega) (by omega), pg_bubble (by omega) (by omega), e]
      by_cases ei : i = l
      · rw [if_pos ei, if_neg (by omega), if_pos ⟨by omega, by omega⟩]
        exact o.asym _ _ (a3 _ (by omega) (by omega))
      · rw [if_neg ei]
        by_cases ei2 : l < i ∧ i ≤ k
        · rw [if_pos ei2, if_neg (by omega), if_pos ⟨by omega, by omega⟩]
          exact h _ _ (by omega) (by omega)
        · rw [if_neg ei2]
          by_cases ej : j = l
          · rw [if_pos ej]; exact a2 _ (by omega)
          · rw [if_neg ej]
            by_cases ej2 : l < j ∧ j ≤ k
            · rw [if_pos ej2]; exact h _ _ (by omega) (by omega)
            · rw [if_neg ej2]; exact h _ _ hij (by omega))
    exact ⟨b1.trans (bubble_perm _ _ _), by rw [show k + (f + 1) = k + 1 + f by omega]; exact b2⟩

/-- the library's sorting tree sorts -/
theorem sort_ok (o : LO c) {n : Nat} (h : 1 ≤ n) : (ev c (kas_sort n)).toList.Perm (List.range n) ∧ Up c (ev c (kas_sort n)) n := by
  unfold kas_sort
  rw [ev_bind]
  have hs : (List.toArray (List.range n)).size = n := by simp
  obtain ⟨a1, a2, a3, a4⟩ := count_ok o (p := List.toArray (List.range n)) h (by omega)
  generalize ev c (kas_count n (List.toArray (List.range n))) = r at *
  have hsz : r.2.size = n := by rw [a1.size_eq]; exact hs
  by_cases e : r.1 < n
  · rw [if_pos e]
    have em : max r.1 1 = r.1 := by omega
    rw [em]
    obtain ⟨b1, b2⟩ := bin_ok o (n - r.1) r.2 r.1 (by omega) a4
    refine ⟨?_, by rw [show n = r.1 + (n - r.1) by omega]; simpa [show r.1 + (n - r.1) - r.1 = n - r.1 by omega] using b2⟩
    have := (b1.trans a1).toList
    simpa using this
  · rw [if_neg e]
    have : r.1 = n := by omega
    refine ⟨?_, by rw [← this]; exact this ▸ a4⟩
    have := a1.toList
    simpa [ev] using this
end
end Mine
namespace Mine
open AutoSeq1 (wpAny_loadPart')
open MeetsSeq MeetsSeq3 SeqAt

theorem lt_rc {prog : Program} {w : World} {A : Around} {E : Value → Shared → Prop} {s : Shared} {a b : Int} {t u : Tok} {Q : Value → Shared → Prop} (h : Q (.bool (decide (a < b))) s) : wpAny (model prog w) A (richCompare .Lt (.int a t) (.int b u)) Q E s :=
  show wpAny (model prog w) A (compareOp .Lt (.int a t) (.int b u)) Q E s from lt_int h

section
variable {l b : Addr} {x0 x1 y0 y1 : Int} {t0 t1 u0 u1 : Tok} {n n2 : Nat} {items items2 : Array Value}
theorem lt_loop2 (hs : items.size = 2) (hs2 : items2.size = 2) : Meets (Builtin.«list.__eq__.loop» ⟨[.ref l, .ref b, rawInt 2, rawInt 0], []⟩)
    (fun _ R s => s.heap.get? l = some (listOf items n) ∧ s.heap.get? b = some (listOf items2 n2) ∧ R (.ok (.ret (.bool false))) s) := by
  intro prog w A R s h
  obtain ⟨hp, g, d, tk, os⟩ := s; obtain ⟨hl, hb, h⟩ := h
  have hi1 : items[Int.toNat 2]? = none := by simp [hs]
  have hi2 : items2[Int.toNat 2]? = none := by simp [hs2]
  wp_walk using wpAny_loadPart' hl, wpAny_loadPart' hb
  rw [hi1, hi2]
  wp_walk using wpAny_loadPart' hl, wpAny_loadPart' hb
  show R (.ok (.ret (.bool (decide (items.size < items2.size))))) _
  rw [hs, hs2]
  exact h
theorem lt_loop1 (hs : items.size = 2) (hs2 : items2.size = 2) (hi1 : items[Int.toNat 1]? = some (.int x1 t1)) (hi2 : items2[Int.toNat 1]? = some (.int y1 u1)) : Meets (Builtin.«list.__eq__.loop» ⟨[.ref l, .ref b, rawInt 1, rawInt 0], []⟩)
    (fun _ R s => s.heap.get? l = some (listOf items n) ∧ s.heap.get? b = some (listOf items2 n2) ∧ R (.ok (.ret (.bool (decide (x1 < y1))))) s) := by
  intro prog w A R s h
  obtain ⟨hp, g, d, tk, os⟩ := s; obtain ⟨hl, hb, h⟩ := h
  wp_walk using wpAny_loadPart' hl, wpAny_loadPart' hb
  rw [hi1, hi2]
  refine wpAny_bind (EqGives.int x1 y1 t1 u1 prog w _ _ _ _ ?_)
  cases he : x1 == y1 with
  | true =>
    have e : x1 = y1 := eq_of_beq he
    have e2 : decide (x1 < y1) = false := by rw [e]; simp
    rw [e2] at h
    wp_walk
    exact ⟨plainId_quiet plain_eq_loop _, codeAny_builtin entry_eq_loop (by
      rw [Around.under_plainId plain_eq_loop _]
      exact lt_loop2 hs hs2 prog w A R _ ⟨hl, hb, h⟩)⟩
  | false =>
    wp_walk using wpAny_loadPart' hl, wpAny_loadPart' hb
    rw [hi1, hi2]
    exact wpAny_bind (lt_rc (wpAny_pure h))
theorem lt_loop0 (hs : items.size = 2) (hs2 : items2.size = 2) (hi0 : items[Int.toNat 0]? = some (.int x0 t0)) (hj0 : items2[Int.toNat 0]? = some (.int y0 u0)) (hi1 : items[Int.toNat 1]? = some (.int x1 t1)) (hi2 : items2[Int.toNat 1]? = some (.int y1 u1)) : Meets (Builtin.«list.__eq__.loop» ⟨[.ref l, .ref b, rawInt 0, rawInt 0], []⟩)
    (fun _ R s => s.heap.get? l = some (listOf items n) ∧ s.heap.get? b = some (listOf items2 n2) ∧ R (.ok (.ret (.bool (decide (x0 < y0 ∨ (x0 = y0 ∧ x1 < y1)))))) s) := by
  intro prog w A R s h
  obtain ⟨hp, g, d, tk, os⟩ := s; obtain ⟨hl, hb, h⟩ := h
  wp_walk using wpAny_loadPart' hl, wpAny_loadPart' hb
  rw [hi0, hj0]
  refine wpAny_bind (EqGives.int x0 y0 t0 u0 prog w _ _ _ _ ?_)
  cases he : x0 == y0 with
  | true =>
    have e : x0 = y0 := eq_of_beq he
    have e2 : decide (x0 < y0 ∨ (x0 = y0 ∧ x1 < y1)) = decide (x1 < y1) := by rw [e]; simp
    rw [e2] at h
    wp_walk
    exact ⟨plainId_quiet plain_eq_loop _, codeAny_builtin entry_eq_loop (by
      rw [Around.under_plainId plain_eq_loop _]
      exact lt_loop1 hs hs2 hi1 hi2 prog w A R _ ⟨hl, hb, h⟩)⟩
  | false =>
    have e : x0 ≠ y0 := fun q => by rw [q] at he; simp at he
    have e2 : decide (x0 < y0 ∨ (x0 = y0 ∧ x1 < y1)) = decide (x0 < y0) := by simp [e]
    rw [e2] at h
    wp_walk using wpAny_loadPart' hl, wpAny_loadPart' hb
    rw [hi0, hj0]
    exact wpAny_bind (lt_rc (wpAny_pure h))
theorem list2_lt (hs : items.size = 2) (hs2 : items2.size = 2) (hi0 : items[Int.toNat 0]? = some (.int x0 t0)) (hj0 : items2[Int.toNat 0]? = some (.int y0 u0)) (hi1 : items[Int.toNat 1]? = some (.int x1 t1)) (hi2 : items2[Int.toNat 1]? = some (.int y1 u1)) : Meets (Builtin.«list.__lt__» ⟨[.ref l, .ref b], []⟩)
    (fun _ R s => s.heap.get? l = some (listOf items n) ∧ s.heap.get? b = some (listOf items2 n2) ∧ R (.ok (.ret (.bool (decide (x0 < y0 ∨ (x0 = y0 ∧ x1 < y1)))))) s) := by
  intro prog w A R s h
  obtain ⟨hp, g, d, tk, os⟩ := s; obtain ⟨hl, hb, h⟩ := h
  have f3 := AutoSeq1.sub_list_list
  wp_walk using wpAny_loadPart' hl, wpAny_loadPart' hb
  exact ⟨plainId_quiet plain_eq_loop _, codeAny_builtin entry_eq_loop (by
    rw [Around.under_plainId plain_eq_loop _]
    exact lt_loop0 hs hs2 hi0 hj0 hi1 hi2 prog w A R _ ⟨hl, hb, h⟩)⟩
end

/-- a list of two ints -/
abbrev ent (a : Int) (t : Tok) (b : Int) (u : Tok) (n : Nat) : Obj := listOf #[.int a t, .int b u] n
theorem ent_lt {prog : Program} {w : World} {A : Around} {E : Value → Shared → Prop} {s : Shared} {l b : Addr} {x0 x1 y0 y1 : Int} {t0 t1 u0 u1 : Tok} {n n2 : Nat} {Q : Value → Shared → Prop}
    (hl : s.heap.get? l = some (ent x0 t0 x1 t1 n)) (hb : s.heap.get? b = some (ent y0 u0 y1 u1 n2)) (hu : A.units < cLine) (h : Q (.bool (decide (x0 < y0 ∨ (x0 = y0 ∧ x1 < y1)))) s) :
    wpAny (model prog w) A (richCompare .Lt (.ref l) (.ref b)) Q E s :=
  richCompare_meets_room (op := .Lt) ⟨_, hl, rfl⟩ ⟨_, hb, rfl⟩ F.slot_list_lt F.entry_list_lt (F.args_list_lt_2 _ _) (list2_lt rfl rfl rfl rfl rfl rfl)
    ⟨hl, hb, show Value.bool _ ≠ Value.notImplemented ∧ Q (.bool (decide (x0 < y0 ∨ (x0 = y0 ∧ x1 < y1)))) s from ⟨(fun x => nomatch x), h⟩⟩ hu
end Mine
namespace Mine
open AutoSeq1 (wpAny_loadPart')
open MeetsSeq MeetsSeq3 SeqAt

/-- a tuple of two ints -/
abbrev tup (a : Int) (t : Tok) (b : Int) (u : Tok) (n : Nat) : Obj := { cls := .type "tuple", data := .seq #[.int a t, .int b u] n }
/-- the order of pairs -/
def ltP (x y : Int × Int) : Bool := decide (x.1 < y.1 ∨ (x.1 = y.1 ∧ x.2 < y.2))

theorem tupI_lt {l b : Addr} {x0 x1 y0 y1 : Int} {t0 t1 u0 u1 : Tok} {n n2 : Nat} {items items2 : Array Value} (hs : items.size = 2) (hs2 : items2.size = 2) (hz : items.toList.zip items2.toList = [(.int x0 t0, .int y0 u0), (.int x1 t1, .int y1 u1)]) : Meets (Builtin.«tuple.__lt__» ⟨[.ref l, .ref b], []⟩)
    (fun _ R s => s.heap.get? l = some { cls := .type "tuple", data := .seq items n } ∧ s.heap.get? b = some { cls := .type "tuple", data := .seq items2 n2 } ∧ R (.ok (.ret (.bool (ltP (x0, x1) (y0, y1))))) s) :=
  .of_wp fun prog w A R s h => by
    obtain ⟨hp, g, d, tk, os⟩ := s; obtain ⟨hl, hb, h⟩ := h
    have f2 := AutoSeq1.sub_tuple_tuple
    wp_walk using wpAny_loadPart' hl, wpAny_loadPart' hb
    rw [hz]
    unfold List.forIn'.loop
    refine wpAny_bind (wpAny_bind (EqGives.int x0 y0 t0 u0 prog w _ _ _ _ ?_))
    cases he : x0 == y0 with
    | false =>
      have e : x0 ≠ y0 := fun q => by rw [q] at he; simp at he
      have e2 : ltP (x0, x1) (y0, y1) = decide (x0 < y0) := by unfold ltP; simp [e]
      rw [e2] at h
      refine wpAny_bind (wpAny_rule (wpAny_bind (lt_rc ?_)))
      exact wpAny_pure (wpAny_pure (wpAny_pure ⟨_, rfl, h⟩))
    | true =>
      have e : x0 = y0 := eq_of_beq he
      have e2 : ltP (x0, x1) (y0, y1) = decide (x1 < y1) := by unfold ltP; simp [e]
      rw [e2] at h
      refine wpAny_pure ?_
      unfold List.forIn'.loop
      refine wpAny_bind (wpAny_bind (EqGives.int x1 y1 t1 u1 prog w _ _ _ _ ?_))
      cases he1 : x1 == y1 with
      | false =>
        refine wpAny_bind (wpAny_rule (wpAny_bind (lt_rc ?_)))
        exact wpAny_pure (wpAny_pure (wpAny_pure ⟨_, rfl, h⟩))
      | true =>
        have e1 : x1 = y1 := eq_of_beq he1
        have e3 : decide (x1 < y1) = false := by rw [e1]; simp
        rw [e3] at h
        refine wpAny_pure ?_
        unfold List.forIn'.loop
        refine wpAny_pure (wpAny_pure ⟨_, rfl, ?_⟩)
        rw [hs, hs2]
        exact h
theorem tup_lt {prog : Program} {w : World} {A : Around} {E : Value → Shared → Prop} {s : Shared} {l b : Addr} {x0 x1 y0 y1 : Int} {t0 t1 u0 u1 : Tok} {n n2 : Nat} {Q : Value → Shared → Prop}
    (hl : s.heap.get? l = some (tup x0 t0 x1 t1 n)) (hb : s.heap.get? b = some (tup y0 u0 y1 u1 n2)) (hu : A.units < cLine) (h : Q (.bool (ltP (x0, x1) (y0, y1))) s) :
    wpAny (model prog w) A (richCompare .Lt (.ref l) (.ref b)) Q E s :=
  richCompare_meets_room (op := .Lt) ⟨_, hl, rfl⟩ ⟨_, hb, rfl⟩ F.slot_tuple_lt F.entry_tuple_lt (F.args_tuple_lt_2 _ _) (tupI_lt (items := #[.int x0 t0, .int x1 t1]) (items2 := #[.int y0 u0, .int y1 u1]) rfl rfl rfl)
    ⟨hl, hb, show Value.bool _ ≠ Value.notImplemented ∧ Q (.bool (ltP (x0, x1) (y0, y1))) s from ⟨(fun x => nomatch x), h⟩⟩ hu

/-- the sort's own question of two pairs -/
theorem tup_key {prog : Program} {w : World} {A : Around} {E : Value → Shared → Prop} {s : Shared} {l b : Addr} {x0 x1 y0 y1 : Int} {t0 t1 u0 u1 : Tok} {n n2 : Nat} {Q : Bool → Shared → Prop}
    (hl : s.heap.get? l = some (tup x0 t0 x1 t1 n)) (hb : s.heap.get? b = some (tup y0 u0 y1 u1 n2)) (h : Q (ltP (x0, x1) (y0, y1)) s) :
    wpAny (model prog w) A (keyLt' (tuples' true) (.ref l) (.ref b)) Q E s := by
  refine kat_lt hl rfl hb rfl ?_
  refine kat_cons (EqGives.int x0 y0 t0 u0 prog w _ _ _ _ ?_)
  cases he : x0 == y0 with
  | false =>
    have e : x0 ≠ y0 := fun q => by rw [q] at he; simp at he
    have e2 : ltP (x0, x1) (y0, y1) = decide (x0 < y0) := by unfold ltP; simp [e]
    rw [e2] at h
    exact kat_no (by have := kat_lt_int (prog := prog) (w := w) (A := A) (E := fun _ _ => False) (t := t0) (u := u0) h; rw [keyLt'_oneType] at this; exact this)
  | true =>
    have e : x0 = y0 := eq_of_beq he
    have e2 : ltP (x0, x1) (y0, y1) = decide (x1 < y1) := by unfold ltP; simp [e]
    rw [e2] at h
    refine kat_yes (kat_cons (EqGives.int x1 y1 t1 u1 prog w _ _ _ _ ?_))
    cases he1 : x1 == y1 with
    | false => exact kat_no (kat_one _ _ (lt_int h))
    | true =>
      have e1 : x1 = y1 := eq_of_beq he1
      have e3 : decide (x1 < y1) = false := by rw [e1]; simp
      rw [e3] at h
      exact kat_yes (kat_nil h)
end Mine
namespace Mine
/-- the questions on the way are about places below n -/
def okAsk {α : Type} (c : Nat → Nat → Bool) (n : Nat) : KasT α → Prop
  | .ret _ => True
  | .ask i j k => i < n ∧ j < n ∧ okAsk c n (k (c i j))
theorem okAsk_bind {α β : Type} {c : Nat → Nat → Bool} {n : Nat} {f : α → KasT β} : ∀ {t : KasT α}, okAsk c n t → okAsk c n (f (ev c t)) → okAsk c n (t.bind f)
  | .ret _, _, h => h
  | .ask i j k, h1, h2 => ⟨h1.1, h1.2.1, okAsk_bind (t := k (c i j)) h1.2.2 h2⟩
theorem wp_of_ev' {α : Type} {c : Nat → Nat → Bool} {n : Nat} {cmp : Nat → Nat → (Bool → Shared → Prop) → Shared → Prop} {s : Shared}
    (hc : ∀ i j (C : Bool → Shared → Prop), i < n → j < n → C (c i j) s → cmp i j C s) {Q : α → Shared → Prop} : ∀ (t : KasT α), okAsk c n t → Q (ev c t) s → t.kasWp cmp Q s
  | .ret _, _, hq => hq
  | .ask i j k, h, hq => hc i j _ h.1 h.2.1 (wp_of_ev' hc (k (c i j)) h.2.2 hq)
section
variable {c : Nat → Nat → Bool} {n : Nat}
def AL (n : Nat) (p : Array Nat) : Prop := 0 < n ∧ ∀ x ∈ p, x < n
theorem AL.pg {p : Array Nat} (h : AL n p) (k : Nat) : Mine.pg p k < n := by
  unfold Mine.pg
  rw [Array.getD_eq_getD_getElem?]
  cases e : p[k]? with
  | none => exact h.1
  | some x => exact h.2 x (Array.mem_of_getElem? e)
theorem AL.perm {p q : Array Nat} (h : AL n p) (hp : q.Perm p) : AL n q := ⟨h.1, fun x hx => h.2 x (hp.mem_iff.mp hx)⟩
theorem ok_asc {p : Array Nat} (h : AL n p) : ∀ f k, okAsk c n (kas_asc p f k)
  | 0, _ => trivial
  | f + 1, k => by
    unfold kas_asc
    refine ⟨h.pg _, h.pg _, ?_⟩
    dsimp only
    split
    · trivial
    · exact ok_asc h f (k + 1)
theorem ok_desc : ∀ f (p : Array Nat) k q, AL n p → okAsk c n (kas_desc f p k q)
  | 0, _, _, _, _ => trivial
  | f + 1, p, k, q, h => by
    unfold kas_desc
    refine ⟨h.pg _, h.pg _, ?_⟩
    dsimp only
    split
    · split
      · exact ok_desc f _ _ _ (h.perm (rev_perm _ _ _))
      · exact ok_desc f _ _ _ h
    · refine ⟨h.pg _, h.pg _, ?_⟩
      dsimp only
      split
      · trivial
      · exact ok_desc f _ _ _ h
theorem desc_perm : ∀ f (p : Array Nat) k q, (ev c (kas_desc f p k q)).1.Perm p
  | 0, _, _, _ => .refl _
  | f + 1, p, k, q => by
    unfold kas_desc
    simp only [ev]
    split
    · split
      · exact (desc_perm f _ _ _).trans (rev_perm _ _ _)
      · exact desc_perm f _ _ _
    · simp only [ev]
      split
      · exact .refl _
      · exact desc_perm f _ _ _
theorem ok_tail3 {p : Array Nat} (h : AL n p) (a b : Nat) : okAsk c n (kas_tail3 a b p) := okAsk_bind (ok_asc (h.perm (rev_perm _ _ _)) _ _) trivial
theorem ok_descPart {p : Array Nat} (h : AL n p) (a b : Nat) : okAsk c n (kas_descPart a b p) := by
  refine okAsk_bind (ok_desc _ _ _ _ h) ?_
  have h1 : AL n (ev c (kas_desc (b - (a + 1)) p (a + 1) 0)).1 := h.perm (desc_perm _ _ _ _)
  split
  · exact ok_tail3 (h1.perm (rev_perm _ _ _)) _ _
  · exact ok_tail3 h1 _ _
theorem ok_count {p : Array Nat} (h : AL n p) (k : Nat) : okAsk c n (kas_count k p) := by
  refine okAsk_bind (ok_asc h _ _) ?_
  split
  · trivial
  · split
    · refine ⟨h.pg _, h.pg _, ?_⟩
      dsimp only
      split
      · trivial
      · exact ok_descPart (h.perm (rev_perm _ _ _)) _ _
    · exact ok_descPart h _ _
theorem ok_place {p : Array Nat} (h : AL n p) (k : Nat) : ∀ f l r, okAsk c n (kas_place p k f l r)
  | 0, _, _ => trivial
  | f + 1, l, r => by
    unfold kas_place
    split
    · trivial
    · refine ⟨h.pg _, h.pg _, ?_⟩
      dsimp only
      split
      · exact ok_place h k f _ _
      · exact ok_place h k f _ _
theorem ok_bin : ∀ f (p : Array Nat) k, AL n p → okAsk c n (kas_bin f p k)
  | 0, _, _, _ => trivial
  | f + 1, p, k, h => okAsk_bind (ok_place h k _ _ _) (ok_bin f _ _ (h.perm (bubble_perm _ _ _)))
theorem ok_sort (o : LO c) (h : 1 ≤ n) : okAsk c n (kas_sort n) := by
  have ha : AL n (List.toArray (List.range n)) := ⟨by omega, fun x hx => by simpa using hx⟩
  refine okAsk_bind (ok_count ha n) ?_
  have h1 := (count_ok o (p := List.toArray (List.range n)) (n := n) h (by simp)).1
  split
  · exact ok_bin _ _ _ (ha.perm h1)
  · trivial
end

/-- v is a tuple of the ledger, its pair is k -/
def PairIn (led : List (Addr × Obj)) (v : Value) (k : Int × Int) : Prop := ∃ a t u e, v = .ref a ∧ (a, tup k.1 t k.2 u e) ∈ led
theorem PairIn.mono {led led' : List (Addr × Obj)} {v : Value} {k : Int × Int} (h : PairIn led v k) (hs : ∀ p ∈ led, p ∈ led') : PairIn led' v k :=
  let ⟨a, t, u, e, hv, hm⟩ := h; ⟨a, t, u, e, hv, hs _ hm⟩
theorem lo_ltP : LO ltP := ⟨fun a b h => by unfold ltP at *; simp at *; omega, fun a b c h1 h2 => by unfold ltP at *; simp at *; omega⟩
theorem LO.comap {α β : Type} {lt : β → β → Bool} (o : LO lt) (f : α → β) : LO (fun a b => lt (f a) (f b)) := ⟨fun a b => o.asym _ _, fun a b c => o.tr _ _ _⟩
theorem ltOk_pairs {prog : Program} {w : World} {rest : List (Addr × Obj)} {vs : List Value} {K : Value → Int × Int} (h : ∀ v ∈ vs, PairIn rest v (K v)) : LtOk prog w rest (fun a b => ltP (K a) (K b)) vs := by
  intro x hx y hy A s Q E _ hu hn hq
  obtain ⟨a, t, u, e, hv, hm⟩ := h x hx
  obtain ⟨a', t', u', e', hv', hm'⟩ := h y hy
  have q := hq s.toks
  rw [hv, hv'] at q ⊢
  rw [← hv, ← hv'] at q
  exact tup_lt (hn _ hm) (hn _ hm') (by omega) q

section
variable {prog : Program} {w : World} {A : Around} {E : Value → Shared → Prop} {s : Shared} {h₀ : Heap} {L l : Addr} {m : Str → Option Value} {news : List (Addr × Obj)} {vs : List Value} {K : Value → Int × Int}
theorem katTups {h : Heap} : ∀ {vs : List Value}, (∀ v ∈ vs, PairIn news v (K v)) → News h₀ L h news → ∃ fs, KatTups h vs fs ∧ fs.length = vs.length ∧ ∀ f ∈ fs, ∃ i t, f = Value.int i t
  | [], _, _ => ⟨[], trivial, rfl, fun _ h => nomatch h⟩
  | v :: r, hp, N => by
    obtain ⟨fs, h1, h2, h3⟩ := katTups (vs := r) (fun x hx => hp x (.tail _ hx)) N
    obtain ⟨a, t, u, e, hv, hm⟩ := hp v (.head _)
    refine ⟨.int (K v).1 t :: fs, ?_, by simp [h2], ?_⟩
    · have e1 := N.get hm
      exact ⟨⟨a, _, _, _, hv, e1, rfl, rfl, rfl⟩, h1⟩
    · intro f hf
      rcases List.mem_cons.mp hf with rfl | hf
      · exact ⟨_, _, rfl⟩
      · exact h3 f hf
theorem sortedT {e : Nat} {Q : Value → Shared → Prop} (F : Fr h₀ L s.heap m) (N : News h₀ L s.heap news) (hl : (l, listOf vs.toArray e) ∈ news) (hp : ∀ v ∈ vs, PairIn news v (K v)) (h2 : 2 ≤ vs.length) (h64 : vs.length < 64)
    (h : ∀ D c h' ws, Fr h₀ L h' m → News h₀ L h' ((D, listOf (List.toArray ws) c) :: news) → (∀ q ∈ news, q.1 < D) → ws.Perm vs → ws.Pairwise (fun a b => ltP (K b) (K a) = false) → Q (.ref D) { s with heap := h' }) :
    wpAny (model prog w) A (call (.builtin "sorted") [.ref l]) Q E s := by
  refine kat_sorted F N (PySem.IsL.isList (n := e) (N.get hl)) h2 h64 fun D e1 h' F' N' hD => ?_
  have N2 : News h₀ L h' news := fun p hp => N' p (.tail _ hp)
  obtain ⟨fs, t1, t2, t3⟩ := katTups hp N2
  refine kat_kind (T := .type "int") t1 (by omega) (fun v hv => ?_) rfl ?_
  · obtain ⟨i, t, rfl⟩ := t3 v hv
    exact Looks.of_pure rfl
  · have o : LO (fun i j => ltP (K (vs.getD i Value.none)) (K (vs.getD j Value.none))) := lo_ltP.comap fun i => K (vs.getD i Value.none)
    have hmem : ∀ i, i < vs.length → vs.getD i Value.none ∈ vs := fun i hi => by
      rw [List.getD_eq_getElem?_getD, List.getElem?_eq_getElem hi]; exact List.getElem_mem hi
    refine wp_of_ev' (c := fun i j => ltP (K (vs.getD i Value.none)) (K (vs.getD j Value.none))) (n := vs.length) (fun i j C hi hj hC => ?_) _ (ok_sort o (by omega)) ?_
    · obtain ⟨a, t, u, e, hv, hm⟩ := hp _ (hmem i hi)
      obtain ⟨a', t', u', e', hv', hm'⟩ := hp _ (hmem j hj)
      show wpAny (model prog w) A.in1.in1 (keyLt' (tuples' true) (vs.getD i Value.none) (vs.getD j Value.none)) C (fun _ _ => False) _
      rw [hv, hv']
      exact tup_key (N2.get hm) (N2.get hm') hC
    · obtain ⟨p1, p2⟩ := sort_ok o (n := vs.length) (by omega)
      generalize ev (fun i j => ltP (K (vs.getD i Value.none)) (K (vs.getD j Value.none))) (kas_sort vs.length) = p at *
      have hlen : p.size = vs.length := by have := p1.length_eq; simpa using this
      refine KasFin.intro F' N' (.head fun q hq => Nat.ne_of_lt (hD q hq)) fun h'' c F'' N'' => h D c h'' _ F'' N'' hD ?_ ?_
      · refine (p1.map _).trans ?_
        have : (List.range vs.length).map (fun i => vs.getD i Value.none) = vs := by
          apply List.ext_getElem
          · simp
          · intro i h1 h2
            simp [h2]
        rw [this]
      · rw [List.pairwise_iff_getElem]
        intro i j hi hj hij
        simp only [List.length_map, Array.length_toList] at hi hj
        have := p2 i j hij (by omega)
        have ei : pg p i = p[i] := by unfold pg; simp [hi]
        have ej : pg p j = p[j] := by unfold pg; simp [hj]
        rw [ei, ej] at this
        simpa using this
end
end Mine
set_option linter.unusedSectionVars false
namespace Mine
section
variable {α : Type} [Inhabited α] {lt : α → α → Bool}
/-- the places below that are there -/
def below (n place : Nat) : List Nat := [2 * place + 1, 2 * place + 2].filter (fun k => decide (k < n))
def spotOf (ix : α → Int) (free : List Nat) (x : α) : Nat := (ix x % (free.length : Int)).toNat
def layStep (n : Nat) (ix : α → Int) (st : List α × List Nat) (x : α) : List α × List Nat :=
  (st.1.set (st.2.getD (spotOf ix st.2 x) 0) x, st.2.eraseIdx (spotOf ix st.2 x) ++ below n (st.2.getD (spotOf ix st.2 x) 0))
structure LInv (lt : α → α → Bool) (n : Nat) (st : List α × List Nat) (F : List Nat) (done : List α) : Prop where
  len : st.1.length = n
  fr1 : ∀ j ∈ st.2, j < n ∧ j ∉ F ∧ (j = 0 ∨ (j - 1) / 2 ∈ F)
  fr2 : ∀ j, j < n → j ∉ F → (j = 0 ∨ (j - 1) / 2 ∈ F) → j ∈ st.2
  nd : st.2.Nodup
  fl : ∀ j ∈ F, j < n
  fnd : F.Nodup
  up : ∀ j ∈ F, 0 < j → (j - 1) / 2 ∈ F ∧ lt (it st.1 j) (it st.1 ((j - 1) / 2)) = false
  vals : F.map (it st.1) = done
theorem spot_lt {ix : α → Int} {free : List Nat} {x : α} (h : 0 < free.length) : spotOf ix free x < free.length := by
  unfold spotOf
  have h1 := Int.emod_nonneg (ix x) (show (free.length : Int) ≠ 0 by omega)
  have h2 := Int.emod_lt_of_pos (ix x) (show (0 : Int) < free.length by omega)
  omega
theorem LInv.start {n : Nat} (h : 0 < n) {hp : List α} (hl : hp.length = n) : LInv lt n (hp, [0]) [] [] where
  len := hl
  fr1 j hj := by simp at hj; subst hj; exact ⟨h, by simp, .inl rfl⟩
  fr2 j _ _ h := by rcases h with h | h <;> simp_all
  nd := by simp
  fl j hj := by simp at hj
  fnd := by simp
  up j hj := by simp at hj
  vals := rfl
theorem LInv.step {n : Nat} {ix : α → Int} {st : List α × List Nat} {F : List Nat} {done : List α} {x : α} (I : LInv lt n st F done) (h0 : 0 < st.2.length) (hx : ∀ d ∈ done, lt x d = false) :
    ∃ F', LInv lt n (layStep n ix st x) F' (done ++ [x]) := by
  obtain ⟨hp, free⟩ := st
  have hs := spot_lt (ix := ix) (x := x) h0
  dsimp only at hs h0
  have hg : free.getD (spotOf ix free x) 0 = free[spotOf ix free x] := by rw [List.getD_eq_getElem?_getD, List.getElem?_eq_getElem hs]; rfl
  unfold layStep
  dsimp only
  generalize spotOf ix free x = i at *
  rw [hg]
  have hm : free[i] ∈ free := List.getElem_mem hs
  obtain ⟨p1, p2, p3⟩ := I.fr1 _ hm
  have hni : ∀ j, j ∈ free.eraseIdx i ↔ j ∈ free ∧ j ≠ free[i] := by
    intro j
    constructor
    · intro hj
      refine ⟨List.mem_of_mem_eraseIdx hj, ?_⟩
      rintro e
      obtain ⟨k, hk, hne, e2⟩ := List.mem_eraseIdx_iff_getElem.mp hj
      exact hne (nd_inj I.nd hk hs (e2.trans e))
    · rintro ⟨hj, hne⟩
      obtain ⟨k, hk, e⟩ := List.getElem_of_mem hj
      exact List.mem_eraseIdx_iff_getElem.mpr ⟨k, hk, fun q => hne (by subst q; exact e.symm), e⟩
  generalize free[i] = p at *
  have hlen : hp.length = n := I.len
  have hmap : ∀ j ∈ F, it (hp.set p x) j = it hp j := fun j hj => it_set_ne fun e : p = j => p2 (e ▸ hj)
  have hkid : ∀ j, j ∈ below n p ↔ (j = 2 * p + 1 ∨ j = 2 * p + 2) ∧ j < n := by
    intro j
    unfold below
    simp
  refine ⟨F ++ [p], ⟨by rw [List.length_set]; exact hlen, ?_, ?_, ?_, ?_, ?_, ?_, ?_⟩⟩
  · intro j hj
    dsimp only at hj
    rw [List.mem_append, hni, hkid] at hj
    rcases hj with ⟨h1, h2⟩ | ⟨h1, h2⟩
    · obtain ⟨q1, q2, q3⟩ := I.fr1 j h1
      refine ⟨q1, by simp [q2, h2], ?_⟩
      rcases q3 with q3 | q3
      · exact .inl q3
      · exact .inr (List.mem_append_left _ q3)
    · refine ⟨h2, ?_, .inr ?_⟩
      · intro hj
        rcases List.mem_append.mp hj with g | g
        · have := (I.up j g (by omega)).1
          rw [show (j - 1) / 2 = p by omega] at this
          exact p2 this
        · simp at g; omega
      · rw [show (j - 1) / 2 = p by omega]; simp
  · intro j hj hF hpar
    dsimp only
    rw [List.mem_append, hni, hkid]
    have hF1 : j ∉ F := fun h => hF (List.mem_append_left _ h)
    have hF2 : j ≠ p := fun h => hF (by simp [h])
    by_cases hq : 0 < j ∧ (j - 1) / 2 = p
    · exact .inr ⟨by omega, hj⟩
    · refine .inl ⟨I.fr2 j hj hF1 ?_, hF2⟩
      rcases hpar with h | h
      · exact .inl h
      · rcases List.mem_append.mp h with g | g
        · exact .inr g
        · simp at g
          exact .inl (by omega)
  · dsimp only
    rw [List.nodup_append]
    refine ⟨I.nd.sublist (List.eraseIdx_sublist ..), ?_, ?_⟩
    · unfold below
      exact List.Nodup.sublist List.filter_sublist (by simp)
    · intro a ha b hb e
      subst e
      rw [hni] at ha
      rw [hkid] at hb
      obtain ⟨q1, q2, q3⟩ := I.fr1 a ha.1
      rcases q3 with q3 | q3
      · omega
      · rw [show (a - 1) / 2 = p by omega] at q3
        exact p2 q3
  · intro j hj
    rcases List.mem_append.mp hj with g | g
    · exact I.fl j g
    · simp at g; omega
  · rw [List.nodup_append]
    refine ⟨I.fnd, by simp, ?_⟩
    intro a ha b hb e
    simp at hb
    subst hb
    subst e
    exact p2 ha
  · intro j hj hj0
    dsimp only
    rcases List.mem_append.mp hj with g | g
    · obtain ⟨u1, u2⟩ := I.up j g hj0
      refine ⟨List.mem_append_left _ u1, ?_⟩
      rw [hmap j g, hmap _ u1]
      exact u2
    · simp at g
      subst g
      rcases p3 with q | q
      · omega
      · refine ⟨List.mem_append_left _ q, ?_⟩
        rw [it_set_eq (by omega), hmap _ q]
        refine hx _ ?_
        rw [← I.vals]
        exact List.mem_map_of_mem q
  · dsimp only
    rw [List.map_append, List.map_congr_left hmap]
    have := I.vals
    dsimp only at this
    rw [this]
    simp only [List.map_cons, List.map_nil]
    rw [it_set_eq (by omega)]
theorem nd_len : ∀ {l m : List Nat}, l.Nodup → (∀ a ∈ l, a ∈ m) → l.length ≤ m.length
  | [], _, _, _ => Nat.zero_le _
  | a :: l, m, nd, h => by
    have hm := h a (.head _)
    have := nd_len (l := l) (m := m.erase a) (List.nodup_cons.mp nd).2 fun b hb => (List.mem_erase_of_ne (show b ≠ a from fun e => (List.nodup_cons.mp nd).1 (e ▸ hb))).mpr (h b (.tail _ hb))
    rw [List.length_erase_of_mem hm] at this
    have := List.length_pos_of_mem hm
    simp only [List.length_cons]
    omega
theorem mem_of_full {n : Nat} {F : List Nat} (fl : ∀ j ∈ F, j < n) (fnd : F.Nodup) (hl : n ≤ F.length) : ∀ j, j < n → j ∈ F := by
  intro j hj
  by_cases h : j ∈ F
  · exact h
  · exfalso
    have nd2 : (j :: F).Nodup := List.nodup_cons.mpr ⟨h, fnd⟩
    have hsub : ∀ a ∈ j :: F, a ∈ List.range n := by
      intro a ha
      rcases List.mem_cons.mp ha with e | g
      · rw [e]; exact List.mem_range.mpr hj
      · exact List.mem_range.mpr (fl a g)
    have : (j :: F).length ≤ (List.range n).length := nd_len nd2 hsub
    simp at this
    omega
theorem LInv.more {n : Nat} {st : List α × List Nat} {F : List Nat} {done : List α} (I : LInv lt n st F done) (h : done.length < n) : 0 < st.2.length := by
  have hF : F.length < n := by have := congrArg List.length I.vals; simp at this; omega
  have hex : ∃ j, j < n ∧ j ∉ F := by
    apply Classical.byContradiction
    intro hno
    have hall : ∀ j, j < n → j ∈ F := fun j hj => Classical.byContradiction fun h => hno ⟨j, hj, h⟩
    have := nd_len (List.nodup_range (n := n)) fun a ha => hall a (List.mem_range.mp ha)
    simp at this
    omega
  obtain ⟨j, hj, hjF⟩ := hex
  have key : ∀ j, j < n → j ∉ F → ∃ k, k ∈ st.2 := by
    intro j
    induction j using Nat.strongRecOn with
    | ind j ih =>
      intro hj hjF
      by_cases h0 : j = 0
      · exact ⟨j, I.fr2 j hj hjF (.inl h0)⟩
      · by_cases hp : (j - 1) / 2 ∈ F
        · exact ⟨j, I.fr2 j hj hjF (.inr hp)⟩
        · exact ih ((j - 1) / 2) (by omega) (by omega) hp
  obtain ⟨k, hk⟩ := key j hj hjF
  exact List.length_pos_of_mem hk
theorem LInv.fin {n : Nat} {st : List α × List Nat} {F : List Nat} {done : List α} (I : LInv lt n st F done) (h : done.length = n) : st.1.Perm done ∧ Heap' lt st.1 := by
  have hF : F.length = n := by have := congrArg List.length I.vals; simp at this; omega
  have hall := mem_of_full I.fl I.fnd (by omega)
  have hp : F.Perm (List.range n) := (List.perm_ext_iff_of_nodup I.fnd List.nodup_range).mpr fun a => ⟨fun h => List.mem_range.mpr (I.fl a h), fun h => hall a (List.mem_range.mp h)⟩
  constructor
  · have e : (List.range n).map (it st.1) = st.1 := by
      apply List.ext_getElem
      · simp [I.len]
      · intro i h1 h2
        simp only [List.getElem_map, List.getElem_range]
        unfold it
        rw [List.getD_eq_getElem?_getD, List.getElem?_eq_getElem h2]
        rfl
    rw [← I.vals, ← e]
    have := (hp.map (it st.1)).symm
    rw [e] at this
    rw [e]
    exact this
  · intro k h0 hk
    exact (I.up k (hall k (by rw [← I.len]; exact hk)) h0).2
end
end Mine
namespace Mine
section
variable {prog : Program} {w : World} {A : Around} {E : Value → Shared → Prop} {s : Shared} {h₀ : Heap} {L : Addr} {m : Str → Option Value} {env : Env}
/-- a comprehension's source: a tuple of the ledger -/
def TupSrc (prog : Program) (w : World) (A : Around) (h₀ : Heap) (L : Addr) (m : Str → Option Value) (env : Env) (ct elt : Expr) (x : Str) (scope : Scope) (cl : List (Str × Addr)) (Fin : Shared → List Value → List (Addr × Obj) → Prop) (xv : Value) (s₁ : Shared) : Prop :=
  ∃ ax its o news, xv = .ref ax ∧ A.handled = none ∧ Fr h₀ L s₁.heap m ∧ News h₀ L s₁.heap news ∧ (ax, o) ∈ news ∧ o.cls = .type "tuple" ∧ (∃ n, o.data = .seq its n) ∧ its.size ≤ sizeLine ∧
    ∀ g : Heap, LCt.CompRestT prog w A h₀ L m env ct elt x scope cl { s₁ with heap := g } (fun nw => (ax, o) ∈ nw) (fun i v => its[i]? = some v) (Fin { s₁ with heap := g }) its.size 0 [] news
theorem tup_st {ax I : Addr} {ob : Obj} {its : Array Value} (hc : ob.cls = .type "tuple") (hd : ∃ n, ob.data = .seq its n) : ∀ i (h h' : Heap) (o : Obj) (nw : List (Addr × Obj)), (h.IsTupleIter I ax i ∧ h.IsTuple ax its) → h.get? I = some o → h'.get? I = some o → (∀ b o, h₀.get? b = some o → h'.get? b = some o) → News h₀ L h' nw → (ax, ob) ∈ nw → (h'.IsTupleIter I ax i ∧ h'.IsTuple ax its) :=
  fun _ _ _ o _ st e e' _ N S => ⟨by obtain ⟨o', q, r⟩ := st.1; rw [e] at q; cases q; exact ⟨o, e', r⟩, ⟨ob, (N _ S).1, hc, hd⟩⟩
theorem tupComp {ct elt iter : Expr} {x : Str} {px : Pos} {scope : Scope} {cl : List (Str × Addr)} {pos : Pos} {Q : Value → Shared → Prop} (F₀ : Fr h₀ L s.heap m)
    (hclos : closureFor scope env = pure cl) (hcell : ∀ y ∈ scope.names, y.2 ≠ .cell) (hkind : scope.kind = .function)
    (hnames : ∀ y ∈ scope.names, y.2 = .local → scope.names.lookup y.1 = some .local) (hx : scope.names.lookup x = some .local)
    (h : wpAny (model prog w) A (eval iter env) (TupSrc prog w A h₀ L m env ct elt x scope cl (fun s₂ => LCg.FinE h₀ L m s₂ Q)) E s)
    (hs : ∀ x, foldedSetIterable iter env x = pure x := by intro _; rfl) :
    wpAny (model prog w) A (eval (.ListComp elt [⟨.Name x px, iter, [ct], 0⟩] scope pos) env) Q E s := by
  rw [eval_ListComp]
  refine wpAny_comprehension_free (use := none) rfl hs hclos hkind hnames (wpAny_mono h (fun xv s₁ h₁ => ?_) fun _ _ e => e)
  obtain ⟨ax, its, o, news, rfl, hh, F, N, hm, hc, hd, hsz, R⟩ := h₁
  have hl : s₁.heap.IsTuple ax its := ⟨o, (N _ hm).1, hc, hd⟩
  have hlt : ax < s₁.heap.objs.size := Heap.lt_size (N _ hm).1
  refine wpAny_pyIter_tuple hl ?_
  have up : ∀ b o, s₁.heap.get? b = some o → (s₁.heap.push { cls := .type "tuple_iterator", data := .fields #[.ref ax, .int 0 0] }).get? b = some o := fun b o e => Heap.get?_push_of_some _ e
  refine LCt.block_T (Walks.tuple hh s₁.heap.objs.size ax (Nat.ne_of_lt hlt) its) hsz (fun i h st => by obtain ⟨o, e, _⟩ := st.1; exact ⟨o, e⟩) (tup_st hc hd) hcell hkind hx ⟨⟨_, Heap.get?_push_size _ rfl, rfl, rfl⟩, hl.push _⟩ (fun b hb => ?_)
    (F.keeps up) (N.grown up) (Nat.ne_of_lt F.ns.lt) (next_is_new F) (fun p hp => Nat.ne_of_lt (Heap.lt_size (N p hp).1)) hm (R _) ?_
  · show b < (s₁.heap.push _).objs.size
    rw [Heap.size_push]
    rcases List.mem_cons.mp hb with rfl | hb
    · exact Nat.lt_succ_self _
    · rw [List.mem_singleton.mp hb]; exact Nat.lt_succ_of_lt hlt
  · intro D C h tk m' ys news' F' N' o1 hn hC₀ hD₀ hCL hDL hCD offC fin
    refine ⟨m', hn, fun h'' hs'' => fin D h'' tk (F'.change hs'' hCL hC₀) (fun p hp => ?_) o1⟩
    refine ⟨hs''.extBut _ _ ?_ (N' p hp).1, (N' p hp).2⟩
    rcases List.mem_cons.mp hp with rfl | hp
    · exact Ne.symm hCD
    · exact offC p hp
end
end Mine
namespace Mine

theorem src_list {g h : Heap} {L la : Addr} {m : Str → Option Value} {its : Array Value} {rest news : List (Addr × Obj)} (hS : LCg.SrcAt g la its rest) (F : Fr g L h m) (N : News g L h news) (hsub : ∀ p ∈ rest, p ∈ news) : h.IsList la its := hS.list F.keep (fun p hp => N p (hsub p hp))
theorem src_keep {g g' : Heap} {L la : Addr} {m : Str → Option Value} {its : Array Value} {rest : List (Addr × Obj)} (hS : LCg.SrcAt g la its rest) (F : Fr g L g' m) : LCg.SrcAt g' la its rest := hS.imp (fun h => h.at (F.keep la)) id
theorem len_is {prog : Program} {w : World} {A : Around} {E : Value → Shared → Prop} {s : Shared} {D : Addr} {vs : List Value} {Q : Value → Shared → Prop} (hl : s.heap.IsList D vs.toArray) (hz : vs.length ≤ 1000) (h : ∀ t tk, Q (.int (vs.length : Int) t) { s with toks := tk }) :
    wpAny (model prog w) A (call (.builtin "len") [.ref D]) Q E s := by
  refine len_list hl (by rw [List.size_toArray]; omega) ?_
  have := h (s.toks + 1) (s.toks + 1 + 1)
  simpa using this
theorem none_mul {prog : Program} {w : World} {A : Around} {E : Value → Shared → Prop} {s : Shared} {h₀ : Heap} {L : Addr} {m : Str → Option Value} {news : List (Addr × Obj)} {l : Addr} {v : Value} {k n : Nat} {u : Tok} {Q : Value → Shared → Prop}
    (Fm : Fr h₀ L s.heap m) (N : News h₀ L s.heap news) (hl : (l, listOf #[v] k) ∈ news) (hn : n ≤ 1000)
    (h : ∀ h' D, Fr h₀ L h' m → News h₀ L h' ((D, listOf (List.replicate n v).toArray 0) :: news) → AllLt D news → Q (.ref D) { s with heap := h' }) :
    wpAny (model prog w) A (binaryOp .Mult (.ref l) (.int (n : Int) u)) Q E s := by
  refine mul_list Fm N (N _ hl).1 (by omega) (by omega) (by simp; omega) fun h' F' N' => h h' _ F' ?_ (allLt_of fun p hp => Heap.lt_size (N p hp).1)
  have e : List.foldl (fun x1 x2 => x1 ++ x2) #[] (List.replicate (if (#[v] : Array Value).isEmpty = true then 0 else (n : Int).toNat) #[v]) = (List.replicate n v).toArray := by
    rw [if_neg (by simp), Int.toNat_natCast]
    rw [listMul_foldl]
    simp
  rw [e] at N'
  exact N'
/-- what _law_heap makes: a heap of unlike pairs of the ledger -/
structure HeapOf (ns : List Int) (tl : List (Addr × Obj)) (K : Value → Int × Int) (hv : List Value) : Prop where
  len : hv.length = ns.length
  pairs : ∀ v ∈ hv, PairIn tl v (K v)
  rng : ∀ v ∈ hv, 0 ≤ (K v).2 ∧ (K v).2 < ns.length
  inj : ∀ v ∈ hv, ∀ u ∈ hv, K v = K u → v = u
  nd : hv.Nodup
  heap : Heap' (fun a b => ltP (K a) (K b)) hv
theorem cut_at : ∀ {vs : List Value} {i : Nat}, i < vs.length → kl_cut vs i = some (vs.take i, vs.getD i default, vs.drop (i + 1))
  | [], _, h => absurd h (by simp)
  | x :: r, 0, _ => rfl
  | x :: r, i + 1, h => by
    unfold kl_cut
    rw [cut_at (vs := r) (i := i) (by simpa using h)]
    simp
theorem pop_at {prog : Program} {w : World} {A : Around} {E : Value → Shared → Prop} {s : Shared} {h₀ : Heap} {L D : Addr} {m : Str → Option Value} {rest : List (Addr × Obj)} {vs : List Value} {n : Nat} {k : Int} {t : Tok} {Q : Value → Shared → Prop} (F : Fr h₀ L s.heap m) (N : News h₀ L s.heap ((D, listOf vs.toArray n) :: rest)) (hne : ∀ p ∈ rest, p.1 ≠ D) (i : Nat) (hk : k = (i : Int)) (hi : i < vs.length) (hl : vs.length ≤ 1000)
    (h : ∀ h', Fr h₀ L h' m → News h₀ L h' ((D, listOf (vs.eraseIdx i).toArray (n + 1)) :: rest) → Q (vs.getD i default) { s with heap := h' }) :
    wpAny (model prog w) A (call (.builtin "list.pop") [.ref D, .int k t]) Q E s := by
  subst hk
  have hsi : seqIndex? (i : Int) vs.toArray.size = some i := by
    unfold seqIndex?
    rw [List.size_toArray]
    simp
    omega
  have hf : Builtin.List.listFitsIndex (i : Int) = true := by
    unfold Builtin.List.listFitsIndex
    rw [Bool.and_eq_true, decide_eq_true_iff, decide_eq_true_iff]
    omega
  refine kl_popAt F N hf hsi (cut_at hi) (.head hne) (by rw [sizeLine_eq]; simp; omega) fun h' F' N' => h h' F' ?_
  rw [← List.eraseIdx_eq_take_drop_succ] at N'
  exact N'
theorem ints_at : ∀ {vs : List Value} {ns : List Int}, IntsAre vs ns → ∀ i, i < vs.length → ∃ t, vs.getD i default = .int (ns.getD i 0) t
  | _, _, .cons a u _, 0, _ => ⟨u, rfl⟩
  | _, _, .cons a u r, i + 1, h => by
    obtain ⟨t, e⟩ := ints_at r i (by simpa using h)
    exact ⟨t, by simpa using e⟩
  | _, _, .nil, _, h => absurd h (by simp)
theorem ints_erase : ∀ {vs : List Value} {ns : List Int}, IntsAre vs ns → ∀ i, IntsAre (vs.eraseIdx i) (ns.eraseIdx i)
  | _, _, .nil, _ => .nil
  | _, _, .cons a u r, 0 => r
  | _, _, .cons a u r, i + 1 => .cons a u (ints_erase r i)
theorem erase_map {α β : Type} (f : α → β) : ∀ (l : List α) (i : Nat), (l.map f).eraseIdx i = (l.eraseIdx i).map f
  | [], _ => rfl
  | _ :: _, 0 => rfl
  | x :: r, i + 1 => by
    show f x :: (r.map f).eraseIdx i = f x :: (r.eraseIdx i).map f
    rw [erase_map f r i]
theorem ext_at {prog : Program} {w : World} {A : Around} {E : Value → Shared → Prop} {s : Shared} {h₀ : Heap} {L D b : Addr} {m : Str → Option Value} {rest : List (Addr × Obj)} {vs us : List Value} {n n2 : Nat} {Q : Value → Shared → Prop} (F : Fr h₀ L s.heap m) (N : News h₀ L s.heap ((D, listOf vs.toArray n) :: rest)) (hb : (b, listOf us.toArray n2) ∈ rest) (hne : ∀ p ∈ rest, p.1 ≠ D) (hl : vs.length ≤ 1000) (hl2 : us.length ≤ 1000)
    (h : ∀ h' n', Fr h₀ L h' m → News h₀ L h' ((D, listOf (vs ++ us).toArray n') :: rest) → Q .none { s with heap := h' }) :
    wpAny (model prog w) A (call (.builtin "list.extend") [.ref D, .ref b]) Q E s := by
  have hd : ¬(!vs.toArray.isEmpty && Builtin.List.listTooLong (vs.toArray.size + us.toArray.size)) = true := by
    refine PyProof.Rows.extend_door ?_
    rw [sizeLine_eq, List.size_toArray, List.size_toArray]; omega
  have z1 : vs.toArray.toList.length ≤ sizeLine := by rw [sizeLine_eq]; simp; omega
  have z2 : vs.toArray.size + us.toArray.size ≤ sizeLine + 1 := by rw [sizeLine_eq, List.size_toArray, List.size_toArray]; omega
  cases us with
  | nil =>
    refine kxn_extend F N (.tail _ hb) rfl (.head hne) hd z1 z2 fun h' F' N' => h h' n F' ?_
    rw [List.append_nil]
    exact N'
  | cons u r => exact kl_extend F N (.tail _ hb) rfl (by simp) (.head hne) hd z1 z2 fun h' F' N' => h h' _ F' N'
theorem below_step (n pl j : Nat) (hj : j < 2) : ([2 * pl + 1, 2 * pl + 2].take (j + 1)).filter (fun k => decide (k < n)) = ([2 * pl + 1, 2 * pl + 2].take j).filter (fun k => decide (k < n)) ++ (if 2 * pl + 1 + j < n then [2 * pl + 1 + j] else []) := by
  rcases (show j = 0 ∨ j = 1 by omega) with rfl | rfl
  · simp only [List.take, List.filter]
    by_cases h : 2 * pl + 1 < n <;> simp [h]
  · simp only [List.take, List.filter]
    by_cases h : 2 * pl + 1 < n <;> by_cases h' : 2 * pl + 2 < n <;> simp [h, h']
theorem name_tok {h₀ h : Heap} {L a : Addr} {i : Int} {t : Tok} {r : List (Addr × Obj)} (_N : News h₀ L h ((a, listOf #[.int i t] 0) :: r)) {P : Prop} (k : ∀ t', t' = t → P) : P := k t rfl
theorem name_loc {h₀ h : Heap} {L : Addr} {m : Str → Option Value} (_F : Fr h₀ L h m) {P : Prop} (k : ∀ L', L' = L → P) : P := k L rfl
theorem name_obj {o : Obj} {d : Data} (_d : o.data = d) {P : Prop} (k : ∀ o', o' = o → P) : P := k o rfl
theorem PairIn.uniq {h₀ h : Heap} {L : Addr} {news : List (Addr × Obj)} (N : News h₀ L h news) {v : Value} {k k' : Int × Int} (h1 : PairIn news v k) (h2 : PairIn news v k') : k = k' := by
  obtain ⟨a, t, u, e, rfl, m1⟩ := h1
  obtain ⟨a', t', u', e', q, m2⟩ := h2
  cases q
  have := Option.some.inj ((N.get m1).symm.trans (N.get m2))
  injection this with _ _ d _
  injection d with d _
  have d := congrArg Array.toList d
  simp only [List.cons.injEq, Value.int.injEq] at d
  exact Prod.ext d.1.1 d.2.1.1
noncomputable def keyOf (tl : List (Addr × Obj)) (v : Value) : Int × Int := Classical.epsilon fun k => PairIn tl v k
theorem keyOf_is {h₀ h : Heap} {L : Addr} {tl : List (Addr × Obj)} (N : News h₀ L h tl) {v : Value} {k : Int × Int} (h1 : PairIn tl v k) : PairIn tl v (keyOf tl v) ∧ keyOf tl v = k := by
  have := Classical.epsilon_spec (p := fun k => PairIn tl v k) ⟨k, h1⟩
  exact ⟨this, PairIn.uniq N this h1⟩
/-- the pairs that the comprehension makes -/
def Made (ns : List Int) (i : Nat) (ys : List Value) (tl : List (Addr × Obj)) : Prop :=
  ys.length = i ∧ ∀ j, j < i → PairIn tl (ys.getD j .none) (ns.getD j 0, (j : Int))

end Mine
namespace Mine
local macro_rules | `(tactic| walk_at "call ref") => `(tactic| refine Stop.out ?_)
local macro_rules | `(tactic| walk_at "pyIter ref") => `(tactic| refine Stop.out ?_)
local macro_rules | `(tactic| walk_at "CompSrcT") => `(tactic| refine Stop.out ?_)
local macro_rules | `(tactic| walk_at "CompSrc") => `(tactic| refine Stop.out ?_)
local macro_rules | `(tactic| walk_at "call builtin:sorted") => `(tactic| refine Stop.out ?_)
local macro_rules | `(tactic| walk_at "eval ListComp") => `(tactic| refine Stop.out ?_)
local macro_rules | `(tactic| walk_at "binaryOp Mult ref int") => `(tactic| refine Stop.out ?_)
theorem heap_call (w : World) (mean : ExcName → Option Value) (mg mb : Str → Option Value)
    (dp un : Nat) (gd : Option (List Code)) (cn : Str) (cs : Scope) (a : Addr) (ccd : Value) (cl : List (Str × Addr)) (outer : List Env) (A₀ : Around) (base h₀ : Heap) (L : Addr) (m : Str → Option Value) (rest : List (Addr × Obj)) (s : Shared)
    (la : Addr) (vs : List Value) (ns : List Int)
    (Q E : Value → Shared → Prop) (B : Below A₀ base outer h₀) (F : Fr h₀ L s.heap m) (X : (Mine.hd01.heap_39 w.params).In h₀) (N : News h₀ L s.heap rest) (hS : LCg.SrcAt h₀ la vs.toArray rest)
    (T : Top Mine.hd01.view_39 (looseW Mine.hd01.view_39 []) mean mg mb h₀) (hk : cs.kind = .function) (hd : dp + 10 < recursionLimit) (hu : un + 110 < cLine)
    (h5 : 5 ≤ vs.length) (hlen : vs.length < 64) (hi' : IntsAre vs ns)
    (hret : ∀ h' tk' Ha hv e tl K, Fr h₀ L h' m → News h₀ L h' ((Ha, listOf (List.toArray hv) e) :: (tl ++ rest)) → (∀ p ∈ tl ++ rest, p.1 ≠ Ha) → (∀ p ∈ tl, ∀ q ∈ rest, q.1 ≠ p.1) → HeapOf ns tl K hv → Q (.ref Ha) { s with heap := h', toks := tk' }) :
    wpAny (model PySem.Challenge.rw_dp0035_01.row.prog w) (ktrTop dp un gd cn cs L a ccd cl outer) (call (.ref 40) [.ref la]) Q E s := by
  have hfill : PySem.Challenge.rw_dp0035_01 = PySem.Challenge.rw_dp0035_01 ∧ Mine.hd01.heap_39 = Mine.hd01.heap_39 := by
    k_fill
    exact ⟨rfl, rfl⟩
  clear hfill
  w_top off
  k_with_none
  refine wpAny_call ?_
  k_dflt (refine' code_defC ?k1 ?k2 ?k3 ?k4 ?k5 ?kA ?kF ?kK ?k6 ?k7 ?k8 ?k9 ?kB ?kD ?_ ?c2 ?c3 ?c4; (case kA => exact rfl); (case kF => exact rfl); (case kK => assumption); (case k1 => k_asm); (case k2 => k_asm); (case k3 => k_asm); (case k4 => k_asm); (case k5 => k_asm); (case k6 => k_is); (case k7 => k_is); (case k8 => ktr_room); (case k9 => exact BindsTo.of_eq rfl); (case kB => exact rfl); (case kD => decide +kernel); (case c2 => exact rfl); (case c3 => exact rfl); (case c4 => exact rfl); k_whole; intro g' L' h' tk' cells' FG' F' N' Y' B' X' T' l1; (try k_lt l1); k_cells Y'; (try simp only [List.cons_append, List.nil_append] at N'); (try dsimp only); (try k_lift B'); (try k_fold))
  k_steps
  rename Fr _ _ _ (bindL _ _ _) => F1
  rename News _ _ _ (_ :: _) => N1
  rename Fr _ _ _ m => FG
  rename _ = Data.cell _ => d0
  refine name_obj d0 ?_
  intro oN hoN
  have d1 : oN.data = Data.cell (some (.ref la)) := by rw [hoN]; exact d0
  clear d0
  subst hoN
  have hS1 := src_keep hS FG
  refine len_is (src_list hS1 F1 N1 fun p hp => .tail _ (.tail _ hp)) (by omega) ?_
  intro t2 tk2
  k_steps
  refine Stop.go ?_
  refine none_mul F1 N1 (.head _) (by omega) ?_
  intro h2 Ha F2 N2 hHa
  k_steps
  refine Stop.go ?_
  k_dflt (refine LCg.ListComp_U (F₀ := by k_asm) (by with_unfolding_all rfl) (by decide) (by rfl) (by decide) (by rfl) ?_)
  k_steps
  rename Fr _ _ _ (fun _ => _) => F3
  rename News _ _ _ ((_, listOf #[Value.int _ _] _) :: _) => N3
  refine len_is (src_list hS1 F3 N3 fun p hp => .tail _ (.tail _ (.tail _ (.tail _ hp)))) (by omega) ?_
  intro t4 tk4
  k_steps
  refine Stop.go ?_
  rename IsRange _ _ _ _ _ _ _ _ => hR
  rename vs.length = ns.length => hvn
  rename Fr _ _ _ (fun _ => _) => F5
  rename News _ _ _ ((_, listOf #[Value.int _ _] _) :: _) => N5
  refine name_head N5 ?_
  intro fa hfa
  subst hfa
  refine name_tok N5 ?_
  intro tz htz
  subst htz
  refine name_loc F5 ?_
  intro LL hLL
  subst hLL
  refine LCg.CompSrc.range rfl F5 N5 hR (small_one (by omega) (by omega) (by omega) (by omega)) (rangeSize_nat _ _) (by rw [sizeLine_eq]; omega) ?_
  intro g6
  refine comp_inv (fun i ys nw => ∃ tl, nw = (fa, _) :: (Ha, _) :: (_, _) :: (_, _) :: (tl ++ rest) ∧ (∀ p ∈ tl, fa < p.1) ∧ Made ns i ys tl) ⟨[], rfl, (fun _ h => nomatch h), rfl, fun j h => absurd h (by omega)⟩ ?_ ?_
  · rintro i v I oI C oC D m₂ ys nw h tk E' hi7 ⟨t7, rfl⟩ ⟨tl, rfl, htl, hyl, hys⟩ hC hx F7 N7 off ne
    generalize hrr : tl ++ rest = rr at *
    have hi9 : i < ns.length := by omega
    have hrs : ∀ p ∈ rest, p ∈ rr := fun p hp => by rw [← hrr]; exact List.mem_append_right _ hp
    k_steps
    rename IntsAre vs ns => hI
    refine item_anyK (src_list hS1 F7 N7 fun p hp => .tail _ (.tail _ (.tail _ (.tail _ (.tail _ (.tail _ (.tail _ (hrs p hp)))))))) hI (by omega) (by omega) (by omega) ?_
    intro t8
    k_steps
    rename Fr _ _ _ (fun _ => _) => F9
    rename News _ _ _ (_ :: (I, oI) :: _) => N9
    refine name_head N9 ?_
    intro ta hta
    subst hta
    refine LCg.CompEnd.intro F9 N9 (_ :: _ :: _ :: _ :: ((ta, tup (ns.getD i 0) t8 i t7 0) :: rr)) ?s1 ?s2 trivial ⟨(ta, tup (ns.getD i 0) t8 i t7 0) :: tl, by rw [List.cons_append, hrr], ?s4, ?s3⟩
    case s1 =>
      have e1 : (0 + (i : Int)).toNat = i := by omega
      have e2 : (0 + (i : Int)) = i := by omega
      rw [e1, e2]
      intro p hp
      simp only [List.mem_cons] at hp ⊢
      rcases hp with h | h | h | h | h | h | h | h | h <;> (repeat (first | exact h | exact Or.inl h | apply Or.inr))
    case s2 =>
      rename _ ∧ _ ∧ _ ∧ _ ∧ _ ∧ _ ∧ _ ∧ _ => hl9
      exact ⟨off.1, off.2.1, off.2.2.1, off.2.2.2.1, ⟨Nat.ne_of_gt hl9.1, Nat.ne_of_gt hl9.2.1, Nat.ne_of_gt hl9.2.2.1⟩, off.2.2.2.2⟩
    case s4 =>
      rename _ ∧ _ ∧ _ ∧ _ ∧ _ ∧ _ ∧ _ ∧ _ => hl9
      intro p hp
      rcases List.mem_cons.mp hp with h | h
      · rw [h]; exact hl9.2.2.2.1
      · exact htl p h
    case s3 =>
      refine ⟨by simp [hyl], fun j hj => ?_⟩
      by_cases e : j < i
      · have e2 : (ys ++ [Value.ref ta]).getD j .none = ys.getD j .none := by
          rw [List.getD_eq_getElem?_getD, List.getD_eq_getElem?_getD, List.getElem?_append_left (by omega)]
        rw [e2]
        exact (hys j e).mono fun p hp => .tail _ hp
      · have e2 : j = i := by omega
        subst e2
        have e3 : (ys ++ [Value.ref ta]).getD j .none = Value.ref ta := by
          rw [List.getD_eq_getElem?_getD, List.getElem?_append_right (by omega), hyl]
          simp
        rw [e3]
        exact ⟨ta, t8, t7, 0, rfl, .head _⟩
  · rintro ys nw ⟨tl, rfl, htl, hyl, hys⟩
    generalize hrr : tl ++ rest = rr at *
    have hrs : ∀ p ∈ rest, p ∈ rr := fun p hp => by rw [← hrr]; exact List.mem_append_right _ hp
    have htr : ∀ p ∈ tl, p ∈ rr := fun p hp => by rw [← hrr]; exact List.mem_append_left _ hp
    have hyl' : ys.length = ns.length := by omega
    k_steps
    refine Stop.go ?_
    rename Fr _ _ _ (fun _ => _) => F8
    rename News _ _ _ ((_, LCg.lst ys) :: _) => N8
    have hK : ∀ j, j < ns.length → PairIn tl (ys.getD j .none) (keyOf tl (ys.getD j .none)) ∧ keyOf tl (ys.getD j .none) = (ns.getD j 0, (j : Int)) := fun j hj => keyOf_is (fun p hp => N8 p (.tail _ (.tail _ (.tail _ (.tail _ (.tail _ (htr p hp))))))) (hys j (by omega))
    have hK2 : ∀ v ∈ ys, PairIn tl v (keyOf tl v) := fun v hv => by
      obtain ⟨j, hj, e⟩ := List.getElem_of_mem hv
      have := (hK j (by omega)).1
      rw [List.getD_eq_getElem?_getD, List.getElem?_eq_getElem hj] at this
      rw [← e]
      exact this
    refine sortedT (K := keyOf tl) F8 N8 (.head _) (fun v hv => (hK2 v hv).mono fun p hp => .tail _ (.tail _ (.tail _ (.tail _ (.tail _ (htr p hp)))))) (by omega) (by omega) ?_
    intro Sa es h9 ws F9 N9 hSa hperm hsort
    k_steps
    refine Stop.go ?_
    rename Ha < fa ∧ _ ∧ _ ∧ AllLt fa rest => hfa4
    have hHa2 := allLt_to hHa
    have hfa5 := allLt_to hfa4.2.2.2
    have hrH : ∀ p ∈ rr, p.1 ≠ Ha := by
      intro p hp
      rw [← hrr] at hp
      rcases List.mem_append.mp hp with h | h
      · exact Nat.ne_of_gt (Nat.lt_trans hfa4.1 (htl p h))
      · exact Nat.ne_of_lt (hHa2 p (.tail _ (.tail _ h)))
    have hrf : ∀ p ∈ rr, p.1 ≠ fa := by
      intro p hp
      rw [← hrr] at hp
      rcases List.mem_append.mp hp with h | h
      · exact Nat.ne_of_gt (htl p h)
      · exact Nat.ne_of_lt (hfa5 p h)
    have hwl : ws.length = ns.length := hperm.length_eq.trans hyl'
    refine lp_list (σ := List Value × Nat × List Value × Nat) (l := Sa) (vs := ws) (nn := es) (fun c => (Ha, listOf c.1.toArray c.2.1) :: (fa, listOf c.2.2.1.toArray c.2.2.2) :: (Sa, listOf ws.toArray es) :: (LL + 1, oN) :: rr) (fun _ => []) [Str.ofString "place"] (fun i c => ∃ F free, LInv (fun a b => ltP (keyOf tl a) (keyOf tl b)) ns.length (c.1, free) F (ws.take i) ∧ IntsAre c.2.2.1 (free.map Int.ofNat)) (List.replicate vs.length Value.none, 0, [Value.int 0 tz], 0) rfl ?k0 F9 (news_sub N9 ?k1) ?k2 ?k3 ?_ ?_
    case k0 => intro i c _; exact .tail _ (.tail _ (.head _))
    case k1 =>
      intro p hp
      simp only [List.mem_cons] at hp ⊢
      rcases hp with h | h | h | h | h <;> (repeat (first | exact h | exact Or.inl h | apply Or.inr))
    case k2 => intro p hp; nomatch hp
    case k3 => exact ⟨[], [0], LInv.start (by omega) (by rw [List.length_replicate]; exact hvn), .cons _ _ .nil⟩
    · rintro i ⟨hv, he, fv, fe⟩ v u h10 tk10 I oI hi10 hvi ⟨FF, free, hInv, hfr⟩ hIn F10 N10
      dsimp only at *
      have hvm : v ∈ ws := List.mem_of_getElem? hvi
      obtain ⟨pa, t1, t2, pe, rfl, hpm⟩ := hK2 v (hperm.mem_iff.mp hvm)
      have hfl : 0 < free.length := hInv.more (by rw [List.length_take]; omega)
      have hfl2 : (free.map Int.ofNat).length = free.length := List.length_map ..
      have hff : free.length ≤ ns.length := by
        have := nd_len (m := List.range ns.length) hInv.nd fun j hj => List.mem_range.mpr (hInv.fr1 j hj).1
        simpa using this
      k_steps
      refine kim_tup (j := 0) (l := [Value.int (keyOf tl (Value.ref pa)).1 t1, Value.int (keyOf tl (Value.ref pa)).2 t2]) N10 (.tail _ (.tail _ (.tail _ (.tail _ (.tail _ (htr _ hpm)))))) rfl rfl (by decide) (by decide) rfl rfl ?_
      k_steps
      have hsp := spot_lt (ix := fun v => (keyOf tl v).1) (x := Value.ref pa) hfl
      rename IntsAre fv _ => hfr
      have hfvl : fv.length = free.length := by rw [hfr.length, hfl2]
      refine pop_at (rest := (I, oI) :: (Ha, listOf hv.toArray he) :: (Sa, listOf ws.toArray es) :: (LL + 1, oN) :: rr) (vs := fv) (n := fe) F10 (news_sub N10 ?k1) ?k2 (spotOf (fun v => (keyOf tl v).1) free (Value.ref pa)) ?k3 (by omega) (by omega) ?_
      case k1 =>
        intro p hp
        simp only [List.mem_cons] at hp ⊢
        rcases hp with h | h | h | h | h | h <;> (repeat (first | exact h | exact Or.inl h | apply Or.inr))
      case k2 =>
        intro p hp
        simp only [List.mem_cons] at hp
        rcases hp with h | h | h | h | h
        · rw [h]; exact (hIn _ (.tail _ (.head _))).symm
        · rw [h]; exact Nat.ne_of_lt hfa4.1
        · rw [h]; exact Nat.ne_of_gt (hSa _ (.tail _ (.head _)))
        · rw [h]; exact Nat.ne_of_lt hfa4.2.2.1
        · exact hrf p h
      case k3 =>
        unfold spotOf
        have h1 := Int.emod_nonneg (keyOf tl (Value.ref pa)).1 (show (free.length : Int) ≠ 0 by omega)
        rw [Int.fmod_eq_emod_of_nonneg _ (by omega), hfl2]
        dsimp only
        omega
      intro h11 F11 N11
      obtain ⟨tp, etp⟩ := ints_at hfr (spotOf (fun v => (keyOf tl v).1) free (Value.ref pa)) (by omega)
      have epl : (free.map Int.ofNat).getD (spotOf (fun v => (keyOf tl v).1) free (Value.ref pa)) 0 = ((free.getD (spotOf (fun v => (keyOf tl v).1) free (Value.ref pa)) 0 : Nat) : Int) := by
        rw [List.getD_eq_getElem?_getD, List.getD_eq_getElem?_getD, List.getElem?_map, List.getElem?_eq_getElem hsp]
        rfl
      rw [etp, epl]
      have hst := hInv.step (ix := fun v => (keyOf tl v).1) (x := Value.ref pa) hfl ?kst
      case kst =>
        intro d hd'
        obtain ⟨j, hj, e⟩ := List.getElem_of_mem hd'
        rw [List.length_take] at hj
        rw [List.getElem_take] at e
        rw [List.pairwise_iff_getElem] at hsort
        have hq := hsort j i (by omega) hi10 (by omega)
        have ei : ws[i] = Value.ref pa := by rw [List.getElem?_eq_getElem hi10] at hvi; exact Option.some.inj hvi
        rw [ei, e] at hq
        exact hq
      unfold layStep at hst
      dsimp only at hst
      have hplm : free.getD (spotOf (fun v => (keyOf tl v).1) free (Value.ref pa)) 0 ∈ free := by
        rw [List.getD_eq_getElem?_getD, List.getElem?_eq_getElem hsp]
        exact List.getElem_mem _
      have hpln := (hInv.fr1 _ hplm).1
      have hfe := ints_erase hfr (spotOf (fun v => (keyOf tl v).1) free (Value.ref pa))
      rw [erase_map] at hfe
      clear etp epl
      generalize free.getD (spotOf (fun v => (keyOf tl v).1) free (Value.ref pa)) 0 = pl at *
      generalize free.eraseIdx (spotOf (fun v => (keyOf tl v).1) free (Value.ref pa)) = free2 at *
      generalize fv.eraseIdx (spotOf (fun v => (keyOf tl v).1) free (Value.ref pa)) = fv2 at *
      have hhl : hv.length = ns.length := hInv.len
      k_steps
      rename Fr _ _ _ (fun _ => _) => F12
      rename News _ _ _ ((fa, _) :: _) => N12
      refine set_at (rest := (I, oI) :: (fa, listOf fv2.toArray (fe + 1)) :: (Sa, listOf ws.toArray es) :: (LL + 1, oN) :: rr) (vs := hv) (n := he) F12 (news_sub N12 ?k1) ?k2 pl rfl (by omega) (by omega) ?_
      case k1 =>
        intro p hp
        simp only [List.mem_cons] at hp ⊢
        rcases hp with h | h | h | h | h | h <;> (repeat (first | exact h | exact Or.inl h | apply Or.inr))
      case k2 =>
        intro p hp
        simp only [List.mem_cons] at hp
        rcases hp with h | h | h | h | h
        · rw [h]; exact (hIn _ (.head _)).symm
        · rw [h]; exact Nat.ne_of_gt hfa4.1
        · rw [h]; exact Nat.ne_of_gt (hSa _ (.tail _ (.tail _ (.head _))))
        · rw [h]; exact Nat.ne_of_lt (hHa2 _ (.tail _ (.head _)))
        · exact hrH p h
      intro h13 F13 N13
      k_steps
      refine Stop.go ?_
      k_dflt (refine tupComp (F₀ := F13) (by with_unfolding_all rfl) (by decide) (by rfl) (by decide) (by rfl) ?_)
      k_steps
      rename Fr _ _ _ (fun _ => _) => F14
      rename News _ _ _ (_ :: (Ha, _) :: _) => N14
      refine name_head N14 ?_
      intro ua hua
      subst hua
      refine ⟨_, _, _, _, rfl, rfl, F14, N14, .head _, rfl, ⟨_, rfl⟩, (by rw [sizeLine_eq]; exact Nat.le_of_ble_eq_true rfl), ?_⟩
      intro g15
      refine compT_inv (fun i ys => IntsAre ys ((([2 * pl + 1, 2 * pl + 2].take i).filter (fun k => decide (k < ns.length))).map Int.ofNat)) .nil ?_ ?_
      · rintro j v I2 oI2 C oC D m₂ ys h tk E' hj hv15 hys15 hC hx F15 N15 off ne
        obtain ⟨tv, rfl⟩ : ∃ t, v = .int ((2 * pl + 1 + j : Nat) : Int) t := by
          have hj2 : j < 2 := hj
          rcases (show j = 0 ∨ j = 1 by omega) with rfl | rfl
          · exact ⟨_, by simpa using hv15.symm⟩
          · rw [show ((2 * pl + 1 + 1 : Nat) : Int) = 2 * (pl : Int) + 2 by omega]
            exact ⟨_, by simpa using hv15.symm⟩
        k_steps
        refine len_is (src_list hS1 F15 N15 fun p hp => .tail _ (.tail _ (.tail _ (.tail _ (.tail _ (.tail _ (.tail _ (.tail _ (.tail _ (hrs p hp)))))))))) (by omega) ?_
        intro t16 tk16
        k_steps
        · refine LCg.CompEnd.intro F15 N15 _ (fun p hp => hp) off (.head _) ⟨rfl, ?_⟩
          rw [below_step _ _ _ hj, if_pos (by omega), List.map_append]
          exact ints_app hys15 (.cons _ _ .nil)
        · refine LCg.CompEnd.intro F15 N15 _ (fun p hp => hp) off (.head _) ⟨rfl, ?_⟩
          rw [below_step _ _ _ hj, if_neg (by omega), List.append_nil]
          exact hys15
      · intro ys hys15
        k_steps
        rename Fr _ _ _ (fun _ => _) => F17
        rename News _ _ _ ((_, LCg.lst ys) :: _) => N17
        refine name_head N17 ?_
        intro da hda
        subst hda
        rename _ ∧ _ ∧ _ ∧ fa ≠ da ∧ _ => ho17
        rename Ha < ua ∧ _ => hu17
        have hysl : ys.length ≤ 2 := by
          rw [hys15.length, List.length_map]
          exact Nat.le_trans (List.length_filter_le ..) (by simp)
        have hfv2 : fv2.length ≤ 1000 := by
          rw [hfe.length, List.length_map]
          have := nd_len (m := List.range ns.length) (l := free2) ?q1 ?q2
          · rw [List.length_range] at this; omega
          case q1 =>
            obtain ⟨F', I'⟩ := hst
            exact (List.nodup_append.mp I'.nd).1
          case q2 =>
            obtain ⟨F', I'⟩ := hst
            exact fun j hj => List.mem_range.mpr (I'.fr1 j (List.mem_append_left _ hj)).1
        refine ext_at (us := ys) (n2 := _) (vs := fv2) (n := fe + 1) (rest := (da, LCg.lst ys) :: (I, oI) :: (Ha, listOf (hv.set pl (Value.ref pa)).toArray he) :: (Sa, listOf ws.toArray es) :: (LL + 1, oN) :: rr) F17 (news_sub N17 ?k1) (.head _) ?k2 hfv2 (by omega) ?_
        case k1 =>
          intro p hp
          simp only [List.mem_cons] at hp ⊢
          rcases hp with h | h | h | h | h | h | h <;> (repeat (first | exact h | exact Or.inl h | apply Or.inr))
        case k2 =>
          intro p hp
          simp only [List.mem_cons] at hp
          rcases hp with h | h | h | h | h | h
          · rw [h]; exact (ho17.2.2.2.1).symm
          · rw [h]; exact (hIn _ (.tail _ (.head _))).symm
          · rw [h]; exact Nat.ne_of_lt hfa4.1
          · rw [h]; exact Nat.ne_of_gt (hSa _ (.tail _ (.head _)))
          · rw [h]; exact Nat.ne_of_lt hfa4.2.2.1
          · exact hrf p h
        intro h18 n18 F18 N18
        k_steps
        refine lp_next ?_
        refine lp_end (hv.set pl (Value.ref pa), he, fv2 ++ ys, n18) F18 N18 (.tail _ (.tail _ (.head _))) ?e1 ?e2 ?e3 ?e4 ?e5
        case e1 =>
          intro p hp
          simp only [List.mem_cons] at hp ⊢
          rcases hp with h | h | h | h | h <;> (repeat (first | exact h | exact Or.inl h | apply Or.inr))
        case e2 =>
          intro p hp
          simp only [List.mem_cons] at hp
          rcases hp with h | h | h | h | h
          · rw [h]; exact hIn (_, listOf hv.toArray he) (.head _)
          · rw [h]; exact hIn (_, listOf fv.toArray fe) (.tail _ (.head _))
          · rw [h]; exact hIn _ (.tail _ (.tail _ (.head _)))
          · rw [h]; exact hIn _ (.tail _ (.tail _ (.tail _ (.head _))))
          · exact hIn _ (.tail _ (.tail _ (.tail _ (.tail _ h))))
        case e3 => intro p hp; nomatch hp
        case e4 =>
          intro z hz h2 h3
          have h3' := h3
          simp only [List.contains_cons, List.contains_nil, Bool.or_false, beq_eq_false_iff_ne, ne_eq] at h3'
          simp only [kstB, h3, h3', hz, if_false, Bool.false_eq_true]
        case e5 =>
          obtain ⟨F', I'⟩ := hst
          have et : ws.take (i + 1) = ws.take i ++ [Value.ref pa] := by rw [List.take_add_one, hvi]; rfl
          refine ⟨F', free2 ++ below ns.length pl, ?_, ?_⟩
          · dsimp only
            rw [et]
            exact I'
          · dsimp only
            rw [List.map_append]
            exact ints_app hfe hys15
    · rintro ⟨hv, he, fv, fe⟩ u h19 tk19 ⟨FF, free, hInv, hfr⟩ F19 N19
      dsimp only at *
      k_steps
      rename Fr h₀ L _ m => F20
      rename News h₀ L _ ((Ha, listOf hv.toArray he) :: _) => N20
      rw [List.take_length] at hInv
      obtain ⟨hp1, hp2⟩ := hInv.fin hwl
      have hpy : hv.Perm ys := hp1.trans hperm
      have hkey : ∀ v ∈ ys, ∃ j, j < ns.length ∧ v = ys.getD j .none ∧ keyOf tl v = (ns.getD j 0, (j : Int)) := fun v hv => by
        obtain ⟨j, hj, e⟩ := List.getElem_of_mem hv
        have e2 : v = ys.getD j .none := by rw [List.getD_eq_getElem?_getD, List.getElem?_eq_getElem hj]; exact e.symm
        exact ⟨j, by omega, e2, by rw [e2]; exact (hK j (by omega)).2⟩
      refine hret _ _ Ha hv he tl (keyOf tl) F20 (news_sub N20 ?z1) (by rw [hrr]; exact hrH) (fun p hp q hq => Nat.ne_of_lt (Nat.lt_trans (hfa5 q hq) (htl p hp))) ⟨hInv.len, ?z2, ?z3, ?z4, ?z5, hp2⟩
      case z1 =>
        rw [hrr]
        intro p hp
        rcases List.mem_cons.mp hp with h | h
        · rw [h]; exact .head _
        · exact .tail _ (.tail _ (.tail _ (.tail _ h)))
      case z2 => exact fun v hv => hK2 v (hpy.mem_iff.mp hv)
      case z3 =>
        intro v hv
        obtain ⟨j, hj, _, e⟩ := hkey v (hpy.mem_iff.mp hv)
        rw [e]
        dsimp only
        omega
      case z4 =>
        intro v hv u hu e
        obtain ⟨j, hj, e1, e2⟩ := hkey v (hpy.mem_iff.mp hv)
        obtain ⟨j', hj', e1', e2'⟩ := hkey u (hpy.mem_iff.mp hu)
        rw [e2, e2'] at e
        have := congrArg Prod.snd e
        dsimp only at this
        have : j = j' := by omega
        rw [e1, e1', this]
      case z5 =>
        refine hpy.nodup_iff.mpr ?_
        rw [List.nodup_iff_pairwise_ne, List.pairwise_iff_getElem]
        intro j j' hj hj' hlt e
        have h1 := (hK j (by omega)).2
        have h2 := (hK j' (by omega)).2
        rw [List.getD_eq_getElem?_getD, List.getElem?_eq_getElem hj] at h1
        rw [List.getD_eq_getElem?_getD, List.getElem?_eq_getElem hj'] at h2
        dsimp only [Option.getD] at h1 h2
        rw [e] at h1
        have := congrArg Prod.snd (h1.symm.trans h2)
        dsimp only at this
        omega
end Mine
namespace Mine
open SeqAt

theorem ltP_tri {a b : Int × Int} (h : a ≠ b) : ltP a b = true ∨ ltP b a = true := by
  unfold ltP
  obtain ⟨a1, a2⟩ := a
  obtain ⟨b1, b2⟩ := b
  have : ¬ (a1 = b1 ∧ a2 = b2) := fun ⟨h1, h2⟩ => h (by rw [h1, h2])
  simp only [decide_eq_true_eq]
  omega

theorem pairs_eq {A : Around} {s : Shared} {led : List (Addr × Obj)} {y x : Value} {ky kx : Int × Int} (hy : PairIn led y ky) (hx : PairIn led x kx) (hn : ∀ p ∈ led, s.heap.get? p.1 = some p.2) (hs : y = x → ky = kx) (hu : A.units < cLine) : EqAt A s y x (ky == kx) := by
  by_cases e : y = x
  · rw [hs e, e, beq_self_eq_true]
    exact EqAt.same x
  · obtain ⟨a, t, u, n, rfl, m1⟩ := hy
    obtain ⟨a', t', u', n', rfl, m2⟩ := hx
    have hne : a ≠ a' := fun q => e (by rw [q])
    have := RcAt.tuples (A := A) (s := s) (l := a) (b := a') (items := #[.int ky.1 t, .int ky.2 u]) (items2 := #[.int kx.1 t', .int kx.2 u']) (e := fun j => if j = 0 then ky.1 == kx.1 else ky.2 == kx.2) ⟨_, hn _ m1, rfl, _, rfl⟩ ⟨_, hn _ m2, rfl, _, rfl⟩ hu ?_
    · have e2 : ((List.range (min (#[Value.int ky.1 t, .int ky.2 u] : Array Value).size (#[Value.int kx.1 t', .int kx.2 u'] : Array Value).size)).all (fun j => if j = 0 then ky.1 == kx.1 else ky.2 == kx.2) && (#[Value.int ky.1 t, .int ky.2 u] : Array Value).size == (#[Value.int kx.1 t', .int kx.2 u'] : Array Value).size) = (ky == kx) := by
        obtain ⟨k1, k2⟩ := ky
        obtain ⟨l1, l2⟩ := kx
        show ((List.range 2).all _ && _) = ((k1 == l1) && (k2 == l2))
        simp [List.range_succ]
      rw [e2] at this
      exact EqAt.of_refs hne this
    · intro j h1 h2
      have h1' : j < 2 := h1
      rcases (show j = 0 ∨ j = 1 by omega) with rfl | rfl
      · exact (MeetsSeq.EqGives.int _ _ _ _).at _ _
      · exact (MeetsSeq.EqGives.int _ _ _ _).at _ _

section
variable {prog : Program} {w : World} {A : Around} {E : Value → Shared → Prop} {s : Shared} {h₀ : Heap} {L D : Addr} {m : Str → Option Value} {news : List (Addr × Obj)} {vs : List Value} {n : Nat} {x : Value} {K : Value → Int × Int}

theorem index_at {Q : Value → Shared → Prop} (N : News h₀ L s.heap news) (hm : (D, listOf vs.toArray n) ∈ news) (hp : ∀ v ∈ x :: vs, PairIn news v (K v)) (hinj : ∀ v ∈ vs, K v = K x → v = x) (nd : vs.Nodup) (q : Nat) (hq : q < vs.length) (hqx : vs.getD q default = x) (hl : vs.length ≤ 1000) (hu : A.units + 10 < cLine)
    (h : ∀ t tk, Q (.int (q : Int) t) { s with toks := tk }) : wpAny (model prog w) A (call (.builtin "list.index") [.ref D, x]) Q E s := by
  have hg : ∀ j (hj : j < vs.length), vs.getD j default = vs[j] := fun j hj => by
    rw [List.getD_eq_getElem?_getD, List.getElem?_eq_getElem hj]; rfl
  refine call_meets PySem.F.slot_list_index ⟨_, (N _ hm).1, rfl⟩ PySem.F.entry_list_index (PySem.F.args_list_index_2 _ _)
    (list_indexAt D vs.toArray n none #[] x (fun y => K y == K x) q (by simpa using hq) (by omega) ?_ ?_) ⟨(N _ hm).1, ?_, h _ _⟩
  · have := hg q hq
    rw [hqx] at this
    simp [← this]
  · intro j hj hjq
    have hj' : j < vs.length := by simpa using hj
    rw [beq_eq_false_iff_ne]
    intro e
    have e1 := hinj _ (by simpa using List.getElem_mem hj') e
    have e2 := hg q hq
    rw [hqx, ← e1] at e2
    have e3 : vs[j] = vs[q] := e2
    have := nd_inj nd hj' hq e3
    omega
  · intro y hy
    refine pairs_eq (hp y (List.mem_cons_of_mem _ (by simpa using hy))) (hp x (.head _)) (fun p hp => (N p hp).1) (fun e => by rw [e]) ?_
    show A.units + 1 < cLine
    omega

theorem pairs_dat : ∀ {vs : List Value}, (∀ v ∈ vs, PairIn news v (K v)) → DatAll news vs (vs.map fun v => Dat.tuple [Dat.int (K v).1, Dat.int (K v).2])
  | [], _ => .nil
  | v :: r, h => .cons (by
      obtain ⟨a, t, u, e, hv, hm⟩ := h v (.head _)
      rw [hv] at hm ⊢
      exact .tuple (vs := [.int _ t, .int _ u]) hm (.cons (.int _ _) (.cons (.int _ _) .nil))) (pairs_dat fun x hx => h x (.tail _ hx))

theorem ne_same {a b : Addr} {k1 k2 : Nat} {Q : Value → Shared → Prop} (N : News h₀ L s.heap news) (ma : (a, listOf vs.toArray k1) ∈ news) (mb : (b, listOf vs.toArray k2) ∈ news) (hp : ∀ v ∈ vs, PairIn news v (K v)) (hu : A.units + 64 < cLine) (h : Q (.bool false) s) :
    wpAny (model prog w) A (compareOp .NotEq (.ref a) (.ref b)) Q E s := by
  have hok : ∀ d ∈ (vs.map fun v => Dat.tuple [Dat.int (K v).1, Dat.int (K v).2]), kqdOk 8 d = true := by
    intro d hd
    obtain ⟨v, _, rfl⟩ := List.mem_map.mp hd
    rfl
  refine kqd_ne N ma rfl rfl (pairs_dat hp) (fun _ h => h) mb rfl rfl (pairs_dat hp) (fun _ h => h) hok hok hu ?_
  simpa using h

theorem pop_last {y : Value} {rest : List (Addr × Obj)} {Q : Value → Shared → Prop} (F : Fr h₀ L s.heap m) (N : News h₀ L s.heap ((D, listOf (vs ++ [y]).toArray n) :: rest)) (hne : ∀ p ∈ rest, p.1 ≠ D) (hl : vs.length ≤ 1000)
    (h : ∀ h', Fr h₀ L h' m → News h₀ L h' ((D, listOf vs.toArray (n + 1)) :: rest) → Q y { s with heap := h' }) :
    wpAny (model prog w) A (call (.builtin "list.pop") [.ref D]) Q E s := by
  have e : ∀ vs : List Value, kl_last (vs ++ [y]) = some (vs, y) := by
    intro vs
    induction vs with
    | nil => rfl
    | cons a r ih =>
      cases r with
      | nil => rfl
      | cons b r => 
        simp only [List.cons_append] at ih ⊢
        unfold kl_last
        rw [ih]
  exact kl_pop F N (e vs) (.head hne) (by rw [sizeLine_eq]; simp; omega) fun h' F' N' => h h' F' N'
end

/-- the order of the heap with a new pair -/
theorem new_pair {h₀ h : Heap} {L : Addr} {ns : List Int} {tl : List (Addr × Obj)} {K : Value → Int × Int} {hv : List Value} {na : Addr} {nx ny : Int} {t1 t2 : Tok} {ne : Nat} (N : News h₀ L h ((na, tup nx t1 ny t2 ne) :: tl)) (hH : HeapOf ns tl K hv) (hny : ny < 0 ∨ (ns.length : Int) ≤ ny) :
    ∃ K' : Value → Int × Int, (∀ v ∈ Value.ref na :: hv, PairIn ((na, tup nx t1 ny t2 ne) :: tl) v (K' v)) ∧ (∀ v ∈ Value.ref na :: hv, ∀ u ∈ Value.ref na :: hv, K' v = K' u → v = u) ∧ Unlike (fun a b => ltP (K' a) (K' b)) (Value.ref na) hv ∧ Heap' (fun a b => ltP (K' a) (K' b)) hv := by
  have hy := keyOf_is N (v := .ref na) (k := (nx, ny)) ⟨na, t1, t2, ne, rfl, .head _⟩
  have hv1 : ∀ v ∈ hv, PairIn ((na, tup nx t1 ny t2 ne) :: tl) v (keyOf ((na, tup nx t1 ny t2 ne) :: tl) v) ∧ keyOf ((na, tup nx t1 ny t2 ne) :: tl) v = K v :=
    fun v hv => keyOf_is N ((hH.pairs v hv).mono fun p hp => .tail _ hp)
  have hinj : ∀ v ∈ Value.ref na :: hv, ∀ u ∈ Value.ref na :: hv, keyOf ((na, tup nx t1 ny t2 ne) :: tl) v = keyOf ((na, tup nx t1 ny t2 ne) :: tl) u → v = u := by
    intro v hv u hu e
    rcases List.mem_cons.mp hv with h1 | h1 <;> rcases List.mem_cons.mp hu with h2 | h2
    · rw [h1, h2]
    · rw [h1, hy.2, (hv1 u h2).2] at e
      have := hH.rng u h2
      rw [← e] at this
      dsimp only at this
      omega
    · rw [h2, hy.2, (hv1 v h1).2] at e
      have := hH.rng v h1
      rw [e] at this
      dsimp only at this
      omega
    · rw [(hv1 v h1).2, (hv1 u h2).2] at e
      exact hH.inj v h1 u h2 e
  refine ⟨keyOf ((na, tup nx t1 ny t2 ne) :: tl), ?_, hinj, ⟨hH.nd, ?_, ?_⟩, ?_⟩
  · intro v hv
    rcases List.mem_cons.mp hv with h1 | h1
    · rw [h1]; exact hy.1
    · exact (hv1 v h1).1
  · intro hm
    have := hH.rng _ hm
    rw [← (hv1 _ hm).2, hy.2] at this
    dsimp only at this
    omega
  · intro a ha b hb hab
    exact ltP_tri fun e => hab (hinj a ha b hb e)
  · intro k h0 hk
    have := hH.heap k h0 hk
    unfold Edge at this ⊢
    dsimp only at this ⊢
    rw [(hv1 _ (it_mem hk)).2, (hv1 _ (it_mem (show (k - 1) / 2 < hv.length by omega))).2]
    exact this
end Mine
namespace Mine
def defBody (p : Program) (i : Nat) : List Stmt := match p.main.body.drop i with | .FunctionDef _ _ b _ _ _ _ _ _ _ :: _ => b | _ => []
def defScope (p : Program) (i : Nat) : Scope := match p.main.body.drop i with | .FunctionDef _ _ _ _ _ _ sc _ _ _ :: _ => sc | _ => default
def forBody (l : List Stmt) : List Stmt := match l with | .For _ _ b _ _ :: _ => b | _ => []
local macro_rules | `(tactic| walk_at "zz") => `(tactic| fail)
local macro_rules | `(tactic| walk_at "call ref") => `(tactic| refine Stop.out ?_)
local macro_rules | `(tactic| walk_at "pyIter ref") => `(tactic| refine Stop.out ?_)
local macro_rules | `(tactic| walk_at "CompSrcT") => `(tactic| refine Stop.out ?_)
local macro_rules | `(tactic| walk_at "CompSrc") => `(tactic| refine Stop.out ?_)
local macro_rules | `(tactic| walk_at "eval ListComp") => `(tactic| refine Stop.out ?_)
local macro_rules | `(tactic| walk_at "compareOp NotEq ref ref") => `(tactic| refine Stop.out ?_)
local macro_rules | `(tactic| walk_at "call type:list") => `(tactic| refine Stop.out ?_)

theorem part_n (w : World) (mean : ExcName → Option Value) (mg mb : Str → Option Value) (h₀ : Heap) (L fa : Addr) (cd : Value) (base : Heap) (rr tl : List (Addr × Obj)) (s : Shared) (u : Str → Option Value)
    (na : Addr) (nx ny : Int) (t1 t2 : Tok) (ne : Nat) (I : Addr) (oI c : Obj) (cx : Option Value) (Ha : Addr) (hv : List Value) (e : Nat) (K : Value → Int × Int) (ns : List Int) (i : Nat) (ti : Tok) (Q : Flow → Shared → Prop)
    (B : Below callerA base [] h₀) (X : (Mine.hd01.heap_39 w.params).In h₀) (T : Top Mine.hd01.view_39 (looseW Mine.hd01.view_39 []) mean mg mb h₀)
    (F : Fr h₀ L s.heap (fun y => if y = Str.ofString "new" then some (.ref na) else if y = Str.ofString "place" then some (.int (i : Int) ti) else if y = Str.ofString "heap" then some (.ref Ha) else u y))
    (N : News h₀ L s.heap ((na, tup nx t1 ny t2 ne) :: (I, oI) :: (L + 1, c) :: (Ha, listOf hv.toArray e) :: rr)) (hc : c.data = .cell cx)
    (hnn : ∀ p ∈ (I, oI) :: (L + 1, c) :: (Ha, listOf hv.toArray e) :: rr, p.1 < na) (hrc : ∀ p ∈ (I, oI) :: (Ha, listOf hv.toArray e) :: rr, p.1 ≠ L + 1)
    (htl : ∀ p ∈ tl, p ∈ rr) (hH : HeapOf ns tl K hv) (hi : i < ns.length) (hl1 : 5 ≤ ns.length) (hl2 : ns.length < 70) (hny : ny < 0 ∨ (ns.length : Int) ≤ ny)
    (hret : ∀ h' tk' m' c', Fr h₀ L h' m' → News h₀ L h' ((I, oI) :: (L + 1, c') :: (Ha, listOf hv.toArray e) :: rr) → (∃ x, c'.data = .cell x) → (∀ z, z ≠ Str.ofString "last" → z ≠ Str.ofString "spot" → m' z = (if z = Str.ofString "new" then some (.ref na) else if z = Str.ofString "place" then some (.int (i : Int) ti) else if z = Str.ofString "heap" then some (.ref Ha) else u z)) → Q .next { s with heap := h', toks := tk' }) :
    wpAny (model PySem.Challenge.rw_dp0035_01.row.prog w) (callerA.deeper (envOfC (Str.ofString "law") (defScope PySem.Challenge.pw_dp0035_01 7) L fa cd))
      (execs ((forBody ((defBody PySem.Challenge.pw_dp0035_01 7).drop 2)).drop 1) (envOfC (Str.ofString "law") (defScope PySem.Challenge.pw_dp0035_01 7) L fa cd)) Q (fun _ _ => False) s := by
  have hfill : PySem.Challenge.rw_dp0035_01 = PySem.Challenge.rw_dp0035_01 ∧ Mine.hd01.heap_39 = Mine.hd01.heap_39 := by
    k_fill
    exact ⟨rfl, rfl⟩
  clear hfill
  w_top off
  k_with_none
  conv in (List.drop 1 _) => whnf
  conv in (occs := *) (defScope _ _) => all_goals whnf
  have hhl := hH.len
  k_steps
  refine Stop.go ?_
  refine kup_listOf F N (.tail _ (.tail _ (.tail _ (.head _)))) (zs := hv) (by simp) ?_ (by rw [sizeLine_eq]; simp; omega)
  intro Ra er h2 F2 N2 hRa
  k_steps
  k_dflt (refine storeX_C (c := L + 1) (g := fun o' => (L + 1, o') :: (Ra, listOf hv.toArray er) :: (na, tup nx t1 ny t2 ne) :: (I, oI) :: (Ha, listOf hv.toArray e) :: rr) F2 (news_sub N2 ?k1) rfl (UpdF.head ?k2) hc ?_)
  case k1 =>
    intro p hp
    simp only [List.mem_cons] at hp ⊢
    rcases hp with h | h | h | h | h | h <;> (repeat (first | exact h | exact Or.inl h | apply Or.inr))
  case k2 =>
    intro p hp
    simp only [List.mem_cons] at hp
    rcases hp with h | h | h | h | h
    · rw [h]; exact Nat.ne_of_gt (hRa (L + 1, c) (.tail _ (.tail _ (.head _))))
    · rw [h]; exact Nat.ne_of_gt (hnn (L + 1, c) (.tail _ (.head _)))
    · rw [h]; exact hrc _ (.head _)
    · rw [h]; exact hrc _ (.tail _ (.head _))
    · exact hrc _ (.tail _ (.tail _ h))
  intro h3 c3 F3 N3 hc3
  k_steps
  refine Stop.go ?_
  obtain ⟨K', hp, hinj, hU, hHp⟩ := new_pair (h₀ := h₀) (L := L) (h := s.heap) (news_sub N (fun p hp => by
    rcases List.mem_cons.mp hp with h | h
    · rw [h]; exact .head _
    · exact .tail _ (.tail _ (.tail _ (.tail _ (htl p h)))))) hH hny
  have o : LO (fun a b => ltP (K' a) (K' b)) := lo_ltP.comap K'
  have hRc : Ra ≠ L + 1 := Nat.ne_of_gt (hRa (L + 1, c) (.tail _ (.tail _ (.head _))))
  have hlt1 : ∀ (cc : Obj) (us : List Value), (∀ v ∈ us, v ∈ Value.ref na :: hv) → LtOk PySem.Challenge.rw_dp0035_01.row.prog w ((na, tup nx t1 ny t2 ne) :: (L + 1, cc) :: (I, oI) :: (Ha, listOf hv.toArray e) :: rr) (fun a b => ltP (K' a) (K' b)) us := fun cc us hus => ltOk_pairs fun v hv' => (hp v (hus v hv')).mono fun p hp => by
    rcases List.mem_cons.mp hp with h | h
    · rw [h]; exact .head _
    · exact .tail _ (.tail _ (.tail _ (.tail _ (htl p h))))
  have hneR : ∀ cc : Obj, ∀ p ∈ (na, tup nx t1 ny t2 ne) :: (L + 1, cc) :: (I, oI) :: (Ha, listOf hv.toArray e) :: rr, p.1 ≠ Ra := by
    intro cc p hp
    simp only [List.mem_cons] at hp
    rcases hp with h | h | h | h | h
    · rw [h]; exact Nat.ne_of_lt (hRa _ (.head _))
    · rw [h]; exact Ne.symm hRc
    · rw [h]; exact Nat.ne_of_lt (hRa _ (.tail _ (.head _)))
    · rw [h]; exact Nat.ne_of_lt (hRa _ (.tail _ (.tail _ (.tail _ (.head _)))))
    · exact Nat.ne_of_lt (hRa _ (.tail _ (.tail _ (.tail _ (.tail _ h)))))
  generalize hlt : (fun a b => ltP (K' a) (K' b)) = lt at *
  have hi' : i < hv.length := by omega
  obtain ⟨us1, us2, us3⟩ := hU.set hi'
  have hsu : ∀ (us : List Value) (p : Nat) (x : Value), p < us.length → (∀ y ∈ su lt (us.set p x) p, y ∈ x :: us) := by
    intro us p x hp y hy
    have := (su_perm (by rw [List.length_set]; exact hp)).mem_iff.mp hy
    rcases List.mem_or_eq_of_mem_set this with h | h
    · exact .tail _ h
    · rw [h]; exact .head _
  refine lay_call w mean mg mb _ _ _ _ _ _ _ _ _ _ _ _ _ _ ((na, tup nx t1 ny t2 ne) :: (L + 1, c3) :: (I, oI) :: (Ha, listOf hv.toArray e) :: rr) _ lt Ra hv er i ti (.ref na) _ _ B F3 X (news_sub N3 ?k1) T rfl (by decide) (by decide) (hneR c3) hi' (by omega) (hlt1 c3 _ fun v hv => hv) (hsu _ _ _ hi') ?_
  case k1 =>
    intro p hp
    simp only [List.mem_cons] at hp ⊢
    rcases hp with h | h | h | h | h | h <;> (repeat (first | exact h | exact Or.inl h | apply Or.inr))
  intro h4 tk4 F4 N4
  have hRp := lay_perm (lt := lt) (x := Value.ref na) hi'
  have hRh := lay_heap o (x := Value.ref na) hi' hHp
  have hRl := lay_length lt hv i (Value.ref na)
  obtain ⟨q, hq1, hq2, hq3⟩ := lay_back o hU hHp hi'
  generalize lay lt hv i (Value.ref na) = R at *
  have hRm : ∀ v ∈ R, v ∈ Value.ref na :: hv := fun v hv => us2 v (hRp.mem_iff.mp hv)
  have hRn : R.Nodup := hRp.nodup_iff.mpr us1
  k_steps
  refine Stop.go ?_
  k_dflt (refine LCt.ListComp_T (F₀ := F4) (by with_unfolding_all rfl) (by decide) (by rfl) (by decide) (by rfl) ?_)
  k_steps
  refine len_at N4 (.head _) (by omega) ?_
  intro t5 tk5
  k_steps
  refine Stop.go ?_
  rename IsRange _ _ _ _ _ _ _ _ => hR
  rename Fr _ _ _ (fun _ => _) => F6
  rename News _ _ _ ((Ra, listOf R.toArray er) :: _) => N6
  refine LCt.CompSrcT.range (n := R.length - 1) rfl F6 N6 hR (small_one (by omega) (by omega) (by omega) (by omega)) (by rw [rangeSize_nat]; omega) (by rw [sizeLine_eq]; omega) ?_
  intro g6
  refine compT_inv (fun _ ys => ys = []) rfl ?_ ?_
  · intro k v I7 oI7 C7 oC7 D7 m7 ys h7 tk7 E7 hk7 hv7 hys hC7 hx7 F7 N7 off7 ne7
    obtain ⟨t7, rfl⟩ := hv7
    subst hys
    k_steps
    have hm7 : (Ra, listOf R.toArray er) ∈ (I7, oI7) :: (C7, oC7) :: (D7, LCg.lst []) :: (Ra, listOf R.toArray er) :: (na, tup nx t1 ny t2 ne) :: (L + 1, c3) :: (I, oI) :: (Ha, listOf hv.toArray e) :: rr := .tail _ (.tail _ (.tail _ (.head _)))
    refine item_at N7 hm7 (1 + k) (by omega) (by omega) (by omega) ?_
    k_steps
    refine item_at N7 hm7 (k / 2) ?kq (by omega) (by omega) ?_
    case kq => rw [Int.fdiv_eq_ediv_of_nonneg _ (by decide)]; omega
    k_steps
    refine hlt1 c3 R hRm _ (getD_mem (by omega)) _ (getD_mem (by omega)) _ _ _ _ rfl (Nat.le_of_ble_eq_true rfl) (fun q hq => (N7 q (.tail _ (.tail _ (.tail _ (.tail _ hq))))).1) ?_
    intro tk8
    have hno := hRh (1 + k) (by omega) (by omega)
    unfold Edge it at hno
    rw [show (1 + k - 1) / 2 = k / 2 by omega] at hno
    rw [hno]
    k_steps
    exact LCg.CompEnd.intro F7 N7 _ (fun p hp => hp) off7 trivial ⟨rfl, rfl⟩
  · intro ys hys
    subst hys
    k_steps
    refine Stop.go ?_
    rename News _ _ _ (_ :: _ :: (Ra, listOf R.toArray er) :: _) => N8
    refine ne_same (vs := []) (K := K') N8 (.tail _ (.head _)) (.head _) (fun _ h => nomatch h) (Nat.le_of_ble_eq_true rfl) ?_
    k_steps
    rename Fr _ _ _ (fun _ => _) => F8
    rename News _ _ _ (_ :: _ :: (Ra, listOf R.toArray er) :: _) => N8
    have hpR : ∀ v ∈ Value.ref na :: hv, PairIn ((na, tup nx t1 ny t2 ne) :: (L + 1, c3) :: (I, oI) :: (Ha, listOf hv.toArray e) :: rr) v (K' v) := fun v hv' => (hp v hv').mono fun p hp => by
      rcases List.mem_cons.mp hp with h | h
      · rw [h]; exact .head _
      · exact .tail _ (.tail _ (.tail _ (.tail _ (htl p h))))
    refine index_at (vs := R) (n := er) (K := K') N8 (.tail _ (.tail _ (.head _))) (fun v hv' => (hpR v ?kx).mono fun p hp => .tail _ (.tail _ (.tail _ hp))) (fun v hv' e' => hinj v (hRm v hv') _ (.head _) e') hRn q (by omega) hq2 (by omega) (Nat.le_of_ble_eq_true rfl) ?_
    case kx =>
      rcases List.mem_cons.mp hv' with h | h
      · rw [h]; exact .head _
      · exact hRm v h
    intro t9 tk9
    k_steps
    refine item_at N8 (.tail _ (.tail _ (.tail _ (.tail _ (.tail _ (.tail _ (.head _))))))) i rfl (by omega) (by omega) ?_
    k_steps
    refine Stop.go ?_
    have hiv : hv.getD i default ∈ hv := getD_mem hi'
    have hR2 : ∀ v ∈ hv.getD i default :: R, v ∈ Value.ref na :: hv := fun v hv' => by
      rcases List.mem_cons.mp hv' with h | h
      · rw [h]; exact .tail _ hiv
      · exact hRm v h
    refine lay_call w mean mg mb _ _ _ _ _ _ _ _ _ _ _ _ _ _ ((na, tup nx t1 ny t2 ne) :: (L + 1, c3) :: (I, oI) :: (Ha, listOf hv.toArray e) :: rr) _ lt Ra R er q _ (hv.getD i default) _ _ B F8 X (news_sub N8 ?k1) T rfl (by decide) (by decide) (hneR c3) (by omega) (by omega) (hlt1 c3 _ hR2) (hsu _ _ _ (by omega)) ?_
    case k1 => exact fun p hp => .tail _ (.tail _ hp)
    intro h10 tk10 F10 N10
    replace hq3 : lay lt R q (hv.getD i default) = hv := hq3
    rw [hq3] at N10
    k_steps
    refine Stop.go ?_
    refine ne_same (vs := hv) (K := K') N10 (.head _) (.tail _ (.tail _ (.tail _ (.tail _ (.head _))))) (fun v hv' => (hpR v (.tail _ hv')).mono fun p hp => .tail _ hp) (Nat.le_of_ble_eq_true rfl) ?_
    k_steps
    refine Stop.go ?_
    refine hp_call w mean mg mb _ _ _ _ _ _ _ _ _ _ _ _ _ _ ((na, tup nx t1 ny t2 ne) :: (L + 1, c3) :: (I, oI) :: (Ha, listOf hv.toArray e) :: rr) _ lt Ra hv er (.ref na) _ _ B F10 X N10 T rfl (by decide) (by decide) (hneR c3) (by omega) (hlt1 c3 _ ?kx) ?_
    case kx =>
      intro v hv'
      rcases List.mem_append.mp hv' with h | h
      · exact .tail _ h
      · rw [List.mem_singleton.mp h]; exact .head _
    intro h11 tk11 F11 N11
    have hPm : (hpush lt hv (Value.ref na)).Perm (Value.ref na :: hv) := by classical exact hpush_perm
    have hPn := hPm.nodup_iff.mpr (List.nodup_cons.mpr ⟨hU.ny, hU.nd⟩)
    rcases push_back o hU hHp with hb | ⟨r, last, q', hb, hr1, hr2, hr3, hr4, hr5⟩
    · rw [hb] at N11 hPn hPm
      k_steps
      refine index_at (vs := hv ++ [Value.ref na]) (n := er + 1) (K := K') N11 (.head _) (fun v hv' => (hpR v ?kx).mono fun p hp => .tail _ hp) (fun v hv' e' => hinj v (hPm.mem_iff.mp hv') _ (.head _) e') hPn hv.length (by simp) ?kz (by simp; omega) (Nat.le_of_ble_eq_true rfl) ?_
      case kx =>
        rcases List.mem_cons.mp hv' with h | h
        · rw [h]; exact .head _
        · exact hPm.mem_iff.mp h
      case kz => rw [List.getD_eq_getElem?_getD]; simp
      intro t12 tk12
      k_steps
      rename Fr _ _ _ (fun y => if y = Str.ofString "spot" then _ else _) => F13
      rename News _ _ _ ((Ra, listOf (hv ++ [Value.ref na]).toArray (er + 1)) :: _) => N13
      refine pop_last F13 N13 (hneR c3) (by omega) ?_
      intro h14 F14 N14
      k_steps
      rename News _ _ _ ((Ra, listOf hv.toArray (er + 1 + 1)) :: _) => N15
      refine len_at N15 (.head _) (by omega) ?_
      intro t16 tk16
      k_steps
      refine Stop.go ?_
      rename News _ _ _ ((Ra, listOf hv.toArray (er + 1 + 1)) :: _) => N17
      rename Fr _ _ _ (fun y => if y = Str.ofString "last" then _ else _) => F17
      refine ne_same (vs := hv) (K := K') N17 (.head _) (.tail _ (.tail _ (.tail _ (.tail _ (.head _))))) (fun v hv' => (hpR v (.tail _ hv')).mono fun p hp => .tail _ hp) (Nat.le_of_ble_eq_true rfl) ?_
      k_steps
      refine hret _ _ _ c3 F17 (news_sub N17 ?k1) ⟨_, hc3⟩ ?k2
      case k1 =>
        intro p hp
        simp only [List.mem_cons] at hp ⊢
        rcases hp with h | h | h | h <;> (repeat (first | exact h | exact Or.inl h | apply Or.inr))
      case k2 =>
        intro z h1 h2
        simp only [h1, h2, if_false]
    · rw [hb] at N11 hPn hPm
      k_steps
      refine index_at (vs := r ++ [last]) (n := er + 1) (K := K') N11 (.head _) (fun v hv' => (hpR v ?kx).mono fun p hp => .tail _ hp) (fun v hv' e' => hinj v (hPm.mem_iff.mp hv') _ (.head _) e') hPn q' (by simp; omega) ?kz (by simp; omega) (Nat.le_of_ble_eq_true rfl) ?_
      case kx =>
        rcases List.mem_cons.mp hv' with h | h
        · rw [h]; exact .head _
        · exact hPm.mem_iff.mp h
      case kz =>
        rw [List.getD_eq_getElem?_getD, List.getElem?_append_left hr2, ← List.getD_eq_getElem?_getD]
        exact hr3
      intro t12 tk12
      k_steps
      rename Fr _ _ _ (fun y => if y = Str.ofString "spot" then _ else _) => F13
      rename News _ _ _ ((Ra, listOf (r ++ [last]).toArray (er + 1)) :: _) => N13
      refine pop_last F13 N13 (hneR c3) (by omega) ?_
      intro h14 F14 N14
      k_steps
      rename News _ _ _ ((Ra, listOf r.toArray (er + 1 + 1)) :: _) => N15
      rename Fr _ _ _ (fun y => if y = Str.ofString "last" then _ else _) => F15
      refine len_at N15 (.head _) (by omega) ?_
      intro t16 tk16
      k_steps
      refine Stop.go ?_
      have hR3 : ∀ v ∈ last :: r, v ∈ Value.ref na :: hv := fun v hv' => hPm.mem_iff.mp (by
        rcases List.mem_cons.mp hv' with h | h
        · rw [h]; exact List.mem_append_right _ (.head _)
        · exact List.mem_append_left _ h)
      refine lay_call w mean mg mb _ _ _ _ _ _ _ _ _ _ _ _ _ _ ((na, tup nx t1 ny t2 ne) :: (L + 1, c3) :: (I, oI) :: (Ha, listOf hv.toArray e) :: rr) _ lt Ra r (er + 1 + 1) q' _ last _ _ B F15 X N15 T rfl (by decide) (by decide) (hneR c3) hr2 (by omega) (hlt1 c3 _ hR3) (hsu _ _ _ hr2) ?_
      intro h17 tk17 F17 N17
      rw [hr5] at N17
      k_steps
      refine Stop.go ?_
      refine ne_same (vs := hv) (K := K') N17 (.head _) (.tail _ (.tail _ (.tail _ (.tail _ (.head _))))) (fun v hv' => (hpR v (.tail _ hv')).mono fun p hp => .tail _ hp) (Nat.le_of_ble_eq_true rfl) ?_
      k_steps
      refine hret _ _ _ c3 F17 (news_sub N17 ?k1) ⟨_, hc3⟩ ?k2
      case k1 =>
        intro p hp
        simp only [List.mem_cons] at hp ⊢
        rcases hp with h | h | h | h <;> (repeat (first | exact h | exact Or.inl h | apply Or.inr))
      case k2 =>
        intro z h1 h2
        simp only [h1, h2, if_false]
end Mine
namespace Mine
theorem fr_map3 {h₀ h : Heap} {L : Addr} {m : Str → Option Value} {x y z : Str} {a b c : Option Value} (F : Fr h₀ L h m) (hx : m x = a) (hy : m y = b) (hz : m z = c) : Fr h₀ L h (fun v => if v = x then a else if v = y then b else if v = z then c else m v) := by
  have e : (fun v => if v = x then a else if v = y then b else if v = z then c else m v) = m := by
    funext v
    split
    · rename_i e; rw [e, hx]
    · split
      · rename_i e; rw [e, hy]
      · split
        · rename_i e; rw [e, hz]
        · rfl
  rw [e]; exact F
section
variable {prog : Program} {w : World} {A : Around} {E : Value → Shared → Prop} {s : Shared} {a : Addr} {l : List Value} {k : Int} {u : Tok} {x : Value} {Q : Value → Shared → Prop} {value slice : Expr}
theorem back_is (hl : s.heap.IsList a l.toArray) (h0 : k < 0) (h1 : -(l.length : Int) ≤ k) (hz : l.length ≤ 1000) (hx : l[(k + (l.length : Int)).toNat]? = some x) (h : Q x s)
    (hs : subscripted slice false (.ref a) (.int k u) = operate [.ref a, .int k u] (getItem (.ref a) (.int k u)) := by with_unfolding_all rfl) (hg : ∀ r, letTemporaryGo value (.ref a) r = pure () := by intro _; with_unfolding_all rfl) :
    wpAny (model prog w) A (subscriptTail value slice (.ref a) (.int k u)) Q E s :=
  subscriptTail_builtin hl.typeIs slot_list_getitem.lookup (wpAny_getItem_list_neg hl h0 (by rw [List.size_toArray]; exact h1) (by omega) (by rw [List.size_toArray]; simpa using hx) h) hs hg
end
local macro_rules | `(tactic| walk_at "execs cons") => `(tactic| ((with_reducible show wpAny _ _ (execs (Stmt.Assign [Expr.Name (Str.ofString "row") _] _ _ :: _) _) _ _ _); refine Stop.out ?_))
local macro_rules | `(tactic| walk_at "call ref") => `(tactic| refine Stop.out ?_)
local macro_rules | `(tactic| walk_at "pyIter ref") => `(tactic| refine Stop.out ?_)
local macro_rules | `(tactic| walk_at "CompSrcT") => `(tactic| refine Stop.out ?_)
local macro_rules | `(tactic| walk_at "CompSrc") => `(tactic| refine Stop.out ?_)

theorem part_l (w : World) (mean : ExcName → Option Value) (mg mb : Str → Option Value) (h₀ : Heap) (L fa : Addr) (cd : Value) (base : Heap) (rest : List (Addr × Obj)) (s : Shared) (u : Str → Option Value)
    (la : Addr) (vs : List Value) (ns : List Int) (ow : Obj) (cv : Option Value) (Q : Flow → Shared → Prop)
    (B : Below callerA base [] h₀) (X : (Mine.hd01.heap_39 w.params).In h₀) (T : Top Mine.hd01.view_39 (looseW Mine.hd01.view_39 []) mean mg mb h₀)
    (F : Fr h₀ L s.heap (fun y => if y = Str.ofString "numbers" then some (.ref la) else u y))
    (N : News h₀ L s.heap ((L + 1, ow) :: rest)) (how : ow.data = .cell cv) (hS : LCg.SrcAt h₀ la vs.toArray rest) (hrl : ∀ p ∈ rest, p.1 ≠ L + 1)
    (hip : IntsAre vs ns) (hl1 : 5 ≤ vs.length) (hl2 : vs.length < 64)
    (hret : ∀ h' tk' m', Fr h₀ L h' m' → Q (.ret (.bool true)) { s with heap := h', toks := tk' }) :
    wpAny (model PySem.Challenge.rw_dp0035_01.row.prog w) (callerA.deeper (envOfC (Str.ofString "law") (defScope PySem.Challenge.pw_dp0035_01 7) L fa cd))
      (execs ((defBody PySem.Challenge.pw_dp0035_01 7).drop 1) (envOfC (Str.ofString "law") (defScope PySem.Challenge.pw_dp0035_01 7) L fa cd)) Q (fun _ _ => False) s := by
  have hfill : PySem.Challenge.rw_dp0035_01 = PySem.Challenge.rw_dp0035_01 ∧ Mine.hd01.heap_39 = Mine.hd01.heap_39 := by
    k_fill
    exact ⟨rfl, rfl⟩
  clear hfill
  w_top off
  k_with_none
  conv in (List.drop 1 _) => whnf
  conv in (occs := *) (defScope _ _) => all_goals whnf
  k_steps
  refine Stop.go ?_
  refine heap_call w mean mg mb _ _ _ _ _ _ _ _ _ _ _ _ _ _ ((L + 1, ow) :: rest) _ la vs ns _ _ B F X N (hS.imp id fun ⟨o, h1, h2⟩ => ⟨o, .tail _ h1, h2⟩) T rfl (by decide) (by decide) hl1 hl2 hip ?_
  intro h2 tk2 Ha hv e tl K F2 N2 hne htr hH
  have hnL : (L + 1 : Nat) ≠ Ha := hne (L + 1, ow) (List.mem_append_right _ (.head _))
  have hnr : ∀ p ∈ tl ++ rest, p.1 ≠ Ha := fun p hp => hne p (by
    rcases List.mem_append.mp hp with h | h
    · exact List.mem_append_left _ h
    · exact List.mem_append_right _ (.tail _ h))
  have hnc : ∀ p ∈ tl ++ rest, p.1 ≠ L + 1 := fun p hp => by
    rcases List.mem_append.mp hp with h | h
    · exact (htr p h (L + 1, ow) (.head _)).symm
    · exact hrl p h
  replace N2 : News h₀ L h2 ((L + 1, ow) :: (Ha, listOf hv.toArray e) :: (tl ++ rest)) := news_sub N2 (fun p hp => by
    rcases List.mem_cons.mp hp with h | hp
    · rw [h]; exact .tail _ (List.mem_append_right _ (.head _))
    · rcases List.mem_cons.mp hp with h | hp
      · rw [h]; exact .head _
      · rcases List.mem_append.mp hp with h | h
        · exact .tail _ (List.mem_append_left _ h)
        · exact .tail _ (List.mem_append_right _ (.tail _ h)))
  have hrs : ∀ p ∈ rest, p ∈ tl ++ rest := fun p hp => List.mem_append_right _ hp
  have hts : ∀ p ∈ tl, p ∈ tl ++ rest := fun p hp => List.mem_append_left _ hp
  generalize tl ++ rest = rr at *
  have hvn := hip.length
  have hhl := hH.len
  k_steps
  rename News _ _ _ ((L + 1, ow) :: _) => N3
  refine len_at N3 (.tail _ (.head _)) (by omega) ?_
  intro t4 tk4
  k_steps
  refine Stop.go ?_
  rename IsRange _ _ _ _ _ _ _ _ => hR
  rename Fr _ _ _ (fun _ => _) => F5
  rename News _ _ _ ((L + 1, ow) :: _) => N5
  refine lp_range (σ := Obj) (n := ns.length) (fun c => (L + 1, c) :: (Ha, listOf hv.toArray e) :: rr) (fun _ => []) [Str.ofString "new", Str.ofString "spot", Str.ofString "last"]
    (fun i c => ∃ x, c.data = .cell x) (fun i => (i : Int)) ow rfl hR ?k1 ?k2 (by intro i _; omega) F5 N5 ?k3 ⟨cv, how⟩ ?_ ?_
  case k1 => exact small_one (by omega) (by omega) (by omega) (by omega)
  case k2 => rw [rangeSize_nat]; omega
  case k3 => intro p hp; nomatch hp
  · rintro i c ti u6 h6 tk6 I oI hi6 ⟨cx, hc6⟩ hIn F6 N6
    dsimp only at *
    k_steps
    obtain ⟨tn, etn⟩ := ints_at hip (ns.length - 1 - i) (by omega)
    refine back_is (src_list hS F6 N6 fun p hp => .tail _ (.tail _ (.tail _ (hrs p hp)))) (by omega) (by omega) (by omega) (x := .int (ns.getD (ns.length - 1 - i) 0) tn) ?kq ?_
    case kq =>
      rw [show (-1 - (i : Int) + (vs.length : Int)).toNat = ns.length - 1 - i by omega, ← etn]
      exact getD_get (by omega)
    k_steps
    · refine len_at N6 (.tail _ (.tail _ (.head _))) (by omega) ?_
      intro t7 tk7
      k_steps
      refine Stop.go ?_
      rename Fr _ _ _ (fun y => if y = Str.ofString "new" then _ else _) => F8
      rename News _ _ _ (_ :: (I, oI) :: _) => N8
      refine name_head N8 ?_
      intro na hna
      subst hna
      rename I < _ ∧ _ ∧ _ ∧ AllLt _ rr => hal
      have F9 := fr_map3 (x := Str.ofString "new") (y := Str.ofString "place") (z := Str.ofString "heap") F8 rfl rfl rfl
      refine wpAny_mono (part_n w mean mg mb h₀ L fa cd base rr tl _ _ na _ _ _ _ _ I oI c cx Ha hv e K ns i ti _ B X T F9 N8 hc6 ?q1 ?q2 hts hH hi6 (by omega) (by omega) ?q3 ?_) (fun _ _ h => h) (fun _ _ h => h.elim)
      case q1 =>
        intro p hp
        simp only [List.mem_cons] at hp
        rcases hp with h | h | h | h
        · rw [h]; exact hal.1
        · rw [h]; exact hal.2.1
        · rw [h]; exact hal.2.2.1
        · exact allLt_to hal.2.2.2 p h
      case q2 =>
        intro p hp
        simp only [List.mem_cons] at hp
        rcases hp with h | h | h
        · rw [h]; exact (hIn _ (.head _)).symm
        · rw [h]; exact Ne.symm hnL
        · exact hnc p h
      case q3 => omega
      intro h10 tk10 m10 c10 F10 N10 hc10 hm10
      refine lp_next ?_
      refine lp_end c10 F10 N10 (.head _) (fun p hp => .tail _ hp) ?e2 ?e3 ?e4 hc10
      case e2 =>
        intro p hp
        simp only [List.mem_cons] at hp
        rcases hp with h | h | h
        · rw [h]; exact hIn (L + 1, c) (.head _)
        · rw [h]; exact hIn _ (.tail _ (.head _))
        · exact hIn _ (.tail _ (.tail _ h))
      case e3 => intro p hp; nomatch hp
      case e4 =>
        intro z hz h2 h3
        have h3' := h3
        simp only [List.contains_cons, List.contains_nil, Bool.or_false, Bool.or_eq_false_iff, beq_eq_false_iff_ne, ne_eq] at h3'
        rw [hm10 z h3'.2.2 h3'.2.1]
        by_cases hzh : z = Str.ofString "heap"
        · subst hzh; rfl
        · simp only [kstB, h3, h3', hz, hzh, if_false, Bool.false_eq_true]
    · refine Stop.go ?_
      rename Fr _ _ _ (fun y => if y = Str.ofString "new" then _ else _) => F8
      rename News _ _ _ (_ :: (I, oI) :: _) => N8
      refine name_head N8 ?_
      intro na hna
      subst hna
      rename I < _ ∧ _ ∧ _ ∧ AllLt _ rr => hal
      have F9 := fr_map3 (x := Str.ofString "new") (y := Str.ofString "place") (z := Str.ofString "heap") F8 rfl rfl rfl
      refine wpAny_mono (part_n w mean mg mb h₀ L fa cd base rr tl _ _ na _ _ _ _ _ I oI c cx Ha hv e K ns i ti _ B X T F9 N8 hc6 ?q1 ?q2 hts hH hi6 (by omega) (by omega) ?q3 ?_) (fun _ _ h => h) (fun _ _ h => h.elim)
      case q1 =>
        intro p hp
        simp only [List.mem_cons] at hp
        rcases hp with h | h | h | h
        · rw [h]; exact hal.1
        · rw [h]; exact hal.2.1
        · rw [h]; exact hal.2.2.1
        · exact allLt_to hal.2.2.2 p h
      case q2 =>
        intro p hp
        simp only [List.mem_cons] at hp
        rcases hp with h | h | h
        · rw [h]; exact (hIn _ (.head _)).symm
        · rw [h]; exact Ne.symm hnL
        · exact hnc p h
      case q3 => omega
      intro h10 tk10 m10 c10 F10 N10 hc10 hm10
      refine lp_next ?_
      refine lp_end c10 F10 N10 (.head _) (fun p hp => .tail _ hp) ?e2 ?e3 ?e4 hc10
      case e2 =>
        intro p hp
        simp only [List.mem_cons] at hp
        rcases hp with h | h | h
        · rw [h]; exact hIn (L + 1, c) (.head _)
        · rw [h]; exact hIn _ (.tail _ (.head _))
        · exact hIn _ (.tail _ (.tail _ h))
      case e3 => intro p hp; nomatch hp
      case e4 =>
        intro z hz h2 h3
        have h3' := h3
        simp only [List.contains_cons, List.contains_nil, Bool.or_false, Bool.or_eq_false_iff, beq_eq_false_iff_ne, ne_eq] at h3'
        rw [hm10 z h3'.2.2 h3'.2.1]
        by_cases hzh : z = Str.ofString "heap"
        · subst hzh; rfl
        · simp only [kstB, h3, h3', hz, hzh, if_false, Bool.false_eq_true]
  · rintro c u6 h6 tk6 _ F6 N6
    dsimp only at *
    k_steps
    rename Fr _ _ h6 _ => F7
    exact hret _ _ _ F7
end Mine
namespace Mine
theorem news_three {h₀ h : Heap} {L : Addr} {x y z : Addr × Obj} (N : News h₀ L h [x, y, z]) : News h₀ L h (z :: [x, y]) := news_sub N (fun p hp => by
  simp only [List.mem_cons] at hp ⊢
  rcases hp with h | h | h | h <;> (repeat (first | exact h | exact Or.inl h | apply Or.inr)))
end Mine
section
open Mine
local macro_rules | `(tactic| walk_at "zz") => `(tactic| fail)
local macro_rules | `(tactic| walk_at "call ref") => `(tactic| refine Stop.out ?_)
local macro_rules | `(tactic| walk_at "pyIter ref") => `(tactic| refine Stop.out ?_)
local macro_rules | `(tactic| walk_at "CompSrcT") => `(tactic| refine Stop.out ?_)
local macro_rules | `(tactic| walk_at "CompSrc") => `(tactic| refine Stop.out ?_)
local macro_rules | `(tactic| walk_at "execs cons") => `(tactic| ((with_reducible show wpAny _ _ (execs (Stmt.Assign [Expr.Name (Str.ofString "heap") _] _ _ :: _) _) _ _ _); refine Stop.out ?_))
theorem PySem.Challenge.cw_dp0035_01_holds : PySem.Challenge.rw_dp0035_01.Holds := by
  refine Mine.hd01 ?_
  w_top off
  k_with_none
  k_go0
  all_goals (try k_fold)
  k_steps
  · refine Stop.go ?_
    rename IntsAre _ _ => hI
    rename Fr _ _ _ _ => F3
    rename News _ _ _ _ => N3
    rename Obj.data _ = Data.cell _ => how
    rename Below _ _ _ _ => B
    rename Top _ _ _ _ _ _ => T
    rename Frag.In _ _ => X
    rename Heap.IsList _ _ _ => hL
    rename 4 < _ => h4
    rename ¬ ((63 : Nat) : Int) < _ => hlen
    have hvl := hI.length
    refine wpAny_mono (part_l _ _ _ _ _ _ _ _ _ [] _ _ _ _ _ _ _ _ B X T F3 N3 how (.inl hL) (fun _ h => nomatch h) hI (by omega) (by omega) ?_) (fun _ _ h => h) (fun _ _ h => h.elim)
    intro h5 tk5 m5 F5
    k_steps
  · refine Stop.go ?_
    rename IntsAre _ (_ ++ _) => hI
    rename Fr _ _ _ _ => F3
    rename News _ _ _ _ => N3
    rename Obj.data _ = Data.cell _ => how
    rename Below _ _ _ _ => B
    rename Top _ _ _ _ _ _ => T
    rename Frag.In _ _ => X
    rename ¬ 4 < _ => h4
    have hvl := hI.length
    have hns : ∀ z : List Int, (z ++ [40, 7, 7, 301, 21]).length = z.length + 5 := fun z => by simp
    rw [hns] at hvl
    rename ¬ ((63 : Nat) : Int) < _ => hlen
    rename _ ∧ _ + 1 < _ => hd2
    rename _ + 1 < _ => hd1
    refine wpAny_mono (part_l _ _ _ _ _ _ _ _ _ _ _ _ _ _ _ _ _ _ B X T F3 (news_three N3) how (.inr ⟨_, .head _, rfl, _, rfl⟩) ?q hI (by omega) (by omega) ?_) (fun _ _ h => h) (fun _ _ h => h.elim)
    case q =>
      intro p hp
      simp only [List.mem_cons] at hp
      rcases hp with h | h | h
      · rw [h]; exact Nat.ne_of_gt hd2.2
      · rw [h]; exact Nat.ne_of_gt hd1
      · nomatch h
    intro h5 tk5 m5 F5
    k_steps
end
