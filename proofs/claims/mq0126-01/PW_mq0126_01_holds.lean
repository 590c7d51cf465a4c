import PyProof.Rows.All
import Wide.All
import OpenK.AllK
import Wide.FinOn
import PySem.Challenge.RW_mq0126_01
open PySem PySem.W PyProof.Rows PySem.Spec
set_option Elab.async false
set_option maxRecDepth 100000
set_option maxHeartbeats 8000000
set_option linter.unusedVariables false
set_option linter.unusedSimpArgs false

-- part Hd
namespace Mine
open_top hd for PySem.Challenge.rw_mq0126_01
end Mine

-- part B1
namespace Mine

structure Ent where
  a : Addr
  x : Str
  k : Int
  t : Tok
  u : Tok
  n : Nat
def Ent.obj (e : Ent) : Obj := { cls := .type "tuple", data := .seq #[.str e.x e.t, .int e.k e.u] e.n }
def vals (es : List Ent) : List Value := es.map fun e => .ref e.a
def kLt (x : Str) (i : Int) (y : Str) (j : Int) : Bool := if x = y then decide (i < j) else decide (x.cps.toList < y.cps.toList)
def Ent.lt (e f : Ent) : Bool := kLt e.x e.k f.x f.k

theorem vals_length (es : List Ent) : (vals es).length = es.length := by simp [vals]
theorem vals_set (es : List Ent) (k : Nat) (e : Ent) : vals (es.set k e) = (vals es).set k (.ref e.a) := by simp [vals, List.map_set]
theorem vals_get {es : List Ent} {k : Nat} {e : Ent} (h : es[k]? = some e) : (vals es).toArray[k]? = some (.ref e.a) := by simp [vals, h]

section
variable {prog : Program} {w : World} {A : Around} {E : Value → Shared → Prop} {s : Shared} {h₀ : Heap} {L l : Addr} {m : Str → Option Value} {news : List (Addr × Obj)} {es : List Ent} {n : Nat}

theorem gi {value slice : PySem.Expr} {i : Int} {u : Tok} {e : Ent} {Q : Value → Shared → Prop} (N : News h₀ L s.heap news) (hm : (l, listOf (vals es).toArray n) ∈ news) {k : Nat} (hi : i = (k : Int)) (he : es[k]? = some e) (hz : es.length < 2 ^ 62) (h : Q (.ref e.a) s)
    (hs : subscripted slice false (.ref l) (.int i u) = operate [.ref l, .int i u] (getItem (.ref l) (.int i u)) := by with_unfolding_all rfl) :
    wpAny (model prog w) A (subscriptTail value slice (.ref l) (.int i u)) Q E s := by
  subst hi
  have hk : k < es.length := (List.getElem?_eq_some_iff.mp he).1
  have hl : s.heap.IsList l (vals es).toArray := PySem.IsL.isList (n := n) (N _ hm).1
  exact tail_any hl.typeIs slot_list_getitem.lookup (wpAny_getItem_list hl (by omega) (by omega) (by simpa using vals_get he) h) hs

theorem si {i : Int} {t : Tok} {e : Ent} {Q : Unit → Shared → Prop} (F : Fr h₀ L s.heap m) (N : News h₀ L s.heap ((l, listOf (vals es).toArray n) :: news)) (hd : ∀ p ∈ news, p.1 ≠ l) {k : Nat} (hi : i = (k : Int)) (hk : k < es.length) (hz : es.length < 2 ^ 62)
    (h : ∀ h', Fr h₀ L h' m → News h₀ L h' ((l, listOf (vals (es.set k e)).toArray n) :: news) → Q () { s with heap := h' }) :
    wpAny (model prog w) A (setItem (.ref l) (.int i t) (.ref e.a)) Q E s := by
  subst hi
  have z := N (l, listOf (vals es).toArray n) (.head _)
  refine ki_setAt z.1 (by omega) (by omega) (by simp [vals_length]; omega) (h _ (F.change (Heap.SameBut.update ..) z.2.1 z.2.2) (ki_turn (pre := []) _ N (fun _ h => nomatch h) hd ?_ ?_))
  · apply Array.toList_inj.mp
    simp [vals_set]
  · simp [vals_length]

theorem lt_tup {e f : Ent} {Q : Value → Shared → Prop} (he : s.heap.get? e.a = some e.obj) (hf : s.heap.get? f.a = some f.obj) (hu : A.units + 4 < cLine) (h : Q (.bool (e.lt f)) s) :
    wpAny (model prog w) A (compareOp .Lt (.ref e.a) (.ref f.a)) Q E s := by
  have te : s.TypeIs (.ref e.a) "tuple" := ⟨_, he, rfl⟩
  have tf : s.TypeIs (.ref f.a) "tuple" := ⟨_, hf, rfl⟩
  refine cmp_ofLt ?_
  refine wpAny_richCompare_same_room (op := .Lt) te tf F.slot_tuple_lt ?_ (by omega)
  refine wpAny_call_entry F.slot_tuple_lt te F.entry_tuple_lt ?_ (F.args_tuple_lt_2 _ _)
  show wpAny _ _ (isInstance (.ref f.a) (.type "tuple") >>= _) _ _ s
  refine wpAny_bind (wpAny_isInstance tf isSubtype_tuple_tuple ?_)
  simp only [Bool.not_true, Bool.false_eq_true, if_false]
  refine wpAny_bind (wpAny_tupleItemsOf he rfl ?_)
  refine wpAny_bind (wpAny_tupleItemsOf hf rfl ?_)
  refine wpAny_bind ?_
  show wpAny _ _ (forIn [(Value.str e.x e.t, Value.str f.x f.t), (Value.int e.k e.u, Value.int f.k f.u)] _ _) _ _ s
  rw [List.forIn_cons]
  refine wpAny_bind ?_
  dsimp only
  refine wpAny_bind (wpAny_eqBool_str ?_)
  unfold Ent.lt kLt at h
  by_cases hx : e.x = f.x
  · rw [if_pos hx] at h
    rw [decide_eq_true hx]
    simp only [Bool.not_true, Bool.false_eq_true, if_false]
    refine wpAny_pure ?_
    dsimp only
    rw [List.forIn_cons]
    refine wpAny_bind ?_
    dsimp only
    refine wpAny_bind (wpAny_eqBool_int ?_)
    by_cases hk : e.k = f.k
    · rw [hk]
      simp only [beq_self_eq_true, Bool.not_true, Bool.false_eq_true, if_false]
      refine wpAny_pure ?_
      dsimp only
      rw [List.forIn_nil]
      refine wpAny_pure ?_
      dsimp only
      refine wpAny_pure ⟨_, rfl, (fun e => nomatch e), ?_⟩
      rw [hk] at h
      have h' : Q (.bool false) s := by simpa using h
      exact h'
    · have hb : (e.k == f.k) = false := by simpa using hk
      rw [hb]
      simp only [Bool.not_false, if_true]
      refine wpAny_bind (wpAny_rule ?_)
      refine wpAny_bind (show wpAny _ _ (compareOp .Lt (.int e.k e.u) (.int f.k f.u)) _ _ _ from PyProof.Rows.lt_int ?_)
      refine wpAny_bind (wpAny_pure (wpAny_pure ?_))
      dsimp only
      refine wpAny_pure ?_
      dsimp only
      exact wpAny_pure ⟨_, rfl, (fun e => nomatch e), h⟩
  · rw [if_neg hx] at h
    rw [decide_eq_false hx]
    simp only [Bool.not_false, if_true]
    refine wpAny_bind (wpAny_rule ?_)
    refine wpAny_bind (show wpAny _ _ (compareOp .Lt (.str e.x e.t) (.str f.x f.t)) _ _ _ from lt_str ?_)
    refine wpAny_bind (wpAny_pure (wpAny_pure ?_))
    dsimp only
    refine wpAny_pure ?_
    dsimp only
    exact wpAny_pure ⟨_, rfl, (fun e => nomatch e), h⟩
end
end Mine

-- part H1
namespace Mine

section
variable {α : Type}

theorem set_perm : ∀ (l : List α) (i : Nat) (b : α), i < l.length → (l.set i b).Perm (b :: l.eraseIdx i)
  | [], _, _, h => absurd h (Nat.not_lt_zero _)
  | a :: r, 0, b, _ => .refl _
  | a :: r, i + 1, b, h => by
    have ih := set_perm r i b (Nat.lt_of_succ_lt_succ h)
    show (a :: r.set i b).Perm (b :: a :: r.eraseIdx i)
    exact (List.Perm.cons a ih).trans (List.Perm.swap ..)
theorem get_perm {l : List α} {i : Nat} {a : α} (h : l[i]? = some a) : l.Perm (a :: l.eraseIdx i) := by
  have hi := (List.getElem?_eq_some_iff.mp h).1
  have hs : l.set i a = l := by
    have ha : l[i] = a := (List.getElem?_eq_some_iff.mp h).2
    rw [← ha]; exact List.set_getElem_self hi
  have := set_perm l i a hi
  rwa [hs] at this

/-- moving p from q to i, x into q: a rearrangement of x at i -/
theorem move_perm {es : List α} {i q : Nat} {p x : α} (hi : i < es.length) (hq : es[q]? = some p) (hne : q ≠ i) : ((es.set i p).set q x).Perm (es.set i x) := by
  have hql := (List.getElem?_eq_some_iff.mp hq).1
  have hW : (es.set i p)[q]? = some p := by rw [List.getElem?_set_ne (Ne.symm hne)]; exact hq
  have h1 := set_perm (es.set i p) q x (by rw [List.length_set]; exact hql)
  have h2 := get_perm hW
  have h3 := set_perm es i p hi
  have h4 : ((es.set i p).eraseIdx q).Perm (es.eraseIdx i) := (h2.symm.trans h3).cons_inv
  exact h1.trans ((List.Perm.cons x h4).trans (set_perm es i x hi).symm)

variable (lt : α → α → Bool)

def Hp (es : List α) : Prop := ∀ i a b, 0 < i → es[i]? = some a → es[(i - 1) / 2]? = some b → lt a b = false

def Grand (es : List α) (pos : Nat) : Prop := ∀ c a b, 0 < c → (c - 1) / 2 = pos → 0 < pos → es[c]? = some a → es[(pos - 1) / 2]? = some b → lt a b = false

def HpBut (es : List α) (pos : Nat) : Prop := (∀ i a b, 0 < i → i ≠ pos → es[i]? = some a → es[(i - 1) / 2]? = some b → lt a b = false) ∧ Grand lt es pos

def HpOff (es : List α) (pos : Nat) : Prop := (∀ i a b, 0 < i → i ≠ pos → (i - 1) / 2 ≠ pos → es[i]? = some a → es[(i - 1) / 2]? = some b → lt a b = false) ∧ Grand lt es pos

structure Ord : Prop where
  asym : ∀ a b, lt a b = true → lt b a = false
  tran : ∀ a b c, lt b a = false → lt c b = false → lt c a = false

variable {lt}

theorem HpBut.hp {es : List α} {pos : Nat} (h : HpBut lt es pos) (hp : pos = 0 ∨ ∀ a b, es[pos]? = some a → es[(pos - 1) / 2]? = some b → lt a b = false) : Hp lt es := by
  intro i a b hi ha hb
  by_cases e : i = pos
  · subst e
    rcases hp with h0 | h1
    · omega
    · exact h1 a b ha hb
  · exact h.1 i a b hi e ha hb

theorem down_step (O : Ord lt) {es : List α} {pos : Nat} {x p : α} (hpos : pos < es.length) (h0 : 0 < pos) (hp : es[(pos - 1) / 2]? = some p) (h : HpBut lt (es.set pos x) pos) (hx : lt x p = true) :
    HpBut lt ((es.set pos p).set ((pos - 1) / 2) x) ((pos - 1) / 2) := by
  have hq : (pos - 1) / 2 < pos := by omega
  have hql : (pos - 1) / 2 < es.length := by omega
  have hV : ∀ i, i ≠ pos → i ≠ (pos - 1) / 2 → ((es.set pos p).set ((pos - 1) / 2) x)[i]? = (es.set pos x)[i]? := by
    intro i h1 h2
    rw [List.getElem?_set_ne (Ne.symm h2), List.getElem?_set_ne (Ne.symm h1), List.getElem?_set_ne (Ne.symm h1)]
  have hVp : ((es.set pos p).set ((pos - 1) / 2) x)[pos]? = some p := by
    rw [List.getElem?_set_ne (by omega), List.getElem?_set_self hpos]
  have hVq : ((es.set pos p).set ((pos - 1) / 2) x)[(pos - 1) / 2]? = some x := by
    rw [List.getElem?_set_self (by rw [List.length_set]; exact hql)]
  have hOq : (es.set pos x)[(pos - 1) / 2]? = some p := by rw [List.getElem?_set_ne (by omega)]; exact hp
  have hOp : (es.set pos x)[pos]? = some x := List.getElem?_set_self hpos
  refine ⟨?_, ?_⟩
  · intro i a b hi hne ha hb
    by_cases e1 : i = pos
    · subst e1
      rw [hVp] at ha
      rw [hVq] at hb
      cases ha; cases hb
      exact O.asym _ _ hx
    · rw [hV i e1 hne] at ha
      by_cases e2 : (i - 1) / 2 = pos
      · rw [e2, hVp] at hb
        cases hb
        exact h.2 i a p hi e2 h0 ha hOq
      · by_cases e3 : (i - 1) / 2 = (pos - 1) / 2
        · rw [e3, hVq] at hb
          cases hb
          have := h.1 i a p hi e1 ha (by rw [e3]; exact hOq)
          exact O.tran x p a (O.asym _ _ hx) this
        · rw [hV _ e2 e3] at hb
          exact h.1 i a b hi e1 ha hb
  · intro c a b hc e h0' ha hb
    have hne : (((pos - 1) / 2) - 1) / 2 ≠ pos := by omega
    have hne' : (((pos - 1) / 2) - 1) / 2 ≠ (pos - 1) / 2 := by omega
    rw [hV _ hne hne'] at hb
    have hpq : lt p b = false := h.1 ((pos - 1) / 2) p b h0' (by omega) hOq hb
    by_cases e1 : c = pos
    · subst e1
      rw [hVp] at ha
      cases ha
      exact hpq
    · have e2 : c ≠ (pos - 1) / 2 := by omega
      rw [hV c e1 e2] at ha
      have := h.1 c a p hc e1 ha (by rw [e]; exact hOq)
      exact O.tran b p a hpq this

theorem up_step (O : Ord lt) {es : List α} {pos c : Nat} {x y : α} (hpos : pos < es.length) (hc : 0 < c) (hcp : (c - 1) / 2 = pos) (hy : es[c]? = some y) (h : HpOff lt (es.set pos x) pos)
    (hsib : ∀ d z, 0 < d → (d - 1) / 2 = pos → d ≠ c → es[d]? = some z → lt z y = false) :
    HpOff lt ((es.set pos y).set c x) c := by
  have hcl := (List.getElem?_eq_some_iff.mp hy).1
  have hne : pos ≠ c := by omega
  have hV : ∀ i, i ≠ pos → i ≠ c → ((es.set pos y).set c x)[i]? = (es.set pos x)[i]? := by
    intro i h1 h2
    rw [List.getElem?_set_ne (Ne.symm h2), List.getElem?_set_ne (Ne.symm h1), List.getElem?_set_ne (Ne.symm h1)]
  have hVp : ((es.set pos y).set c x)[pos]? = some y := by
    rw [List.getElem?_set_ne (by omega), List.getElem?_set_self hpos]
  have hOc : (es.set pos x)[c]? = some y := by rw [List.getElem?_set_ne hne]; exact hy
  refine ⟨?_, ?_⟩
  · intro i a b hi h1 h2 ha hb
    by_cases e1 : i = pos
    · subst e1
      rw [hVp] at ha
      cases ha
      rw [hV _ (by omega) (by omega)] at hb
      exact h.2 c y b hc hcp hi hOc hb
    · rw [hV i e1 h1] at ha
      by_cases e2 : (i - 1) / 2 = pos
      · rw [e2, hVp] at hb
        cases hb
        rw [List.getElem?_set_ne (Ne.symm e1)] at ha
        exact hsib i a hi e2 h1 ha
      · rw [hV _ e2 h2] at hb
        exact h.1 i a b hi e1 e2 ha hb
  · intro d a b hd e h0 ha hb
    rw [hcp, hVp] at hb
    cases hb
    rw [hV d (by omega) (by omega)] at ha
    exact h.1 d a y hd (by omega) (by omega) ha (by rw [e]; exact hOc)

theorem HpOff.last {es : List α} {pos : Nat} (h : HpOff lt es pos) (hc : es.length ≤ 2 * pos + 1) : HpBut lt es pos := by
  refine ⟨fun i a b hi h1 ha hb => ?_, h.2⟩
  have := (List.getElem?_eq_some_iff.mp ha).1
  exact h.1 i a b hi h1 (by omega) ha hb

/-- a heap with one more at its end -/
theorem Hp.push {es : List α} {x : α} (h : Hp lt es) : HpBut lt (es ++ [x]) es.length := by
  refine ⟨fun i a b hi h1 ha hb => ?_, fun c a b hc e h0 ha hb => ?_⟩
  · have hl := (List.getElem?_eq_some_iff.mp ha).1
    rw [List.length_append, List.length_singleton] at hl
    rw [List.getElem?_append_left (by omega)] at ha hb
    exact h i a b hi ha hb
  · have hl := (List.getElem?_eq_some_iff.mp ha).1
    rw [List.length_append, List.length_singleton] at hl
    omega

/-- a heap whose last one is put at its head -/
theorem Hp.pop {es : List α} {x y : α} (h : Hp lt (y :: es ++ [x])) : HpOff lt (x :: es) 0 := by
  refine ⟨fun i a b hi h1 h2 ha hb => ?_, fun c a b hc e h0 ha hb => absurd h0 (Nat.lt_irrefl _)⟩
  have hl := (List.getElem?_eq_some_iff.mp ha).1
  rw [List.length_cons] at hl
  obtain ⟨j, rfl⟩ : ∃ j, i = j + 1 := ⟨i - 1, by omega⟩
  obtain ⟨k, hk⟩ : ∃ k, (j + 1 - 1) / 2 = k + 1 := ⟨(j + 1 - 1) / 2 - 1, by omega⟩
  rw [hk, List.getElem?_cons_succ] at hb
  rw [List.getElem?_cons_succ] at ha
  refine h (j + 1) a b hi ?_ ?_
  · rw [List.cons_append, List.getElem?_cons_succ, List.getElem?_append_left (by omega)]; exact ha
  · rw [hk, List.cons_append, List.getElem?_cons_succ, List.getElem?_append_left (by omega)]; exact hb

theorem Hp.pop0 {es : List α} {x : α} (h : Hp lt (es ++ [x])) : Hp lt es := by
  intro i a b hi ha hb
  have hl := (List.getElem?_eq_some_iff.mp ha).1
  refine h i a b hi ?_ ?_
  · rw [List.getElem?_append_left (by omega)]; exact ha
  · rw [List.getElem?_append_left (by omega)]; exact hb

/-- the head of a heap is its least -/
theorem Hp.least (O : Ord lt) (hr : ∀ a, lt a a = false) {es : List α} {y : α} (h : Hp lt es) (hy : es[0]? = some y) : ∀ (i : Nat) (a : α), es[i]? = some a → lt a y = false := by
  intro i
  induction i using Nat.strongRecOn with
  | ind i ih =>
    intro a ha
    by_cases h0 : i = 0
    · subst h0
      rw [hy] at ha; cases ha; exact hr _
    · have hl := (List.getElem?_eq_some_iff.mp ha).1
      have hq : (i - 1) / 2 < es.length := by omega
      have hb : es[(i - 1) / 2]? = some es[(i - 1) / 2] := List.getElem?_eq_getElem hq
      exact O.tran y _ a (ih _ (by omega) _ hb) (h i a _ (by omega) ha hb)
end
end Mine

-- part B2
namespace Mine

theorem str_eq_iff (x y : Str) : x = y ↔ x.cps.toList = y.cps.toList := by
  constructor
  · rintro rfl; rfl
  · intro h; obtain ⟨x⟩ := x; obtain ⟨y⟩ := y; congr; exact Array.toList_inj.mp h

theorem kLt_iff (x : Str) (i : Int) (y : Str) (j : Int) : kLt x i y j = true ↔ x.cps.toList < y.cps.toList ∨ (x.cps.toList = y.cps.toList ∧ i < j) := by
  unfold kLt
  by_cases h : x = y
  · subst h; simp [List.lt_irrefl]
  · have h' : x.cps.toList ≠ y.cps.toList := fun e => h ((str_eq_iff x y).mpr e)
    simp [h, h']
theorem kLt_not (x : Str) (i : Int) (y : Str) (j : Int) : kLt x i y j = false ↔ y.cps.toList < x.cps.toList ∨ (x.cps.toList = y.cps.toList ∧ j ≤ i) := by
  have h := kLt_iff x i y j
  rw [← Bool.not_eq_true, h]
  constructor
  · intro h
    by_cases e : x.cps.toList = y.cps.toList
    · right; refine ⟨e, ?_⟩
      have : ¬ i < j := fun q => h (.inr ⟨e, q⟩)
      omega
    · left
      have h1 : ¬ x.cps.toList < y.cps.toList := fun q => h (.inl q)
      have h2 : y.cps.toList ≤ x.cps.toList := List.not_lt.mp h1
      by_cases h3 : y.cps.toList < x.cps.toList
      · exact h3
      · exact absurd (List.le_antisymm (List.not_lt.mp h3) h2) e
  · rintro (h | ⟨e, h⟩) (q | ⟨e', q⟩)
    · exact List.lt_asymm h q
    · rw [e'] at h; exact List.lt_irrefl _ h
    · rw [e] at q; exact List.lt_irrefl _ q
    · omega
theorem ord_ent : Ord Ent.lt where
  asym := by
    intro e f h
    unfold Ent.lt at *
    rw [kLt_iff] at h
    rw [kLt_not]
    rcases h with h | ⟨h1, h2⟩
    · exact .inl h
    · exact .inr ⟨h1.symm, by omega⟩
  tran := by
    intro e f g h1 h2
    unfold Ent.lt at *
    rw [kLt_not] at *
    rcases h1 with h1 | ⟨h1, h1'⟩ <;> rcases h2 with h2 | ⟨h2, h2'⟩
    · exact .inl (List.lt_trans h1 h2)
    · rw [h2]; exact .inl h1
    · rw [← h1]; exact .inl h2
    · exact .inr ⟨h2.trans h1, by omega⟩
theorem ent_irr (e : Ent) : e.lt e = false := by
  unfold Ent.lt
  rw [kLt_not]
  exact .inr ⟨rfl, Int.le_refl _⟩

theorem int_some {a b : Int} {t : Tok} (h : a = b) : some (Value.int a t) = some (Value.int b t) := by rw [h]
theorem set_same {α : Type} {l : List α} {i : Nat} {x : α} (h : l[i]? = some x) : l.set i x = l := by
  obtain ⟨hi, rfl⟩ := List.getElem?_eq_some_iff.mp h
  exact List.set_getElem_self hi

section
variable {prog : Program} {w : World} {A A₀ : Around} {E : Value → Shared → Prop} {s : Shared} {K : Frag} {L : Addr} {h₀ base : Heap} {m mg mb : Str → Option Value} {news : List (Addr × Obj)} {p : Program} {loose : List Str} {mean : ExcName → Option Value} {Q : Value → Shared → Prop}
theorem enter {env : Env} {outer : List Env} {name qual : Str} {params : Arguments} {body : List Stmt} {scope : Scope} {dV kV doc pm cdv ct oc : Value} {an od : Option Addr} {osl : Array (Option Value)} {f : Addr} {args : List Value} {binds : List (Str × Value)}
    (B : Below A₀ base outer h₀) (F : Fr h₀ L s.heap m) (X₀ : K.In h₀) (N : News h₀ L s.heap news) (T : Top p loose mean mg mb h₀) (hA : A.frames = some (env :: outer)) (hf : env.frame = some L) (hke : env.scope.kind = .function)
    (ho : K.lookup f = some ⟨oc, od, .func (fnOf name qual params body scope dV kV doc pm an cdv ct), osl⟩) (hcd : codeIn K cdv qual = true) (hroom : A.depth < recursionLimit)
    (hbind : BindsTo s (fnOf name qual params body scope dV kV doc pm an cdv ct) ⟨args, []⟩ binds) (hloc : ∀ y ∈ binds, scope.names.lookup y.1 = some .local)
    (h : ∀ g L' h₁, Fr h₀ L g m → Fr g L' h₁ (fun y => binds.reverse.lookup y) → News g L' h₁ news → Below A base (env :: outer) g → K.In g → Top p loose mean mg mb g →
      wpAny (model prog w) (A.deeper (envOf qual scope L' f cdv)) (execs body (envOf qual scope L' f cdv))
        (fun fl s' => LeaveK h₀ L m g (fun r s' => match r with | .ok (.ret v) => Q v s' | .ok _ => False | .error e => E e s') (match fl with | .ret v => v | _ => .none) s')
        (fun _ _ => False)
        { s with heap := h₁, toks := s.toks + binds.length })
    (hco : scope.isCoroutine = false) (hgen : scope.isGenerator = false) (hk : scope.kind = .function)
    (hcell : ∀ x ∈ scope.names, x.2 ≠ .cell) : wpAny (model prog w) A (call (.ref f) args) Q E s :=
  wpAny_call (code_def B F X₀ N T hA hf hke ho hcd hroom hbind hloc (fun g L' h₁ a b c d e f => wpAny_mono (h g L' h₁ a b c d e f) (fun _ _ x => x) (fun _ _ x => x.elim)) hco hgen hk hcell)
end
end Mine

-- part C1
namespace Mine
theorem fresh_C1 : True := by
  w_top off
  trivial
section
variable {w : World} {mean : ExcName → Option Value} {mg mb : Str → Option Value} {dp un : Nat} {gd : Option (List Code)} {cn : Str} {cs : Scope} {a : Addr} {ccd : Value} {cl : List (Str × Addr)} {outer : List Env} {A₀ : Around} {base h₀ : Heap} {L : Addr} {m : Str → Option Value} {news : List (Addr × Obj)} {s : Shared} {Q E : Value → Shared → Prop}

local macro_rules | `(tactic| walk_at "stop") => `(tactic| first | (with_reducible show wpAny _ _ (exec (Stmt.While _ _ _ _) _) _ _ _) | (with_reducible show wpAny _ _ (exec (Stmt.For _ _ _ _ _) _) _ _ _))
local macro_rules | `(tactic| walk_at "go") => `(tactic| repeat' (first | (k_unfold; (try dsimp only)) | ((fail_if_success (walk_at "stop")); (first | walk1 | (dsimp only; walk1)))))
theorem c_siftdown
  (B : Below A₀ base outer h₀) (F : Fr h₀ L s.heap m) (X : (Mine.hd.heap_39 w.params).In h₀) (T : Top Mine.hd.view_39 (looseW Mine.hd.view_39 []) mean mg mb h₀) (hk : cs.kind = .function)
  {l : Addr} {es : List Ent} {n pos : Nat} {t t' : Tok}
  (N : News h₀ L s.heap ((l, listOf (vals es).toArray n) :: news)) (hd : ∀ p ∈ news, p.1 ≠ l) (hm : ∀ e ∈ es, (e.a, e.obj) ∈ news)
  (hpos : pos < es.length) (hz : es.length < 2 ^ 62) (hi : HpBut Ent.lt es pos)
  (hdp : dp + 1 < recursionLimit) (hun : un + 30 < cLine)
  (ret : ∀ es' n' h' tk', es'.Perm es → Hp Ent.lt es' → Fr h₀ L h' m → News h₀ L h' ((l, listOf (vals es').toArray n') :: news) → Q .none { s with heap := h', toks := tk' }) :
  wpAny (model Challenge.rw_mq0126_01.row.prog w) (ktrTop dp un gd cn cs L a ccd cl outer) (call (.ref 70) [.ref l, .int 0 t, .int pos t']) Q E s := by
  refine enter (binds := [(Str.ofString "heap", .ref l), (Str.ofString "startpos", .int 0 t), (Str.ofString "pos", .int pos t')]) B F X N T rfl rfl hk (by k_is) (by k_is) (by ktr_room) (BindsTo.of_eq rfl) (locs rfl) ?_ rfl rfl rfl (by decide)
  intro g L' h₁ FG F' N' B' X' T'
  obtain ⟨e0, he0⟩ : ∃ e, es[pos]? = some e := ⟨es[pos], List.getElem?_eq_getElem hpos⟩
  walk_at "go"
  refine gi N' (.head _) rfl he0 hz ?_
  walk_at "go"
  rename Fr g L' _ _ => F2
  rename News g L' _ _ => N2
  refine ksw_while (σ := List Ent × Nat × Tok × Nat) (fun c => (l, listOf (vals c.1).toArray c.2.2.2) :: news) (fun c => [(Str.ofString "pos", .int (c.2.1 : Int) c.2.2.1)]) (fun _ => True) [Str.ofString "parentpos", Str.ofString "parent"]
    (fun c => c.2.1 < c.1.length ∧ c.1.length = es.length ∧ (c.1.set c.2.1 e0).Perm es ∧ HpBut Ent.lt (c.1.set c.2.1 e0) c.2.1) (fun c => c.2.1) (es, pos, t', n) F2 N2 trivial ?_ ?_ ?_
  · intro p hp
    simp only [List.mem_singleton] at hp
    subst hp
    rfl
  · dsimp only
    rw [set_same he0]
    exact ⟨hpos, rfl, .refl _, hi⟩
  rintro ⟨fs, q, tq, nq⟩ u h tk _ ⟨hq, hql, hperm, hhp⟩ F3 N3
  dsimp only at hq hql hperm hhp N3 ⊢
  dsimp only [kstB] at F3
  have hzq : fs.length < 2 ^ 62 := by omega
  walk_at "go"
  · rename Fr g L' _ _ => F4
    rename News g L' _ _ => N4
    have hq0 : 0 < q := by omega
    obtain ⟨e1, he1⟩ : ∃ e, fs[(q - 1) / 2]? = some e := ⟨fs[(q - 1) / 2], List.getElem?_eq_getElem (by omega)⟩
    have m0 : (e0.a, e0.obj) ∈ news := hm _ (List.mem_of_getElem? he0)
    have m1 : (e1.a, e1.obj) ∈ news := hm _ (hperm.subset (List.mem_of_getElem? (i := (q - 1) / 2) (by rw [List.getElem?_set_ne (by omega)]; exact he1)))
    have hidx : ((q : Int) - 1).fdiv (2 ^ Int.toNat 1) = (((q - 1) / 2 : Nat) : Int) := by
      rw [Int.fdiv_eq_ediv_of_nonneg _ (by decide)]
      show ((q : Int) - 1) / 2 = _
      omega
    refine gi N4 (.head _) (k := (q - 1) / 2) hidx he1 hzq ?_
    walk_at "go"
    rename Fr g L' _ _ => F5
    rename News g L' _ _ => N5
    refine lt_tup (e := e0) (f := e1) (N5.get (.tail _ m0)) (N5.get (.tail _ m1)) (by ktr_units) ?_
    walk_at "go"
    · rename e0.lt e1 = true => hlt
      refine si (e := e1) F5 N5 hd (k := q) rfl hq hzq ?_
      intro h6 F6 N6
      walk_at "go"
      rename Fr g L' _ _ => F7
      rename News g L' _ _ => N7
      refine ksw_end (fs.set q e1, (q - 1) / 2, ?tk9, nq) F7 N7 (fun _ x => x) trivial ?hk ?hr ⟨?p1, ?p2, ?p3, ?p4⟩ ?hm
      case hk =>
        intro p hp
        rw [List.mem_singleton.mp hp]
        exact congrArg (fun z => some (Value.int z _)) hidx
      case hr => ksw_same
      case p1 => dsimp only; rw [List.length_set]; omega
      case p2 => dsimp only; rw [List.length_set]; omega
      case p3 => exact (move_perm hq he1 (by omega)).trans hperm
      case p4 => exact down_step ord_ent hq hq0 he1 hhp hlt
      case hm => dsimp only; omega
    · rename e0.lt e1 = false => hlt
      refine si (e := e0) F5 N5 hd (k := q) rfl hq hzq ?_
      intro h6 F6 N6
      walk_at "go"
      refine ret _ _ _ _ hperm (hhp.hp (.inr ?_)) (by assumption) (by assumption)
      intro x y hx hy
      rw [List.getElem?_set_self hq] at hx
      rw [List.getElem?_set_ne (by omega), he1] at hy
      cases hx; cases hy
      exact hlt
  · refine si (e := e0) F3 N3 hd (k := q) rfl hq hzq ?_
    intro h6 F6 N6
    walk_at "go"
    exact ret _ _ _ _ hperm (hhp.hp (.inl (by omega))) (by assumption) (by assumption)
end
end Mine

-- part C2
namespace Mine
theorem fresh_C2 : True := by
  w_top off
  trivial
section
variable {w : World} {mean : ExcName → Option Value} {mg mb : Str → Option Value} {dp un : Nat} {gd : Option (List Code)} {cn : Str} {cs : Scope} {a : Addr} {ccd : Value} {cl : List (Str × Addr)} {outer : List Env} {A₀ : Around} {base h₀ : Heap} {L : Addr} {m : Str → Option Value} {news : List (Addr × Obj)} {s : Shared} {Q E : Value → Shared → Prop}

local macro_rules | `(tactic| walk_at "stop") => `(tactic| first | (with_reducible show wpAny _ _ (exec (Stmt.While _ _ _ _) _) _ _ _) | (with_reducible show wpAny _ _ (exec (Stmt.For _ _ _ _ _) _) _ _ _))
local macro_rules | `(tactic| walk_at "go") => `(tactic| repeat' (first | (k_unfold; (try dsimp only)) | ((fail_if_success (walk_at "stop")); (first | walk1 | (dsimp only; walk1)))))
theorem c_siftup
  (B : Below A₀ base outer h₀) (F : Fr h₀ L s.heap m) (X : (Mine.hd.heap_39 w.params).In h₀) (T : Top Mine.hd.view_39 (looseW Mine.hd.view_39 []) mean mg mb h₀) (hk : cs.kind = .function)
  {l : Addr} {es : List Ent} {n : Nat} {t : Tok}
  (N : News h₀ L s.heap ((l, listOf (vals es).toArray n) :: news)) (hd : ∀ p ∈ news, p.1 ≠ l) (hm : ∀ e ∈ es, (e.a, e.obj) ∈ news)
  (hpos : 0 < es.length) (hz : es.length ≤ 10000) (hi : HpOff Ent.lt es 0)
  (hdp : dp + 2 < recursionLimit) (hun : un + 40 < cLine)
  (ret : ∀ es' n' h' tk', es'.Perm es → Hp Ent.lt es' → Fr h₀ L h' m → News h₀ L h' ((l, listOf (vals es').toArray n') :: news) → Q .none { s with heap := h', toks := tk' }) :
  wpAny (model Challenge.rw_mq0126_01.row.prog w) (ktrTop dp un gd cn cs L a ccd cl outer) (call (.ref 77) [.ref l, .int 0 t]) Q E s := by
  refine enter (binds := [(Str.ofString "heap", .ref l), (Str.ofString "pos", .int 0 t)]) B F X N T rfl rfl hk (by k_is) (by k_is) (by ktr_room) (BindsTo.of_eq rfl) (locs rfl) ?_ rfl rfl rfl (by decide)
  intro g L' h₁ FG F' N' B' X' T'
  obtain ⟨e0, he0⟩ : ∃ e, es[0]? = some e := ⟨es[0], List.getElem?_eq_getElem hpos⟩
  walk_at "go"
  refine kun_lenL (N'.isList (.head _)) (k := es.length) (by simp [vals_length]) (by omega) ?_
  walk_at "go"
  rename Fr g L' _ _ => F1
  rename News g L' _ _ => N1
  refine gi N1 (.head _) (k := 0) rfl he0 (by omega) ?_
  walk_at "go"
  rename Fr g L' _ _ => F2
  rename News g L' _ _ => N2
  refine ksw_while (σ := List Ent × Nat × Tok × Tok × Nat) (fun c => (l, listOf (vals c.1).toArray c.2.2.2.2) :: news) (fun c => [(Str.ofString "pos", .int (c.2.1 : Int) c.2.2.1), (Str.ofString "childpos", .int (2 * (c.2.1 : Int) + 1) c.2.2.2.1)]) (fun _ => True) [Str.ofString "rightpos"]
    (fun c => c.2.1 < c.1.length ∧ c.1.length = es.length ∧ (c.1.set c.2.1 e0).Perm es ∧ HpOff Ent.lt (c.1.set c.2.1 e0) c.2.1) (fun c => es.length - c.2.1) (es, 0, t, ?tk9, n) F2 N2 trivial ?hk ?hp ?_
  case hk =>
    intro p hp
    simp only [List.mem_cons, List.not_mem_nil, or_false] at hp
    rcases hp with rfl | rfl <;> rfl
  case hp =>
    dsimp only
    rw [set_same he0]
    exact ⟨hpos, rfl, .refl _, hi⟩
  rintro ⟨fs, q, tq, tc, nq⟩ u h tk _ ⟨hq, hql, hperm, hhp⟩ F3 N3
  dsimp only at hq hql hperm hhp N3 ⊢
  dsimp only [kstB] at F3
  have hzq : fs.length < 2 ^ 62 := by omega
  walk_at "go"
  · rename Fr g L' _ _ => F4
    rename News g L' _ _ => N4
    obtain ⟨y1, hy1⟩ : ∃ e, fs[2 * q + 1]? = some e := ⟨fs[2 * q + 1], List.getElem?_eq_getElem (by omega)⟩
    obtain ⟨y2, hy2⟩ : ∃ e, fs[2 * q + 2]? = some e := ⟨fs[2 * q + 2], List.getElem?_eq_getElem (by omega)⟩
    have m1 : (y1.a, y1.obj) ∈ news := hm _ (hperm.subset (List.mem_of_getElem? (i := 2 * q + 1) (by rw [List.getElem?_set_ne (by omega)]; exact hy1)))
    have m2 : (y2.a, y2.obj) ∈ news := hm _ (hperm.subset (List.mem_of_getElem? (i := 2 * q + 2) (by rw [List.getElem?_set_ne (by omega)]; exact hy2)))
    refine gi N4 (.head _) (k := 2 * q + 1) (by omega) hy1 hzq ?_
    walk_at "go"
    refine gi N4 (.head _) (k := 2 * q + 2) (by omega) hy2 hzq ?_
    walk_at "go"
    refine lt_tup (e := y1) (f := y2) (N4.get (.tail _ m1)) (N4.get (.tail _ m2)) (by ktr_units) ?_
    walk_at "go"
    · rename y1.lt y2 = true => hlt
      rename Fr g L' _ _ => F6
      rename News g L' _ _ => N6
      refine gi N6 (.head _) (k := 2 * q + 1) (by omega) hy1 hzq ?_
      walk_at "go"
      refine si (e := y1) F6 N6 hd (k := q) rfl hq hzq ?_
      intro h7 F7 N7
      walk_at "go"
      rename Fr g L' _ _ => F8
      rename News g L' _ _ => N8
      refine ksw_end (fs.set q y1, 2 * q + 1, ?tkA, ?tkB, nq) F8 N8 (fun _ x => x) trivial ?hk ?hr ⟨?p1, ?p2, ?p3, ?p4⟩ ?hm
      case hk =>
        intro p hp
        simp only [List.mem_cons, List.not_mem_nil, or_false] at hp
        rcases hp with rfl | rfl
        · exact int_some (show (2 * (q : Int) + 1 : Int) = ((2 * q + 1 : Nat) : Int) by omega)
        · exact int_some (show (2 * (2 * (q : Int) + 1) + 1 : Int) = 2 * (((2 * q + 1 : Nat)) : Int) + 1 by omega)
      case hr => ksw_same
      case p1 => dsimp only; rw [List.length_set]; omega
      case p2 => dsimp only; rw [List.length_set]; omega
      case p3 => exact (move_perm hq hy1 (by omega)).trans hperm
      case p4 => dsimp only; exact up_step (c := 2 * q + 1) ord_ent hq (by omega) (by omega) hy1 hhp (by
          intro d z hd0 hdq hdc hz9
          have : d = 2 * q + 2 := by omega
          subst this
          rw [hy2] at hz9; cases hz9; exact ord_ent.asym _ _ hlt)
      case hm => dsimp only; omega
    · rename y1.lt y2 = false => hlt
      rename Fr g L' _ _ => F6
      rename News g L' _ _ => N6
      refine gi N6 (.head _) (k := 2 * q + 2) (by omega) hy2 hzq ?_
      walk_at "go"
      refine si (e := y2) F6 N6 hd (k := q) rfl hq hzq ?_
      intro h7 F7 N7
      walk_at "go"
      rename Fr g L' _ _ => F8
      rename News g L' _ _ => N8
      refine ksw_end (fs.set q y2, 2 * q + 2, ?tkC, ?tkD, nq) F8 N8 (fun _ x => x) trivial ?hk ?hr ⟨?p1, ?p2, ?p3, ?p4⟩ ?hm
      case hk =>
        intro p hp
        simp only [List.mem_cons, List.not_mem_nil, or_false] at hp
        rcases hp with rfl | rfl
        · exact int_some (show (2 * (q : Int) + 1 + 1 : Int) = ((2 * q + 2 : Nat) : Int) by omega)
        · exact int_some (show (2 * (2 * (q : Int) + 1 + 1) + 1 : Int) = 2 * (((2 * q + 2 : Nat)) : Int) + 1 by omega)
      case hr => ksw_same
      case p1 => dsimp only; rw [List.length_set]; omega
      case p2 => dsimp only; rw [List.length_set]; omega
      case p3 => exact (move_perm hq hy2 (by omega)).trans hperm
      case p4 => dsimp only; exact up_step (c := 2 * q + 2) ord_ent hq (by omega) (by omega) hy2 hhp (by
          intro d z hd0 hdq hdc hz9
          have : d = 2 * q + 1 := by omega
          subst this
          rw [hy1] at hz9; cases hz9; exact hlt)
      case hm => dsimp only; omega
  · obtain ⟨y1, hy1⟩ : ∃ e, fs[2 * q + 1]? = some e := ⟨fs[2 * q + 1], List.getElem?_eq_getElem (by omega)⟩
    rename Fr g L' _ _ => F6
    rename News g L' _ _ => N6
    refine gi N6 (.head _) (k := 2 * q + 1) (by omega) hy1 hzq ?_
    walk_at "go"
    refine si (e := y1) F6 N6 hd (k := q) rfl hq hzq ?_
    intro h7 F7 N7
    walk_at "go"
    rename Fr g L' _ _ => F8
    rename News g L' _ _ => N8
    refine ksw_end (fs.set q y1, 2 * q + 1, ?tkE, ?tkF, nq) F8 N8 (fun _ x => x) trivial ?hk ?hr ⟨?p1, ?p2, ?p3, ?p4⟩ ?hm
    case hk =>
      intro p hp
      simp only [List.mem_cons, List.not_mem_nil, or_false] at hp
      rcases hp with rfl | rfl
      · exact int_some (show (2 * (q : Int) + 1 : Int) = ((2 * q + 1 : Nat) : Int) by omega)
      · exact int_some (show (2 * (2 * (q : Int) + 1) + 1 : Int) = 2 * (((2 * q + 1 : Nat)) : Int) + 1 by omega)
    case hr => ksw_same
    case p1 => dsimp only; rw [List.length_set]; omega
    case p2 => dsimp only; rw [List.length_set]; omega
    case p3 => exact (move_perm hq hy1 (by omega)).trans hperm
    case p4 => dsimp only; exact up_step (c := 2 * q + 1) ord_ent hq (by omega) (by omega) hy1 hhp (by
          intro d z hd0 hdq hdc hz9
          have := (List.getElem?_eq_some_iff.mp hz9).1
          omega)
    case hm => dsimp only; omega
  · refine si (e := e0) F3 N3 hd (k := q) rfl hq hzq ?_
    intro h7 F7 N7
    walk_at "go"
    rename Fr g L' _ _ => F8
    rename News g L' _ _ => N8
    refine c_siftdown (es := fs.set q e0) (pos := q) B' F8 X' T' rfl N8 hd (fun e he => hm e (hperm.subset he)) (by rw [List.length_set]; exact hq) (by rw [List.length_set]; exact hzq) (hhp.last (by rw [List.length_set]; omega)) (by ktr_room) (by ktr_units) ?_
    intro es' n' h9 tk9 hp9 hh9 F9 N9
    walk_at "go"
    exact ret _ _ _ _ (hp9.trans hperm) hh9 (by assumption) (by assumption)
end
end Mine

-- part C3
namespace Mine
theorem fresh_C3 : True := by
  w_top off
  trivial
section
variable {w : World} {mean : ExcName → Option Value} {mg mb : Str → Option Value} {dp un : Nat} {gd : Option (List Code)} {cn : Str} {cs : Scope} {a : Addr} {ccd : Value} {cl : List (Str × Addr)} {outer : List Env} {A₀ : Around} {base h₀ : Heap} {L : Addr} {m : Str → Option Value} {news : List (Addr × Obj)} {s : Shared} {Q E : Value → Shared → Prop}

local macro_rules | `(tactic| walk_at "stop") => `(tactic| first | (with_reducible show wpAny _ _ (exec (Stmt.While _ _ _ _) _) _ _ _) | (with_reducible show wpAny _ _ (exec (Stmt.For _ _ _ _ _) _) _ _ _))
local macro_rules | `(tactic| walk_at "go") => `(tactic| repeat' (first | (k_unfold; (try dsimp only)) | ((fail_if_success (walk_at "stop")); (first | walk1 | (dsimp only; walk1)))))
theorem vals_append (es : List Ent) (e : Ent) : vals (es ++ [e]) = vals es ++ [.ref e.a] := by simp [vals]
theorem vals_push (es : List Ent) (e : Ent) : (vals es).toArray.push (.ref e.a) = (vals (es ++ [e])).toArray := by simp [vals_append]
theorem c_heappush
  (B : Below A₀ base outer h₀) (F : Fr h₀ L s.heap m) (X : (Mine.hd.heap_39 w.params).In h₀) (T : Top Mine.hd.view_39 (looseW Mine.hd.view_39 []) mean mg mb h₀) (hk : cs.kind = .function)
  {l : Addr} {es : List Ent} {e : Ent} {n : Nat}
  (N : News h₀ L s.heap ((l, listOf (vals es).toArray n) :: news)) (hd : ∀ p ∈ news, p.1 ≠ l) (hm : ∀ e ∈ es, (e.a, e.obj) ∈ news) (he : (e.a, e.obj) ∈ news)
  (hz : es.length ≤ 10000) (hi : Hp Ent.lt es)
  (hdp : dp + 2 < recursionLimit) (hun : un + 40 < cLine)
  (ret : ∀ es' n' h' tk', es'.Perm (es ++ [e]) → Hp Ent.lt es' → Fr h₀ L h' m → News h₀ L h' ((l, listOf (vals es').toArray n') :: news) → Q .none { s with heap := h', toks := tk' }) :
  wpAny (model Challenge.rw_mq0126_01.row.prog w) (ktrTop dp un gd cn cs L a ccd cl outer) (call (.ref 56) [.ref l, .ref e.a]) Q E s := by
  refine enter (binds := [(Str.ofString "heap", .ref l), (Str.ofString "item", .ref e.a)]) B F X N T rfl rfl hk (by k_is) (by k_is) (by ktr_room) (BindsTo.of_eq rfl) (locs rfl) ?_ rfl rfl rfl (by decide)
  intro g L' h₁ FG F' N' B' X' T'
  walk_at "go"
  refine append_K F' N' (Upd.head hd) ?_ (by simp [vals_length, sizeLine_eq]; omega)
  rw [vals_push]
  intro h2 F2 N2
  walk_at "go"
  refine kun_lenL (N2.isList (.head _)) (k := ((es.length + 1 : Nat) : Int)) (by simp [vals_length]) (by omega) ?_
  walk_at "go"
  rw [show (((es.length + 1 : Nat) : Int) - 1) = ((es.length : Nat) : Int) by omega]
  refine c_siftdown (es := es ++ [e]) (pos := es.length) B' F2 X' T' rfl N2 hd ?_ (by simp) (by simp; omega) hi.push (by ktr_room) (by ktr_units) ?_
  · intro f hf
    rcases List.mem_append.mp hf with hf | hf
    · exact hm f hf
    · rw [List.mem_singleton.mp hf]; exact he
  intro es' n' h9 tk9 hp9 hh9 F9 N9
  walk_at "go"
  exact ret _ _ _ _ hp9 hh9 (by assumption) (by assumption)

theorem c_heappop
  (B : Below A₀ base outer h₀) (F : Fr h₀ L s.heap m) (X : (Mine.hd.heap_39 w.params).In h₀) (T : Top Mine.hd.view_39 (looseW Mine.hd.view_39 []) mean mg mb h₀) (hk : cs.kind = .function)
  {l : Addr} {es : List Ent} {n : Nat}
  (N : News h₀ L s.heap ((l, listOf (vals es).toArray n) :: news)) (hd : ∀ p ∈ news, p.1 ≠ l) (hm : ∀ e ∈ es, (e.a, e.obj) ∈ news)
  (hne : 0 < es.length) (hz : es.length ≤ 10000) (hi : Hp Ent.lt es)
  (hdp : dp + 3 < recursionLimit) (hun : un + 50 < cLine)
  (ret : ∀ e es' n' h' tk', es.Perm (e :: es') → (∀ f ∈ es, f.lt e = false) → Hp Ent.lt es' → Fr h₀ L h' m → News h₀ L h' ((l, listOf (vals es').toArray n') :: news) → Q (.ref e.a) { s with heap := h', toks := tk' }) :
  wpAny (model Challenge.rw_mq0126_01.row.prog w) (ktrTop dp un gd cn cs L a ccd cl outer) (call (.ref 63) [.ref l]) Q E s := by
  refine enter (binds := [(Str.ofString "heap", .ref l)]) B F X N T rfl rfl hk (by k_is) (by k_is) (by ktr_room) (BindsTo.of_eq rfl) (locs rfl) ?_ rfl rfl rfl (by decide)
  intro g L' h₁ FG F' N' B' X' T'
  obtain ⟨fs, x, rfl⟩ : ∃ fs x, es = fs ++ [x] := ⟨es.dropLast, es.getLast (by intro e; rw [e] at hne; exact absurd hne (Nat.lt_irrefl _)), (List.dropLast_concat_getLast _).symm⟩
  have hzl : fs.length + 1 ≤ 10000 := by simpa using hz
  walk_at "go"
  refine kl_pop F' N' (p := vals fs) (y := .ref x.a) (by rw [vals_append]; exact kpa_last _ _) (Upd.head hd) (by simp [vals_length, sizeLine_eq]; omega) ?_
  intro h2 F2 N2
  walk_at "go"
  rename Fr g L' _ _ => F3
  rename News g L' _ _ => N3
  refine wpAny_truthy_list (N3.isList (.head _)) (by simp [vals_length]; omega) ?_
  walk_at "go"
  · rename Array.isEmpty _ = true => hem
    have hfs : fs = [] := by
      cases fs with
      | nil => rfl
      | cons y gs => simp [vals] at hem
    subst hfs
    refine ret x [] _ _ _ (.refl _) ?_ (fun i a b hi ha hb => nomatch ha) (by assumption) (by assumption)
    intro f hf
    rw [List.mem_singleton.mp hf]
    exact ent_irr _
  · rename Array.isEmpty _ = false => hem
    obtain ⟨y, gs, rfl⟩ : ∃ y gs, fs = y :: gs := by
      cases fs with
      | nil => simp [vals] at hem
      | cons y gs => exact ⟨y, gs, rfl⟩
    refine gi N3 (.head _) (k := 0) rfl (e := y) rfl (by simp at hzl ⊢; omega) ?_
    walk_at "go"
    rename Fr g L' _ _ => F4
    rename News g L' _ _ => N4
    refine si (e := x) F4 N4 hd (k := 0) rfl (by simp) (by simp at hzl ⊢; omega) ?_
    intro h5 F5 N5
    walk_at "go"
    rename Fr g L' _ _ => F6
    rename News g L' _ _ => N6
    refine c_siftup (es := x :: gs) B' F6 X' T' rfl N6 hd ?_ (by simp) (by simp at hzl ⊢; omega) hi.pop (by ktr_room) (by ktr_units) ?_
    · intro f hf
      refine hm f ?_
      rcases List.mem_cons.mp hf with rfl | hf
      · simp
      · simp [hf]
    intro es' n' h9 tk9 hp9 hh9 F9 N9
    walk_at "go"
    refine ret y es' _ _ _ ?_ ?_ hh9 (by assumption) (by assumption)
    · exact (List.Perm.cons y ((List.perm_append_singleton x gs).trans hp9.symm))
    · intro f hf
      obtain ⟨i, hi', rfl⟩ := List.getElem_of_mem hf
      exact hi.least ord_ent ent_irr (y := y) rfl i _ (List.getElem?_eq_getElem hi')
end
end Mine

-- part B3
namespace Mine

section
variable {prog : Program} {w : World} {A : Around} {E : Value → Shared → Prop} {s : Shared} {h₀ : Heap} {L : Addr} {env : Env} {Q : Flow → Shared → Prop}

def ForPost (h₀ : Heap) (L : Addr) (s : Shared) (Q : Flow → Shared → Prop) (I : Addr) (oI : Obj) (J : (Str → Option Value) → List (Addr × Obj) → Prop) (f : Flow) (s₃ : Shared) : Prop :=
  match f with
  | .next | .cont => ∃ h' tk m' nw', s₃ = { s with heap := h', toks := tk } ∧ Fr h₀ L h' m' ∧ News h₀ L h' ((I, oI) :: nw') ∧ (∀ p ∈ nw', p.1 ≠ I) ∧ J m' nw'
  | .brk => Q .next s₃
  | .ret v => Q (.ret v) s₃

theorem for_end {I : Addr} {oI : Obj} {J : (Str → Option Value) → List (Addr × Obj) → Prop} {h' : Heap} {tk : Nat} {m' : Str → Option Value} {all nw' : List (Addr × Obj)}
    (F : Fr h₀ L h' m') (N : News h₀ L h' all) (hI : (I, oI) ∈ all) (hs : ∀ p ∈ nw', p ∈ all) (hoff : ∀ p ∈ nw', p.1 ≠ I) (hJ : J m' nw') : ForPost h₀ L s Q I oI J .next { s with heap := h', toks := tk } :=
  ⟨h', tk, m', nw', rfl, F, fun p hp => by rcases List.mem_cons.mp hp with rfl | hp; exact N _ hI; exact N p (hs p hp), hoff, hJ⟩

theorem for_walk {target : Expr} {body : List Stmt} {I : Addr} {fp : List Addr} {n : Nat} {P : Nat → Value → Prop} {St : Nat → Heap → Prop} {m₀ : Str → Option Value} {news₀ : List (Addr × Obj)} {R : Value → Shared → Prop}
    (W : Walks prog w A I fp [I] n P St) (hIo : ∀ i h, St i h → ∃ o, h.get? I = some o) (S : List (Addr × Obj) → Prop)
    (hSt : ∀ i h h' o nw, St i h → h.get? I = some o → h'.get? I = some o → (∀ b o, h₀.get? b = some o → h'.get? b = some o) → News h₀ L h' nw → S nw → St i h')
    (J : Nat → (Str → Option Value) → List (Addr × Obj) → Prop)
    (hst : St 0 s.heap) (F : Fr h₀ L s.heap m₀) (N : News h₀ L s.heap news₀) (hIL : L ≠ I) (hI₀ : h₀.get? I = none) (off : ∀ p ∈ news₀, p.1 ≠ I) (hS : ∀ i m nw, J i m nw → S nw) (hJ : J 0 m₀ news₀)
    (turn : ∀ i v m₁ nw oI h tk, i < n → P i v → J i m₁ nw → (∀ p ∈ nw, p.1 ≠ I) → St (i + 1) h → Fr h₀ L h m₁ → News h₀ L h ((I, oI) :: nw) →
      wpAny (model prog w) A (letOwnedTupleGo target (.ref I) v) (fun _ s₁ => wpAny (model prog w) A (assign target env v) (fun _ s₂ => wpAny (model prog w) A (execs body env) (ForPost h₀ L s Q I oI (J (i + 1))) (fun _ _ => False) s₂) (fun _ _ => False) s₁) (fun _ _ => False) { s with heap := h, toks := tk })
    (done : ∀ m₁ nw h tk, J n m₁ nw → Fr h₀ L h m₁ → News h₀ L h nw → Q .next { s with heap := h, toks := tk }) :
    codeAny (model prog w) A (.forLoop target (.ref I) body [] env) (fun r s' => match r with | .ok f => Q f s' | .error e => R e s') s := by
  refine codeAny_forLoop_any (fun k s' => ∃ h tk i m nw, s' = { s with heap := h, toks := tk } ∧ i ≤ n ∧ k = n + 1 - i ∧ St i h ∧ Fr h₀ L h m ∧ News h₀ L h nw ∧ (∀ p ∈ nw, p.1 ≠ I) ∧ J i m nw) ?_ (n + 1)
    ⟨s.heap, s.toks, 0, m₀, news₀, rfl, Nat.zero_le _, rfl, hst, F, N, off, hJ⟩
  rintro k s' ⟨h, tk, i, m, nw, rfl, hi, rfl, hst', F', N', off', hJ'⟩
  by_cases hlt : i < n
  · refine W.item i _ _ _ hlt hst' fun v h₂ tk₂ hPv hst₂ hk₂ => ?_
    dsimp only
    obtain ⟨oI, heI⟩ := hIo _ _ hst₂
    have F₂ : Fr h₀ L h₂ m := LCg.fr_but F' hk₂ hIL hI₀
    have N₂ : News h₀ L h₂ nw := LCg.news_but N' hk₂ off'
    have N₃ : News h₀ L h₂ ((I, oI) :: nw) := fun p hp => by
      rcases List.mem_cons.mp hp with rfl | hp
      · exact ⟨heI, Ne.symm hIL, hI₀⟩
      · exact N₂ p hp
    refine wpAny_mono (turn i v m nw oI h₂ tk₂ hlt hPv hJ' off' hst₂ F₂ N₃) (fun _ s₁ h₁ => ?_) (fun _ _ x => x.elim)
    refine wpAny_mono h₁ (fun _ s₂ h₂' => ?_) (fun _ _ x => x.elim)
    refine wpAny_mono h₂' (fun f s₃ h₃ => ?_) (fun _ _ x => x.elim)
    cases f with
    | brk => exact h₃
    | ret v => exact h₃
    | next =>
      obtain ⟨h', tk', m', nw', rfl, F4, N4, off4, hJ4⟩ := h₃
      exact ⟨n + 1 - (i + 1), by omega, h', tk', i + 1, m', nw', rfl, hlt, rfl, hSt _ _ _ _ _ hst₂ heI (N4 _ (.head _)).1 F4.keep (fun p hp => N4 p (.tail _ hp)) (hS _ _ _ hJ4), F4, fun p hp => N4 p (.tail _ hp), off4, hJ4⟩
    | cont =>
      obtain ⟨h', tk', m', nw', rfl, F4, N4, off4, hJ4⟩ := h₃
      exact ⟨n + 1 - (i + 1), by omega, h', tk', i + 1, m', nw', rfl, hlt, rfl, hSt _ _ _ _ _ hst₂ heI (N4 _ (.head _)).1 F4.keep (fun p hp => N4 p (.tail _ hp)) (hS _ _ _ hJ4), F4, fun p hp => N4 p (.tail _ hp), off4, hJ4⟩
  · obtain rfl : i = n := Nat.le_antisymm hi (Nat.not_lt.mp hlt)
    refine W.done _ _ _ hst' fun h₂ tk₂ hk₂ => ?_
    dsimp only
    exact wpAny_execs_nil (done m nw h₂ tk₂ hJ' (LCg.fr_but F' hk₂ hIL hI₀) (LCg.news_but N' hk₂ off'))

/-- a for over a list of the ledger -/
theorem for_list {target : Expr} {body : List Stmt} {l : Addr} {vs : List Value} {n : Nat} {m₀ : Str → Option Value} {news₀ : List (Addr × Obj)} {R : Value → Shared → Prop}
    (hh : A.handled = none) (J : Nat → (Str → Option Value) → List (Addr × Obj) → Prop)
    (F : Fr h₀ L s.heap m₀) (N : News h₀ L s.heap news₀) (hl : ∀ i m nw, J i m nw → (l, listOf vs.toArray n) ∈ nw) (hJ : J 0 m₀ news₀)
    (turn : ∀ i v m₁ nw I oI h tk, vs[i]? = some v → J i m₁ nw → (∀ p ∈ nw, p.1 ≠ I) → h.IsListIter I l (i + 1) → Fr h₀ L h m₁ → News h₀ L h ((I, oI) :: nw) →
      wpAny (model prog w) A (letOwnedTupleGo target (.ref I) v) (fun _ s₁ => wpAny (model prog w) A (assign target env v) (fun _ s₂ => wpAny (model prog w) A (execs body env) (ForPost h₀ L s Q I oI (J (i + 1))) (fun _ _ => False) s₂) (fun _ _ => False) s₁) (fun _ _ => False) { s with heap := h, toks := tk })
    (done : ∀ m₁ nw h tk, J vs.length m₁ nw → Fr h₀ L h m₁ → News h₀ L h nw → Q .next { s with heap := h, toks := tk }) :
    wpAny (model prog w) A (pyIter (.ref l)) (fun it s₂ => codeAny (model prog w) A (.forLoop target it body [] env) (fun r s' => match r with | .ok f => Q f s' | .error e => R e s') s₂) E s := by
  have hm := hl _ _ _ hJ
  have hls : s.heap.IsList l vs.toArray := N.isList hm
  have hne : l ≠ s.heap.objs.size := Nat.ne_of_lt (Heap.lt_size (N _ hm).1)
  refine wpAny_pyIter_list hls ?_
  have up : ∀ b o, s.heap.get? b = some o → (s.heap.push { cls := .type "list_iterator", data := .fields #[.ref l, .int 0 0] }).get? b = some o := fun b o e => Heap.get?_push_of_some _ e
  refine for_walk (s := { s with heap := _ }) (Walks.list (prog := prog) (w := w) hh s.heap.objs.size l hne vs.toArray) (fun i h st => by obtain ⟨o, e, _⟩ := st.1; exact ⟨o, e⟩) (LCg.SrcAt h₀ l vs.toArray) LCg.list_st J ⟨⟨_, Heap.get?_push_size _ rfl, rfl, rfl⟩, hls.push _⟩
    (F.keeps up) (N.grown up) (Nat.ne_of_lt F.ns.lt) (next_is_new F) (fun p hp => Nat.ne_of_lt (Heap.lt_size (N p hp).1)) (fun i m nw h => .inr ⟨_, hl i m nw h, rfl, _, rfl⟩) hJ ?_ ?_
  · intro i v m₁ nw oI h tk hi hP hj off st F' N'
    exact turn i v m₁ nw _ oI h tk (by simpa using hP) hj off st.1 F' N'
  · intro m₁ nw h tk hj F' N'
    exact done m₁ nw h tk (by simpa using hj) F' N'

theorem tuple_st {ax I : Addr} {its : Array Value} {k : Nat} : ∀ i (h h' : Heap) (o : Obj) (nw : List (Addr × Obj)), (h.IsTupleIter I ax i ∧ h.IsTuple ax its) → h.get? I = some o → h'.get? I = some o → (∀ b o, h₀.get? b = some o → h'.get? b = some o) → News h₀ L h' nw → (ax, ({ cls := .type "tuple", data := .seq its k } : Obj)) ∈ nw → (h'.IsTupleIter I ax i ∧ h'.IsTuple ax its) :=
  fun i h h' o nw st e e' _ N S => ⟨by obtain ⟨o', q, r⟩ := st.1; rw [e] at q; cases q; exact ⟨o, e', r⟩, ⟨_, (N _ S).1, rfl, _, rfl⟩⟩

/-- a for over a tuple of the ledger -/
theorem for_tuple {target : Expr} {body : List Stmt} {l : Addr} {vs : List Value} {n : Nat} {m₀ : Str → Option Value} {news₀ : List (Addr × Obj)} {R : Value → Shared → Prop}
    (hh : A.handled = none) (J : Nat → (Str → Option Value) → List (Addr × Obj) → Prop)
    (F : Fr h₀ L s.heap m₀) (N : News h₀ L s.heap news₀) (hl : ∀ i m nw, J i m nw → (l, ({ cls := .type "tuple", data := .seq vs.toArray n } : Obj)) ∈ nw) (hJ : J 0 m₀ news₀)
    (turn : ∀ i v m₁ nw I oI h tk, vs[i]? = some v → J i m₁ nw → (∀ p ∈ nw, p.1 ≠ I) → Fr h₀ L h m₁ → News h₀ L h ((I, oI) :: nw) →
      wpAny (model prog w) A (letOwnedTupleGo target (.ref I) v) (fun _ s₁ => wpAny (model prog w) A (assign target env v) (fun _ s₂ => wpAny (model prog w) A (execs body env) (ForPost h₀ L s Q I oI (J (i + 1))) (fun _ _ => False) s₂) (fun _ _ => False) s₁) (fun _ _ => False) { s with heap := h, toks := tk })
    (done : ∀ m₁ nw h tk, J vs.length m₁ nw → Fr h₀ L h m₁ → News h₀ L h nw → Q .next { s with heap := h, toks := tk }) :
    wpAny (model prog w) A (pyIter (.ref l)) (fun it s₂ => codeAny (model prog w) A (.forLoop target it body [] env) (fun r s' => match r with | .ok f => Q f s' | .error e => R e s') s₂) E s := by
  have hm := hl _ _ _ hJ
  have hls : s.heap.IsTuple l vs.toArray := ⟨_, (N _ hm).1, rfl, _, rfl⟩
  have hne : l ≠ s.heap.objs.size := Nat.ne_of_lt (Heap.lt_size (N _ hm).1)
  refine wpAny_pyIter_tuple hls ?_
  have up : ∀ b o, s.heap.get? b = some o → (s.heap.push { cls := .type "tuple_iterator", data := .fields #[.ref l, .int 0 0] }).get? b = some o := fun b o e => Heap.get?_push_of_some _ e
  refine for_walk (s := { s with heap := _ }) (Walks.tuple (prog := prog) (w := w) hh s.heap.objs.size l hne vs.toArray) (fun i h st => by obtain ⟨o, e, _⟩ := st.1; exact ⟨o, e⟩) (fun nw => (l, ({ cls := .type "tuple", data := .seq vs.toArray n } : Obj)) ∈ nw) tuple_st J ⟨⟨_, Heap.get?_push_size _ rfl, rfl, rfl⟩, ⟨_, up _ _ (N _ hm).1, rfl, _, rfl⟩⟩
    (F.keeps up) (N.grown up) (Nat.ne_of_lt F.ns.lt) (next_is_new F) (fun p hp => Nat.ne_of_lt (Heap.lt_size (N p hp).1)) hl hJ ?_ ?_
  · intro i v m₁ nw oI h tk hi hP hj off st F' N'
    exact turn i v m₁ nw _ oI h tk (by simpa using hP) hj off F' N'
  · intro m₁ nw h tk hj F' N'
    exact done m₁ nw h tk (by simpa using hj) F' N'

/-- the frame between the turns: what is not stored stands as it stood -/
theorem fr_canon {h : Heap} {m₀ m₁ : Str → Option Value} (stored : List Str) (F : Fr h₀ L h m₁) (hm : ∀ z, stored.contains z = false → m₁ z = m₀ z) : Fr h₀ L h (fun z => if stored.contains z then m₁ z else m₀ z) := by
  have e : (fun z => if stored.contains z then m₁ z else m₀ z) = m₁ := by
    funext z
    cases hz : stored.contains z with
    | true => simp
    | false => simp only [Bool.false_eq_true, if_false]; exact (hm z hz).symm
  rw [e]; exact F
end
end Mine

-- part P1
namespace Mine
abbrev S (l : List Nat) : Str := ⟨l.toArray⟩
/-- what unctrl writes of the sign of code c -/
def uc (c : Nat) : List Nat :=
  let rep := if c = 127 then [94, 63] else if 32 ≤ c % 128 ∧ c % 128 ≤ 126 then [c % 128] else [94, if c % 128 = 127 then 159 else c % 128 + 64]
  if 128 ≤ c then 33 :: rep else rep

theorem and127 (c : Nat) (h : c < 256) : Builtin.bitAnd (c : Int) 127 = ((c % 128 : Nat) : Int) := by
  have : ∀ c : Fin 256, Builtin.bitAnd ((c.val : Nat) : Int) 127 = ((c.val % 128 : Nat) : Int) := by decide +kernel
  exact this ⟨c, h⟩
theorem and31 (c : Nat) (h : c < 256) : Builtin.bitAnd (c : Int) 31 = ((c % 32 : Nat) : Int) := by
  have : ∀ c : Fin 256, Builtin.bitAnd ((c.val : Nat) : Int) 31 = ((c.val % 32 : Nat) : Int) := by decide +kernel
  exact this ⟨c, h⟩
theorem or128 (c : Nat) (h : c < 256) : Builtin.bitOr (c : Int) 128 = ((c % 128 + 128 : Nat) : Int) := by
  have : ∀ c : Fin 256, Builtin.bitOr ((c.val : Nat) : Int) 128 = ((c.val % 128 + 128 : Nat) : Int) := by decide +kernel
  exact this ⟨c, h⟩
theorem or32 (c : Nat) (h : c < 128) (h2 : ¬ (32 ≤ c ∧ c ≤ 126)) : Builtin.bitOr (c : Int) 32 = (((if c = 127 then 127 else c + 32 : Nat)) : Int) := by
  have : ∀ c : Fin 128, ¬ (32 ≤ c.val ∧ c.val ≤ 126) → Builtin.bitOr ((c.val : Nat) : Int) 32 = (((if c.val = 127 then 127 else c.val + 32 : Nat)) : Int) := by decide +kernel
  exact this ⟨c, h⟩ h2
theorem and128 (c : Nat) (h : c < 256) : Builtin.bitAnd (c : Int) 128 = (((if 128 ≤ c then 128 else 0 : Nat)) : Int) := by
  have : ∀ c : Fin 256, Builtin.bitAnd ((c.val : Nat) : Int) 128 = (((if 128 ≤ c.val then 128 else 0 : Nat)) : Int) := by decide +kernel
  exact this ⟨c, h⟩
theorem uc_a (c : Nat) (h : c = 127) : Str.ofString "^?" = S (uc c) := by subst h; decide +kernel
theorem uc_b (c : Nat) (h : c < 256) (h1 : 32 ≤ c % 128 ∧ c % 128 ≤ 126) (h2 : 128 ≤ c) : Str.ofString "!" ++ S [c % 128] = S (uc c) := by
  have : ∀ c : Fin 256, (32 ≤ c.val % 128 ∧ c.val % 128 ≤ 126) → 128 ≤ c.val → Str.ofString "!" ++ S [c.val % 128] = S (uc c.val) := by decide +kernel
  exact this ⟨c, h⟩ h1 h2
theorem uc_c (c : Nat) (h : c < 256) (h0 : c ≠ 127) (h1 : 32 ≤ c % 128 ∧ c % 128 ≤ 126) (h2 : ¬ 128 ≤ c) : S [c % 128] = S (uc c) := by
  have : ∀ c : Fin 256, c.val ≠ 127 → (32 ≤ c.val % 128 ∧ c.val % 128 ≤ 126) → ¬ 128 ≤ c.val → S [c.val % 128] = S (uc c.val) := by decide +kernel
  exact this ⟨c, h⟩ h0 h1 h2
theorem uc_d (c : Nat) (h : c < 256) (h0 : c ≠ 127) (h1 : ¬ (32 ≤ c % 128 ∧ c % 128 ≤ 126)) (h2 : 128 ≤ c) : Str.ofString "!" ++ (Str.ofString "^" ++ S [(if c % 128 = 127 then 127 else c % 128 + 32) + 32]) = S (uc c) := by
  have : ∀ c : Fin 256, c.val ≠ 127 → ¬ (32 ≤ c.val % 128 ∧ c.val % 128 ≤ 126) → 128 ≤ c.val → Str.ofString "!" ++ (Str.ofString "^" ++ S [(if c.val % 128 = 127 then 127 else c.val % 128 + 32) + 32]) = S (uc c.val) := by decide +kernel
  exact this ⟨c, h⟩ h0 h1 h2
theorem uc_e (c : Nat) (h : c < 256) (h0 : c ≠ 127) (h1 : ¬ (32 ≤ c % 128 ∧ c % 128 ≤ 126)) (h2 : ¬ 128 ≤ c) : Str.ofString "^" ++ S [(if c % 128 = 127 then 127 else c % 128 + 32) + 32] = S (uc c) := by
  have : ∀ c : Fin 256, c.val ≠ 127 → ¬ (32 ≤ c.val % 128 ∧ c.val % 128 ≤ 126) → ¬ 128 ≤ c.val → Str.ofString "^" ++ S [(if c.val % 128 = 127 then 127 else c.val % 128 + 32) + 32] = S (uc c.val) := by decide +kernel
  exact this ⟨c, h⟩ h0 h1 h2
theorem sign_item (i : Int) (h0 : 0 ≤ i) (h1 : i < 16) : ∃ c, c < 256 ∧ Txt.item (Str.ofString "!^?A_\x7f\x01\x1e\x1f¡Þ¿Á\x81\x9e\x9f") i = S [c] := by
  have : ∀ i : Fin 16, Txt.item (Str.ofString "!^?A_\x7f\x01\x1e\x1f¡Þ¿Á\x81\x9e\x9f") ((i.val : Nat) : Int) = S [(Txt.item (Str.ofString "!^?A_\x7f\x01\x1e\x1f¡Þ¿Á\x81\x9e\x9f") ((i.val : Nat) : Int)).cps.getD 0 0] ∧ (Txt.item (Str.ofString "!^?A_\x7f\x01\x1e\x1f¡Þ¿Á\x81\x9e\x9f") ((i.val : Nat) : Int)).cps.getD 0 0 < 256 := by decide +kernel
  obtain ⟨k, rfl⟩ := Int.eq_ofNat_of_zero_le h0
  have z := this ⟨k, by omega⟩
  exact ⟨_, z.2, z.1⟩
end Mine

-- part P2
namespace Mine
def mnHL (h : List Nat) (c : Nat) : Option Nat :=
  if c < 32 ∨ 126 < c then (if h = [33, 94] ∧ c = 159 then some 255 else none)
  else if h = [] then some c
  else if h = [33] then some (128 + c)
  else if h = [94] then (if c = 63 then some 127 else if 64 ≤ c ∧ c ≤ 95 then some (c - 64) else none)
  else if h = [33, 94] ∧ 64 ≤ c ∧ c ≤ 95 then some (128 + (c - 64)) else none
def mS : Option Nat → Str
  | some d => S [d]
  | none => S []

theorem S_inj {a b : List Nat} : S a = S b ↔ a = b := by
  constructor
  · intro h; injection h with h; exact List.toArray_inj h
  · rintro rfl; rfl
theorem S_append (a b : List Nat) : S a ++ S b = S (a ++ b) := by
  show Str.append (S a) (S b) = _
  unfold Str.append
  simp
theorem lit_sp : Str.ofString " " = S [32] := by decide +kernel
theorem lit_ti : Str.ofString "~" = S [126] := by decide +kernel
theorem lit_e : Str.ofString "" = S [] := by decide +kernel
theorem lit_ex : Str.ofString "!" = S [33] := by decide +kernel
theorem lit_ca : Str.ofString "^" = S [94] := by decide +kernel
theorem lit_ec : Str.ofString "!^" = S [33, 94] := by decide +kernel
theorem lit_ec9 : Str.ofString "!^\x9f" = S [33, 94, 159] := by decide +kernel
theorem lit_q : Str.ofString "?" = S [63] := by decide +kernel
theorem lit_y : Str.ofString "ÿ" = S [255] := by decide +kernel
theorem lit_7f : Str.ofString "\x7f" = S [127] := by decide +kernel
theorem lit_01 : Str.ofString "\x01" = S [1] := by decide +kernel
theorem one_lt (a b : Nat) : (S [a]).cps.toList < (S [b]).cps.toList ↔ a < b := by
  show [a] < [b] ↔ _
  constructor
  · intro h
    cases h with
    | rel h => exact h
    | cons h => exact absurd h (List.not_lt_nil _)
  · intro h; exact List.Lex.rel h
theorem lt_sp_iff (c : Nat) : (S [c]).cps.toList < (Str.ofString " ").cps.toList ↔ c < 32 := by rw [lit_sp]; exact one_lt c 32
theorem gt_ti_iff (c : Nat) : (Str.ofString "~").cps.toList < (S [c]).cps.toList ↔ 126 < c := by rw [lit_ti]; exact one_lt 126 c
theorem low_find (c : Nat) (hc : c < 256) : Txt.find (Str.ofString "@ABCDEFGHIJKLMNOPQRSTUVWXYZ[\\]^_") (S [c]) = (if 64 ≤ c ∧ c ≤ 95 then (c : Int) - 64 else -1) := by
  have : ∀ c : Fin 256, Txt.find (Str.ofString "@ABCDEFGHIJKLMNOPQRSTUVWXYZ[\\]^_") (S [c.val]) = (if 64 ≤ c.val ∧ c.val ≤ 95 then (c.val : Int) - 64 else -1) := by decide +kernel
  exact this ⟨c, hc⟩
section
variable {hd : List Nat} {c : Nat}
theorem me1 (h : hd ++ [c] = [33, 94, 159]) : hd = [33, 94] ∧ c = 159 := by
  have h' : hd ++ [c] = [33, 94] ++ [159] := h
  have := List.append_inj' h' rfl
  exact ⟨this.1, by simpa using this.2⟩
theorem mm0 (hA : c < 32) (h : hd ++ [c] = [33, 94, 159]) : S [255] = mS (mnHL hd c) := by
  have := (me1 h).2; omega
theorem mm1 (hA : c < 32) : S [] = mS (mnHL hd c) := by
  unfold mnHL
  rw [if_pos (.inl hA), if_neg (by omega)]; rfl
theorem mm2 (hB : 126 < c) (h : hd ++ [c] = [33, 94, 159]) : S [255] = mS (mnHL hd c) := by
  unfold mnHL
  rw [if_pos (.inr hB), if_pos (me1 h)]; rfl
theorem mm3 (hB : 126 < c) (h : ¬ (hd ++ [c] = [33, 94, 159])) : S [] = mS (mnHL hd c) := by
  unfold mnHL
  rw [if_pos (.inr hB), if_neg (by rintro ⟨rfl, rfl⟩; exact h rfl)]; rfl
theorem mm4 (hA : ¬ c < 32) (hB : ¬ 126 < c) (h : hd = []) : S [c] = mS (mnHL hd c) := by
  unfold mnHL
  rw [if_neg (by omega), if_pos h]; rfl
theorem mm5 (hA : ¬ c < 32) (hB : ¬ 126 < c) (h1 : ¬ hd = []) (h : hd = [33]) : S [(128 + (c : Int)).toNat] = mS (mnHL hd c) := by
  unfold mnHL
  rw [if_neg (by omega), if_neg h1, if_pos h]
  show S [(128 + (c : Int)).toNat] = S [128 + c]
  rw [show (128 + (c : Int)).toNat = 128 + c by omega]
theorem mm6 (hA : ¬ c < 32) (hB : ¬ 126 < c) (h1 : ¬ hd = []) (h2 : ¬ hd = [33]) (h3 : hd = [94]) (h4 : [c] = [63]) : S [127] = mS (mnHL hd c) := by
  have h4' : c = 63 := by simpa using h4
  unfold mnHL
  rw [if_neg (by omega), if_neg h1, if_neg h2, if_pos h3, if_pos h4']; rfl
theorem mm7 (hA : ¬ c < 32) (hB : ¬ 126 < c) (h1 : ¬ hd = []) (h2 : ¬ hd = [33]) (h3 : hd = [94]) (h4 : ¬ [c] = [63]) (h5 : 0 ≤ (if 64 ≤ c ∧ c ≤ 95 then (c : Int) - 64 else -1)) : S [(if 64 ≤ c ∧ c ≤ 95 then (c : Int) - 64 else -1).toNat] = mS (mnHL hd c) := by
  have h4' : ¬ c = 63 := by simpa using h4
  have h6 : 64 ≤ c ∧ c ≤ 95 := by
    by_cases h : 64 ≤ c ∧ c ≤ 95
    · exact h
    · rw [if_neg h] at h5; omega
  unfold mnHL
  rw [if_pos h6, if_neg (by omega), if_neg h1, if_neg h2, if_pos h3, if_neg h4', if_pos h6]
  show S [((c : Int) - 64).toNat] = S [c - 64]
  rw [show ((c : Int) - 64).toNat = c - 64 by omega]
theorem mm8 (hA : ¬ c < 32) (hB : ¬ 126 < c) (h1 : ¬ hd = []) (h2 : ¬ hd = [33]) (h3 : hd = [94]) (h4 : ¬ [c] = [63]) (h5 : ¬ 0 ≤ (if 64 ≤ c ∧ c ≤ 95 then (c : Int) - 64 else -1)) : S [] = mS (mnHL hd c) := by
  have h4' : ¬ c = 63 := by simpa using h4
  have h6 : ¬ (64 ≤ c ∧ c ≤ 95) := by
    intro h
    rw [if_pos h] at h5; omega
  unfold mnHL
  rw [if_neg (by omega), if_neg h1, if_neg h2, if_pos h3, if_neg h4', if_neg h6]; rfl
theorem mm9 (hA : ¬ c < 32) (hB : ¬ 126 < c) (h1 : ¬ hd = []) (h2 : ¬ hd = [33]) (h3 : ¬ hd = [94]) (h4 : hd = [33, 94]) (h5 : 0 ≤ (if 64 ≤ c ∧ c ≤ 95 then (c : Int) - 64 else -1)) : S [(128 + (if 64 ≤ c ∧ c ≤ 95 then (c : Int) - 64 else -1)).toNat] = mS (mnHL hd c) := by
  have h6 : 64 ≤ c ∧ c ≤ 95 := by
    by_cases h : 64 ≤ c ∧ c ≤ 95
    · exact h
    · rw [if_neg h] at h5; omega
  unfold mnHL
  rw [if_pos h6, if_neg (by omega), if_neg h1, if_neg h2, if_neg h3, if_pos ⟨h4, h6⟩]
  show S [(128 + ((c : Int) - 64)).toNat] = S [128 + (c - 64)]
  rw [show (128 + ((c : Int) - 64)).toNat = 128 + (c - 64) by omega]
theorem mm10 (hA : ¬ c < 32) (hB : ¬ 126 < c) (h1 : ¬ hd = []) (h2 : ¬ hd = [33]) (h3 : ¬ hd = [94]) (h4 : hd = [33, 94]) (h5 : ¬ 0 ≤ (if 64 ≤ c ∧ c ≤ 95 then (c : Int) - 64 else -1)) : S [] = mS (mnHL hd c) := by
  have h6 : ¬ (64 ≤ c ∧ c ≤ 95) := by
    intro h
    rw [if_pos h] at h5; omega
  unfold mnHL
  rw [if_neg (by omega), if_neg h1, if_neg h2, if_neg h3, if_neg (fun q => h6 q.2)]; rfl
theorem mm11 (hA : ¬ c < 32) (hB : ¬ 126 < c) (h1 : ¬ hd = []) (h2 : ¬ hd = [33]) (h3 : ¬ hd = [94]) (h4 : ¬ hd = [33, 94]) : S [] = mS (mnHL hd c) := by
  unfold mnHL
  rw [if_neg (by omega), if_neg h1, if_neg h2, if_neg h3, if_neg (fun q => h4 q.1)]; rfl
end
end Mine

-- part P3
namespace Mine
def pieceOf (tx : List Nat) (p w : Nat) : List Nat := (tx.drop p).take w
def mn (p : List Nat) : Option Nat := if p = [] then none else mnHL p.dropLast (p.getLastD 0)
def st1 (tx : List Nat) (p w : Nat) : List (Nat × Nat) := if p + w ≤ tx.length then (match mn (pieceOf tx p w) with | some d => [(d, p + w)] | none => []) else []
def stU (tx : List Nat) (p i : Nat) : List (Nat × Nat) := (List.range i).flatMap fun k => st1 tx p (k + 1)
theorem stU_succ (tx : List Nat) (p i : Nat) : stU tx p (i + 1) = stU tx p i ++ st1 tx p (i + 1) := by
  simp [stU, List.range_succ]
def EntsAre (es : List Ent) (l : List (Nat × Nat)) : Prop := es.map (fun e => (e.x, e.k)) = l.map (fun q => (S [q.1], (q.2 : Int)))
theorem EntsAre.nil : EntsAre [] [] := rfl
theorem EntsAre.append {a b : List Ent} {l k : List (Nat × Nat)} (h1 : EntsAre a l) (h2 : EntsAre b k) : EntsAre (a ++ b) (l ++ k) := by
  unfold EntsAre at *; rw [List.map_append, List.map_append, h1, h2]

/-- the reading of a piece is the sign that unctrl writes so -/
theorem mn_uc (c : Nat) (h : c < 256) : mn (uc c) = some c := by
  have : ∀ c : Fin 256, mn (uc c.val) = some c.val := by decide +kernel
  exact this ⟨c, h⟩
theorem uc_of_mnHL {h : List Nat} {c d : Nat} (e : mnHL h c = some d) : d < 256 ∧ uc d = h ++ [c] := by
  have k0 : ∀ c : Fin 160, ∀ d, mnHL [] c.val = some d → d < 256 ∧ uc d = [] ++ [c.val] := by decide +kernel
  have k1 : ∀ c : Fin 160, ∀ d, mnHL [33] c.val = some d → d < 256 ∧ uc d = [33] ++ [c.val] := by decide +kernel
  have k2 : ∀ c : Fin 160, ∀ d, mnHL [94] c.val = some d → d < 256 ∧ uc d = [94] ++ [c.val] := by decide +kernel
  have k3 : ∀ c : Fin 160, ∀ d, mnHL [33, 94] c.val = some d → d < 256 ∧ uc d = [33, 94] ++ [c.val] := by decide +kernel
  have hc : c < 160 := by
    unfold mnHL at e
    split at e
    · split at e
      · omega
      · cases e
    · omega
  have hh : h = [] ∨ h = [33] ∨ h = [94] ∨ h = [33, 94] := by
    unfold mnHL at e
    split at e
    · split at e
      · rename_i q; exact .inr (.inr (.inr q.1))
      · cases e
    · split at e
      · rename_i q; exact .inl q
      · split at e
        · rename_i q; exact .inr (.inl q)
        · split at e
          · rename_i q; exact .inr (.inr (.inl q))
          · split at e
            · rename_i q; exact .inr (.inr (.inr q.1))
            · cases e
  rcases hh with rfl | rfl | rfl | rfl
  · exact k0 ⟨c, hc⟩ d e
  · exact k1 ⟨c, hc⟩ d e
  · exact k2 ⟨c, hc⟩ d e
  · exact k3 ⟨c, hc⟩ d e
theorem uc_of_mn {p : List Nat} {d : Nat} (e : mn p = some d) : d < 256 ∧ uc d = p := by
  unfold mn at e
  split at e
  · cases e
  · rename_i hne
    have := uc_of_mnHL e
    refine ⟨this.1, this.2.trans ?_⟩
    rw [List.getLastD_eq_getLast?, List.getLast?_eq_some_getLast hne]
    exact List.dropLast_concat_getLast hne
theorem mn_iff {p : List Nat} {d : Nat} (hd : d < 256) : uc d = p ↔ mn p = some d := by
  constructor
  · rintro rfl; exact mn_uc d hd
  · intro e; exact (uc_of_mn e).2
def cand (c : Nat) : List Nat := [c, c % 32, c % 128 + 128, (c % 32) % 128 + 128, 127, 255]
theorem cand_uc (d : Nat) (hd : d < 256) : d ∈ cand ((uc d).getLastD 0) := by
  have : ∀ d : Fin 256, d.val ∈ cand ((uc d.val).getLastD 0) := by decide +kernel
  exact this ⟨d, hd⟩
theorem cand_lt {c : Nat} (hc : c < 256) : ∀ d ∈ cand c, d < 256 := by
  intro d hd
  simp only [cand, List.mem_cons, List.not_mem_nil, or_false] at hd
  omega
theorem pieceOf_length (tx : List Nat) (p w : Nat) : (pieceOf tx p w).length = min w (tx.length - p) := by simp [pieceOf]
theorem pieceOf_mem {tx : List Nat} {p w c : Nat} (h : c ∈ pieceOf tx p w) : c ∈ tx := List.mem_of_mem_drop (List.mem_of_mem_take h)
end Mine

-- part P4
namespace Mine
open PySem.Builtin PySem.Builtin.Str
theorem idx_eq (p q n : Nat) (hpq : p ≤ q) : strSliceIndices (some (p : Int)) (some (q : Int)) 1 n = (List.range (min q n - p)).map fun k => p + k := by
  unfold strSliceIndices sliceRange
  simp only [show (1 : Int) > 0 by decide, if_true, show ¬ ((p : Int) < 0) by omega, show ¬ ((q : Int) < 0) by omega, if_false]
  by_cases h : p < min q n
  · have e1 : max 0 (min (p : Int) n) = p := by omega
    have e2 : max 0 (min (q : Int) n) = ((min q n : Nat) : Int) := by omega
    rw [e1, e2, if_pos (by omega)]
    rw [show ((((min q n : Nat) : Int) - p + 1 - 1) / 1).toNat = min q n - p by omega]
    apply List.map_congr_left
    intro k _
    omega
  · have : min q n - p = 0 := by omega
    rw [this, if_neg (by omega)]
    rfl
theorem pick_eq (l : List Nat) : ∀ (k p : Nat), ((List.range k).map fun j => p + j).filterMap (fun i => l.toArray[i]?) = (l.drop p).take k
  | 0, p => by simp
  | k + 1, p => by
    rw [List.range_succ, List.map_append, List.filterMap_append, pick_eq l k p, List.take_add_one]
    congr 1
    simp only [List.map_cons, List.map_nil, List.getElem?_drop, List.getElem?_toArray]
    cases h : l[p + k]? with
    | none => simp [h]
    | some v => simp [h]
theorem slice_S (tx : List Nat) (p q : Nat) (hpq : p ≤ q) : Txt.slice (S tx) (some (p : Int)) (some (q : Int)) = S ((tx.drop p).take (q - p)) := by
  unfold Txt.slice
  have hlen : (S tx).length = tx.length := by show tx.toArray.size = _; simp
  have hpick : ((strSliceIndices (some (p : Int)) (some (q : Int)) 1 tx.length).filterMap ((S tx).cps[·]?)) = (tx.drop p).take (min q tx.length - p) := by
    rw [idx_eq p q _ hpq]
    exact pick_eq tx _ p
  have htake : (tx.drop p).take (min q tx.length - p) = (tx.drop p).take (q - p) := by
    by_cases h : q ≤ tx.length
    · rw [Nat.min_eq_left h]
    · rw [Nat.min_eq_right (by omega), List.take_of_length_le (by simp), List.take_of_length_le (by simp; omega)]
  rw [hlen]
  split
  · rename_i h
    have h2 : (strSliceIndices (some (p : Int)) (some (q : Int)) 1 tx.length).length = tx.length := by simpa using h
    rw [idx_eq p q _ hpq] at h2
    simp at h2
    rw [← htake, h2]
    congr 2
    by_cases h0 : tx.length = 0
    · have : tx = [] := List.eq_nil_of_length_eq_zero h0
      subst this; simp
    · have : p = 0 := by omega
      subst this
      simp
  · rw [hpick, htake]
theorem slice_S0 (tx : List Nat) (q : Nat) : Txt.slice (S tx) none (some (q : Int)) = S (tx.take q) := by
  have e : Txt.slice (S tx) none (some (q : Int)) = Txt.slice (S tx) (some ((0 : Nat) : Int)) (some (q : Int)) := by
    unfold Txt.slice
    have : ∀ n, strSliceIndices none (some (q : Int)) 1 n = strSliceIndices (some ((0 : Nat) : Int)) (some (q : Int)) 1 n := by
      intro n
      unfold strSliceIndices
      simp only [show (1 : Int) > 0 by decide, if_true]
      congr 1
    rw [this]
  rw [e, slice_S tx 0 q (Nat.zero_le _)]
  simp
theorem S_len (l : List Nat) : (S l).length = l.length := by show l.toArray.size = _; simp
theorem last_S {p : List Nat} (h : p ≠ []) : Txt.item (S p) (-1) = S [p.getLastD 0] := by
  have e : S p = S [] ++ S (p.dropLast ++ [p.getLastD 0]) := by
    rw [S_append, List.nil_append, S_inj, List.getLastD_eq_getLast?, List.getLast?_eq_some_getLast h]
    exact (List.dropLast_concat_getLast h).symm
  rw [e]
  exact item_last_right (S []) _ _
theorem strs_get : ∀ {l : List Nat} {vs : List Value}, StrsAre vs (l.map fun c => S [c]) → ∀ {j : Nat} {v : Value}, vs[j]? = some v → ∃ c t, l[j]? = some c ∧ v = .str (S [c]) t
  | [], _, .nil, _, _, hv => nomatch hv
  | c :: l, _, .cons _ t h, 0, v, hv => ⟨c, t, rfl, (Option.some.inj hv).symm⟩
  | c :: l, _, .cons _ t h, j + 1, v, hv => strs_get (l := l) h (j := j) hv
theorem strs_len : ∀ {l : List Str} {vs : List Value}, StrsAre vs l → vs.length = l.length
  | [], _, .nil => rfl
  | _ :: _, _, .cons _ _ h => congrArg (· + 1) (strs_len h)
theorem strOk_S {l : List Nat} (h : ∀ c ∈ l, c < 256) : PyData.strOk (S l) = true := by
  show (l.toArray.all fun c => c < 0x110000) = true
  simp only [List.all_toArray, List.all_eq_true, decide_eq_true_eq]
  intro c hc
  have := h c hc
  omega
theorem stU_mem {tx : List Nat} {p i : Nat} {q : Nat × Nat} (h : q ∈ stU tx p i) : q.1 < 256 ∧ p < q.2 ∧ q.2 ≤ p + i ∧ q.2 ≤ tx.length := by
  unfold stU at h
  obtain ⟨k, hk, hq⟩ := List.mem_flatMap.mp h
  have hk' := List.mem_range.mp hk
  unfold st1 at hq
  split at hq
  · rename_i hle
    split at hq
    · rename_i d e
      have := List.mem_singleton.mp hq
      subst this
      exact ⟨(uc_of_mn e).1, by simp only; omega, by simp only; omega, by simp only; omega⟩
    · cases hq
  · cases hq
theorem ents_mem {es : List Ent} {l : List (Nat × Nat)} (h : EntsAre es l) {e : Ent} (he : e ∈ es) : ∃ q ∈ l, e.x = S [q.1] ∧ e.k = (q.2 : Int) := by
  have : (e.x, e.k) ∈ es.map (fun e => (e.x, e.k)) := List.mem_map_of_mem he
  rw [h] at this
  obtain ⟨q, hq, hqe⟩ := List.mem_map.mp this
  injection hqe with h1 h2
  exact ⟨q, hq, h1.symm, h2.symm⟩
theorem ents_ok {es : List Ent} {tx : List Nat} {p i : Nat} (h : EntsAre es (stU tx p i)) : ∀ e ∈ es, PyData.strOk e.x = true := by
  intro e he
  obtain ⟨q, hq, hx, _⟩ := ents_mem h he
  rw [hx]
  exact strOk_S (by intro z hz; rw [List.mem_singleton.mp hz]; exact (stU_mem hq).1)
theorem any_no {es : List Ent} {tx : List Nat} {p i : Nat} (h : EntsAre es (stU tx p i)) (x : Str) : (!List.any (es ++ []) fun f => f.x == x && f.k == (p : Int) + ((i + 1 : Nat) : Int)) = true := by
  rw [List.append_nil, Bool.not_eq_true', List.any_eq_false]
  intro e he
  obtain ⟨q, hq, hx, hk⟩ := ents_mem h he
  have := stU_mem hq
  have hne : (e.k == (p : Int) + ((i + 1 : Nat) : Int)) = false := by
    rw [hk]
    simp only [beq_eq_false_iff_ne, ne_eq]
    omega
  rw [hne]
  simp
theorem any_yes {es : List Ent} {e0 : Ent} {c d p i : Nat} (hc : c < 256) (hd : d < 256) {pc : List Nat} (h1 : uc c = pc) (h2 : uc d = pc) (hx : e0.x = S [d]) (hk : e0.k = ((p + (i + 1) : Nat) : Int)) :
    (!List.any (es ++ [e0]) fun f => f.x == S [c] && f.k == (p : Int) + ((i + 1 : Nat) : Int)) = false := by
  have hcd : c = d := by
    have a := (mn_iff hc).mp h1
    have b := (mn_iff hd).mp h2
    rw [a] at b
    exact Option.some.inj b
  subst hcd
  rw [Bool.not_eq_false', List.any_append]
  have : (List.any [e0] fun f => f.x == S [c] && f.k == (p : Int) + ((i + 1 : Nat) : Int)) = true := by
    simp only [List.any_cons, List.any_nil, Bool.or_false]
    rw [hx, hk]
    simp
  rw [this, Bool.or_true]
theorem st1_some {tx : List Nat} {p w d : Nat} (h : p + w ≤ tx.length) (hd : d < 256) (e : uc d = pieceOf tx p w) : st1 tx p w = [(d, p + w)] := by
  unfold st1
  rw [if_pos h, (mn_iff hd).mp e]
theorem st1_none {tx : List Nat} {p w : Nat} {sg : List Nat} (e : ∀ c ∈ cand ((pieceOf tx p w).getLastD 0) ++ sg, uc c ≠ pieceOf tx p w) : st1 tx p w = [] := by
  unfold st1
  split
  · split
    · rename_i d hd
      have := uc_of_mn hd
      refine absurd this.2 (e d (List.mem_append_left _ ?_))
      have hc := cand_uc d this.1
      rw [this.2] at hc
      exact hc
    · rfl
  · rfl
theorem allLt_mem {d : Nat} : ∀ {l : List (Addr × Obj)}, AllLt d l → ∀ p ∈ l, p.1 < d
  | [], _, _, h => nomatch h
  | _ :: _, x, p, h => by
    rcases List.mem_cons.mp h with rfl | h
    · exact x.1
    · exact allLt_mem x.2 p h
theorem same1 {z y : Str} {α : Type} {a b c : α} (hz : [y].contains z = false) : (if z = y then a else if [y].contains z = true then b else c) = c := by
  have h1 : z ≠ y := by
    rintro rfl
    simp at hz
  rw [if_neg h1, if_neg (by rw [hz]; exact Bool.false_ne_true)]
theorem st1_length (tx : List Nat) (p w : Nat) : (st1 tx p w).length ≤ 1 := by
  unfold st1
  split
  · split <;> simp
  · simp
theorem stU_length (tx : List Nat) (p : Nat) : ∀ i, (stU tx p i).length ≤ i
  | 0 => by simp [stU]
  | i + 1 => by
    rw [stU_succ, List.length_append]
    have := stU_length tx p i
    have := st1_length tx p (i + 1)
    omega
theorem strs_snoc {x : Str} {t : Tok} : ∀ {vs : List Value} {l : List Str}, StrsAre vs l → StrsAre (vs ++ [.str x t]) (l ++ [x])
  | _, _, .nil => .cons _ _ .nil
  | _, _, .cons y u h => .cons y u (strs_snoc h)
theorem ents_get {es : List Ent} {l : List (Nat × Nat)} (h : EntsAre es l) {j : Nat} {e : Ent} (he : es[j]? = some e) : ∃ c k, l[j]? = some (c, k) ∧ e.x = S [c] ∧ e.k = (k : Int) := by
  have h1 : (es.map (fun e => (e.x, e.k)))[j]? = some (e.x, e.k) := by rw [List.getElem?_map, he]; rfl
  rw [h, List.getElem?_map] at h1
  cases hq : l[j]? with
  | none => rw [hq] at h1; cases h1
  | some q =>
    rw [hq] at h1
    have h2 := Option.some.inj h1
    injection h2 with h3 h4
    exact ⟨q.1, q.2, rfl, h3.symm, h4.symm⟩
theorem ents_length {es : List Ent} {l : List (Nat × Nat)} (h : EntsAre es l) : es.length = l.length := by
  have := congrArg List.length h
  simpa using this
theorem vals_get' {es : List Ent} {j : Nat} {v : Value} (h : (vals es)[j]? = some v) : ∃ e, es[j]? = some e ∧ v = .ref e.a := by
  unfold vals at h
  rw [List.getElem?_map] at h
  cases he : es[j]? with
  | none => rw [he] at h; cases h
  | some e => rw [he] at h; exact ⟨e, rfl, (Option.some.inj h).symm⟩
theorem same2 {z x y : Str} {α : Type} {a b c d : α} (hz : [x, y].contains z = false) : (if z = y then a else if z = x then b else if [x, y].contains z = true then c else d) = d := by
  have h1 : z ≠ x ∧ z ≠ y := by
    constructor <;> (rintro rfl; simp at hz)
  rw [if_neg h1.2, if_neg h1.1, if_neg (by rw [hz]; exact Bool.false_ne_true)]
theorem item_S {tx : List Nat} {i c : Nat} (h : tx[i]? = some c) : Txt.item (S tx) (i : Int) = S [c] := by
  refine item_meets (by omega) ?_
  simpa using h
theorem piece_split {tx : List Nat} {p j c : Nat} (h : tx[p + j]? = some c) : pieceOf tx p (j + 1) = (tx.drop p).take j ++ [c] := by
  unfold pieceOf
  rw [List.take_add_one, List.getElem?_drop, h]
  rfl
theorem mn_split {tx : List Nat} {p j c : Nat} (h : tx[p + j]? = some c) : mn (pieceOf tx p (j + 1)) = mnHL ((tx.drop p).take j) c := by
  rw [piece_split h]
  unfold mn
  rw [if_neg (by simp), List.dropLast_concat]
  simp
end Mine

-- part B4
namespace Mine
section
variable {prog : Program} {w : World} {A : Around} {E : Value → Shared → Prop} {s : Shared} {h₀ : Heap} {L l : Addr} {m : Str → Option Value} {news : List (Addr × Obj)} {es : List Ent} {n : Nat}

def Ent.dat (e : Ent) : PyData := .tuple [.str e.x, .int e.k]
theorem ent_reads {h : Heap} {e : Ent} (he : h.get? e.a = some e.obj) : Reads h (.ref e.a) e.dat [] :=
  reads_tuple_at he rfl rfl (ReadsAll.cons (as := []) (bs := []) (Reads.str _ _) (ReadsAll.cons (as := []) (bs := []) (Reads.int _ _) ReadsAll.nil))
theorem ents_reads {h : Heap} : ∀ {es : List Ent}, (∀ e ∈ es, h.get? e.a = some e.obj) → ReadsAll h (vals es) (es.map Ent.dat) []
  | [], _ => .nil
  | e :: r, he => ReadsAll.cons (as := []) (bs := []) (ent_reads (he e (.head _))) (ents_reads fun f hf => he f (.tail _ hf))
theorem ents_canLay (es : List Ent) (hok : ∀ e ∈ es, PyData.strOk e.x = true) : PyData.canLayAll0 (es.map Ent.dat) = true := by
  induction es with
  | nil => rfl
  | cons e r ih =>
    have h1 := ih fun f hf => hok f (.tail _ hf)
    simp only [List.map_cons, PyData.canLayAll0, Ent.dat, PyData.canLay0, hok e (.head _), Bool.true_and, Bool.and_true]
    exact h1
theorem ents_any (es : List Ent) (e : Ent) : ((es.map Ent.dat).any fun y => PyData.eqv y e.dat) = es.any fun f => f.x == e.x && f.k == e.k := by
  rw [List.any_map]
  congr 1
  funext f
  simp [Ent.dat, PyData.eqv, PyData.eqvAll]

theorem not_in_tup {e : Ent} {Q : Value → Shared → Prop} (N : News h₀ L s.heap news) (hm : (l, listOf (vals es).toArray n) ∈ news) (hes : ∀ e ∈ es, (e.a, e.obj) ∈ news) (he : (e.a, e.obj) ∈ news) (hu : A.units + 10 < cLine) (hok : ∀ e ∈ es, PyData.strOk e.x = true) (hok' : PyData.strOk e.x = true)
    (h : Q (.bool (!es.any fun f => f.x == e.x && f.k == e.k)) s) : wpAny (model prog w) A (compareOp .NotIn (.ref e.a) (.ref l)) Q E s := by
  refine SeqAt.notIn_list_reads (reads_list_at (N.get hm) rfl rfl (by simpa using ents_reads (es := es) fun f hf => N.get (hes f hf))) (ent_reads (N.get he)) (ents_canLay es hok) (by simp [Ent.dat, PyData.canLay0, PyData.canLayAll0, hok']) ?_ ?_
  · have h1 : e.dat.depth ≤ 1 := by simp [Ent.dat, PyData.depth, PyData.depthAll]
    have h2 := Nat.min_le_right (PyData.depthAll (es.map Ent.dat)) e.dat.depth
    omega
  · rw [ents_any]; exact h

theorem add_K {b : Addr} {vs ws : List Value} {n k : Nat} {Q : Value → Shared → Prop} (F : Fr h₀ L s.heap m) (N : News h₀ L s.heap news) (hl : (l, listOf vs.toArray n) ∈ news) (hb : (b, listOf ws.toArray k) ∈ news)
    (h : ∀ l' h', Fr h₀ L h' m → News h₀ L h' ((l', listOf (vs ++ ws).toArray 0) :: news) → (∀ p ∈ news, p.1 < l') → Q (.ref l') { s with heap := h' })
    (hsz : vs.length + ws.length ≤ sizeLine) : wpAny (model prog w) A (binaryOp .Add (.ref l) (.ref b)) Q E s :=
  add_lists (vs := vs) (ws := ws) (hsz := hsz) F N (N.isList hl) (N.isList hb) fun h' F' N' => h _ h' F' N' fun p hp => Heap.lt_size (N p hp).1

/-- for_list, the invariant told of the frame and the ledger at its start -/
theorem for_list' {env : Env} {Q : Flow → Shared → Prop} {target : Expr} {body : List Stmt} {l : Addr} {vs : List Value} {n : Nat} {m₀ : Str → Option Value} {news₀ : List (Addr × Obj)} {R : Value → Shared → Prop}
    (hh : A.handled = none) (J : (Str → Option Value) → Nat → (Str → Option Value) → List (Addr × Obj) → Prop)
    (F : Fr h₀ L s.heap m₀) (N : News h₀ L s.heap news₀) (hl : ∀ i m nw, J m₀ i m nw → (l, listOf vs.toArray n) ∈ nw) (hJ : J m₀ 0 m₀ news₀)
    (turn : ∀ i v m₁ nw I oI h tk, vs[i]? = some v → J m₀ i m₁ nw → (∀ p ∈ nw, p.1 ≠ I) → h.IsListIter I l (i + 1) → Fr h₀ L h m₁ → News h₀ L h ((I, oI) :: nw) →
      wpAny (model prog w) A (letOwnedTupleGo target (.ref I) v) (fun _ s₁ => wpAny (model prog w) A (assign target env v) (fun _ s₂ => wpAny (model prog w) A (execs body env) (ForPost h₀ L s Q I oI (J m₀ (i + 1))) (fun _ _ => False) s₂) (fun _ _ => False) s₁) (fun _ _ => False) { s with heap := h, toks := tk })
    (done : ∀ m₁ nw h tk, J m₀ vs.length m₁ nw → Fr h₀ L h m₁ → News h₀ L h nw → Q .next { s with heap := h, toks := tk }) :
    wpAny (model prog w) A (pyIter (.ref l)) (fun it s₂ => codeAny (model prog w) A (.forLoop target it body [] env) (fun r s' => match r with | .ok f => Q f s' | .error e => R e s') s₂) E s :=
  for_list hh (J m₀) F N hl hJ turn done
theorem news_of {h : Heap} {l l' : List (Addr × Obj)} (N : News h₀ L h l) (hs : ∀ p ∈ l', p ∈ l) : News h₀ L h l' := fun p hp => N p (hs p hp)
end
end Mine

-- part C4
namespace Mine
theorem fresh_C4 : True := by
  w_top off
  trivial
section
variable {w : World} {mean : ExcName → Option Value} {mg mb : Str → Option Value} {dp un : Nat} {gd : Option (List Code)} {cn : Str} {cs : Scope} {a : Addr} {ccd : Value} {cl : List (Str × Addr)} {outer : List Env} {A₀ : Around} {base h₀ : Heap} {L : Addr} {m : Str → Option Value} {news : List (Addr × Obj)} {s : Shared} {Q E : Value → Shared → Prop}

local macro_rules | `(tactic| walk_at "stop") => `(tactic| first | (with_reducible show wpAny _ _ (exec (Stmt.While _ _ _ _) _) _ _ _) | (with_reducible show wpAny _ _ (exec (Stmt.For _ _ _ _ _) _) _ _ _))
local macro_rules | `(tactic| walk_at "go") => `(tactic| repeat' (first | (k_unfold; (try dsimp only)) | ((fail_if_success (walk_at "stop")); (first | walk1 | (dsimp only; walk1)))))
theorem c_ctoi
  (B : Below A₀ base outer h₀) (F : Fr h₀ L s.heap m) (X : (Mine.hd.heap_39 w.params).In h₀) (N : News h₀ L s.heap news) (T : Top Mine.hd.view_39 (looseW Mine.hd.view_39 []) mean mg mb h₀) (hk : cs.kind = .function)
  {c : Nat} {t : Tok} (hdp : dp + 1 < recursionLimit) (hun : un + 20 < cLine)
  (ret : ∀ t h' tk', Fr h₀ L h' m → News h₀ L h' news → Q (.int c t) { s with heap := h', toks := tk' }) :
  wpAny (model Challenge.rw_mq0126_01.row.prog w) (ktrTop dp un gd cn cs L a ccd cl outer) (call (.ref 21) [.str (S [c]) t]) Q E s := by
  refine enter (binds := [(Str.ofString "c", .str (S [c]) t)]) B F X N T rfl rfl hk (by k_is) (by k_is) (by ktr_room) (BindsTo.of_eq rfl) (locs rfl) ?_ rfl rfl rfl (by decide)
  intro g L' h₁ FG F' N' B' X' T'
  walk_at "go"
  all_goals exact ret _ _ _ (by assumption) (by assumption)
theorem c_ctoi_int
  (B : Below A₀ base outer h₀) (F : Fr h₀ L s.heap m) (X : (Mine.hd.heap_39 w.params).In h₀) (N : News h₀ L s.heap news) (T : Top Mine.hd.view_39 (looseW Mine.hd.view_39 []) mean mg mb h₀) (hk : cs.kind = .function)
  {c : Int} {t : Tok} (hdp : dp + 1 < recursionLimit) (hun : un + 20 < cLine)
  (ret : ∀ t h' tk', Fr h₀ L h' m → News h₀ L h' news → Q (.int c t) { s with heap := h', toks := tk' }) :
  wpAny (model Challenge.rw_mq0126_01.row.prog w) (ktrTop dp un gd cn cs L a ccd cl outer) (call (.ref 21) [.int c t]) Q E s := by
  refine enter (binds := [(Str.ofString "c", .int c t)]) B F X N T rfl rfl hk (by k_is) (by k_is) (by ktr_room) (BindsTo.of_eq rfl) (locs rfl) ?_ rfl rfl rfl (by decide)
  intro g L' h₁ FG F' N' B' X' T'
  walk_at "go"
  all_goals exact ret _ _ _ (by assumption) (by assumption)

local macro_rules | `(tactic| walk_at "call ref") => `(tactic| (k_here; (with_reducible show wpAny _ _ (call (Value.ref 21) _) _ _ _); refine c_ctoi (by assumption) (by assumption) (by assumption) (by assumption) (by assumption) (by rfl) ?kd ?ku ?_; (case kd => ktr_room); (case ku => ktr_units); intro t9 h9 tk9 F9 N9; (try dsimp only)))
local macro_rules | `(tactic| walk_at "call ref") => `(tactic| (k_here; (with_reducible show wpAny _ _ (call (Value.ref 21) [Value.int _ _]) _ _ _); refine c_ctoi_int (by assumption) (by assumption) (by assumption) (by assumption) (by assumption) (by rfl) ?kd ?ku ?_; (case kd => ktr_room); (case ku => ktr_units); intro t9 h9 tk9 F9 N9; (try dsimp only)))

theorem c_isprint
  (B : Below A₀ base outer h₀) (F : Fr h₀ L s.heap m) (X : (Mine.hd.heap_39 w.params).In h₀) (N : News h₀ L s.heap news) (T : Top Mine.hd.view_39 (looseW Mine.hd.view_39 []) mean mg mb h₀) (hk : cs.kind = .function)
  {c : Int} {t : Tok} (hdp : dp + 2 < recursionLimit) (hun : un + 30 < cLine)
  (ret : ∀ h' tk', Fr h₀ L h' m → News h₀ L h' news → Q (.bool (decide (32 ≤ c ∧ c ≤ 126))) { s with heap := h', toks := tk' }) :
  wpAny (model Challenge.rw_mq0126_01.row.prog w) (ktrTop dp un gd cn cs L a ccd cl outer) (call (.ref 28) [.int c t]) Q E s := by
  refine enter (binds := [(Str.ofString "c", .int c t)]) B F X N T rfl rfl hk (by k_is) (by k_is) (by ktr_room) (BindsTo.of_eq rfl) (locs rfl) ?_ rfl rfl rfl (by decide)
  intro g L' h₁ FG F' N' B' X' T'
  have ret' : ∀ b h' tk', b = decide (32 ≤ c ∧ c ≤ 126) → Fr h₀ L h' m → News h₀ L h' news → Q (.bool b) { s with heap := h', toks := tk' } := fun b h' tk' e F N => e ▸ ret h' tk' F N
  walk_at "go"
  all_goals exact ret' _ _ _ (by simp [*]) (by assumption) (by assumption)
local macro_rules | `(tactic| walk_at "call ref") => `(tactic| (k_here; (with_reducible show wpAny _ _ (call (Value.ref 28) [Value.int _ _]) _ _ _); refine c_isprint (by assumption) (by assumption) (by assumption) (by assumption) (by assumption) (by rfl) ?kd ?ku ?_; (case kd => ktr_room); (case ku => ktr_units); intro h9 tk9 F9 N9; (try dsimp only)))
theorem c_ctrl
  (B : Below A₀ base outer h₀) (F : Fr h₀ L s.heap m) (X : (Mine.hd.heap_39 w.params).In h₀) (N : News h₀ L s.heap news) (T : Top Mine.hd.view_39 (looseW Mine.hd.view_39 []) mean mg mb h₀) (hk : cs.kind = .function)
  {c : Nat} {t : Tok} (hc : c < 256) (hdp : dp + 2 < recursionLimit) (hun : un + 30 < cLine)
  (ret : ∀ t h' tk', Fr h₀ L h' m → News h₀ L h' news → Q (.str (S [c % 32]) t) { s with heap := h', toks := tk' }) :
  wpAny (model Challenge.rw_mq0126_01.row.prog w) (ktrTop dp un gd cn cs L a ccd cl outer) (call (.ref 35) [.str (S [c]) t]) Q E s := by
  refine enter (binds := [(Str.ofString "c", .str (S [c]) t)]) B F X N T rfl rfl hk (by k_is) (by k_is) (by ktr_room) (BindsTo.of_eq rfl) (locs rfl) ?_ rfl rfl rfl (by decide)
  intro g L' h₁ FG F' N' B' X' T'
  walk_at "go"
  rw [and31 c hc]
  walk_at "go"
  all_goals exact ret _ _ _ (by assumption) (by assumption)
theorem c_alt
  (B : Below A₀ base outer h₀) (F : Fr h₀ L s.heap m) (X : (Mine.hd.heap_39 w.params).In h₀) (N : News h₀ L s.heap news) (T : Top Mine.hd.view_39 (looseW Mine.hd.view_39 []) mean mg mb h₀) (hk : cs.kind = .function)
  {c : Nat} {t : Tok} (hc : c < 256) (hdp : dp + 2 < recursionLimit) (hun : un + 30 < cLine)
  (ret : ∀ t h' tk', Fr h₀ L h' m → News h₀ L h' news → Q (.str (S [c % 128 + 128]) t) { s with heap := h', toks := tk' }) :
  wpAny (model Challenge.rw_mq0126_01.row.prog w) (ktrTop dp un gd cn cs L a ccd cl outer) (call (.ref 42) [.str (S [c]) t]) Q E s := by
  refine enter (binds := [(Str.ofString "c", .str (S [c]) t)]) B F X N T rfl rfl hk (by k_is) (by k_is) (by ktr_room) (BindsTo.of_eq rfl) (locs rfl) ?_ rfl rfl rfl (by decide)
  intro g L' h₁ FG F' N' B' X' T'
  walk_at "go"
  rw [or128 c hc]
  walk_at "go"
  all_goals exact ret _ _ _ (by assumption) (by assumption)
theorem c_unctrl
  (B : Below A₀ base outer h₀) (F : Fr h₀ L s.heap m) (X : (Mine.hd.heap_39 w.params).In h₀) (N : News h₀ L s.heap news) (T : Top Mine.hd.view_39 (looseW Mine.hd.view_39 []) mean mg mb h₀) (hk : cs.kind = .function)
  {c : Nat} {t : Tok} (hc : c < 256) (hdp : dp + 3 < recursionLimit) (hun : un + 40 < cLine)
  (ret : ∀ t h' tk', Fr h₀ L h' m → News h₀ L h' news → Q (.str (S (uc c)) t) { s with heap := h', toks := tk' }) :
  wpAny (model Challenge.rw_mq0126_01.row.prog w) (ktrTop dp un gd cn cs L a ccd cl outer) (call (.ref 49) [.str (S [c]) t]) Q E s := by
  refine enter (binds := [(Str.ofString "c", .str (S [c]) t)]) B F X N T rfl rfl hk (by k_is) (by k_is) (by ktr_room) (BindsTo.of_eq rfl) (locs rfl) ?_ rfl rfl rfl (by decide)
  intro g L' h₁ FG F' N' B' X' T'
  have ret' : ∀ r t h' tk', r = S (uc c) → Fr h₀ L h' m → News h₀ L h' news → Q (.str r t) { s with heap := h', toks := tk' } := fun b t h' tk' e F N => e ▸ ret t h' tk' F N
  have e1 := and127 c hc
  have e2 := and128 c hc
  walk_at "go"
  · rename (c : Int) = 127 => h1
    rename Builtin.bitAnd _ 128 ≠ 0 => h2
    exfalso
    rw [e2, if_neg (by omega)] at h2
    exact h2 rfl
  · exact ret' _ _ _ _ (uc_a c (by omega)) (by assumption) (by assumption)
  · rename Builtin.bitAnd _ 128 ≠ 0 => h2
    rename 32 ≤ _ ∧ _ => h1
    rw [e1] at h1
    have h3 : 128 ≤ c := by
      by_cases h : 128 ≤ c
      · exact h
      · rw [e2, if_neg h] at h2; exact absurd rfl h2
    rw [e1]
    exact ret' _ _ _ _ (uc_b c hc (by omega) h3) (by assumption) (by assumption)
  · rename Builtin.bitAnd _ 128 = 0 => h2
    rename 32 ≤ _ ∧ _ => h1
    rename (c : Int) ≠ 127 => h0
    rw [e1] at h1
    have h3 : ¬ 128 ≤ c := by
      intro h
      rw [e2, if_pos h] at h2; exact absurd h2 (by decide)
    rw [e1]
    exact ret' _ _ _ _ (uc_c c hc (by omega) (by omega) h3) (by assumption) (by assumption)
  · rename ¬ (32 ≤ _ ∧ _) => h1
    rename (c : Int) ≠ 127 => h0
    rw [e1] at h1
    have h1' : ¬ (32 ≤ c % 128 ∧ c % 128 ≤ 126) := by omega
    have hb : (if c % 128 = 127 then 127 else c % 128 + 32) ≤ 127 := by split <;> omega
    rw [e1, or32 (c % 128) (by omega) h1']
    rw [show (((if c % 128 = 127 then 127 else c % 128 + 32 : Nat) : Int) + 32) = (((if c % 128 = 127 then 127 else c % 128 + 32) + 32 : Nat) : Int) from by push_cast; rfl]
    walk_at "go"
    · rename Builtin.bitAnd _ 128 ≠ 0 => h2
      have h3 : 128 ≤ c := by
        by_cases h : 128 ≤ c
        · exact h
        · rw [e2, if_neg h] at h2; exact absurd rfl h2
      exact ret' _ _ _ _ (uc_d c hc (by omega) h1' h3) (by assumption) (by assumption)
    · rename Builtin.bitAnd _ 128 = 0 => h2
      have h3 : ¬ 128 ≤ c := by
        intro h
        rw [e2, if_pos h] at h2; exact absurd h2 (by decide)
      exact ret' _ _ _ _ (uc_e c hc (by omega) h1' h3) (by assumption) (by assumption)
theorem c_sign
  (B : Below A₀ base outer h₀) (F : Fr h₀ L s.heap m) (X : (Mine.hd.heap_39 w.params).In h₀) (N : News h₀ L s.heap news) (T : Top Mine.hd.view_39 (looseW Mine.hd.view_39 []) mean mg mb h₀) (hk : cs.kind = .function)
  {c : Int} {t : Tok} (hdp : dp + 3 < recursionLimit) (hun : un + 40 < cLine)
  (ret : ∀ c t h' tk', c < 256 → Fr h₀ L h' m → News h₀ L h' news → Q (.str (S [c]) t) { s with heap := h', toks := tk' }) :
  wpAny (model Challenge.rw_mq0126_01.row.prog w) (ktrTop dp un gd cn cs L a ccd cl outer) (call (.ref 84) [.int c t]) Q E s := by
  refine enter (binds := [(Str.ofString "number", .int c t)]) B F X N T rfl rfl hk (by k_is) (by k_is) (by ktr_room) (BindsTo.of_eq rfl) (locs rfl) ?_ rfl rfl rfl (by decide)
  intro g L' h₁ FG F' N' B' X' T'
  have hm1 : 0 ≤ (c.fdiv 2).fmod 256 ∧ (c.fdiv 2).fmod 256 < 256 := ⟨Int.fmod_nonneg_of_pos _ (by decide), Int.fmod_lt_of_pos _ (by decide)⟩
  have hm2 : 0 ≤ (c.fdiv 2).fmod 16 ∧ (c.fdiv 2).fmod 16 < 16 := ⟨Int.fmod_nonneg_of_pos _ (by decide), Int.fmod_lt_of_pos _ (by decide)⟩
  walk_at "go"
  · exact ret _ _ _ _ (by omega) (by assumption) (by assumption)
  · obtain ⟨d, hd, he⟩ := sign_item _ hm2.1 hm2.2
    rw [he]
    exact ret _ _ _ _ hd (by assumption) (by assumption)
end
end Mine

-- part C5
namespace Mine
theorem fresh_C5 : True := by
  w_top off
  trivial
section
variable {w : World} {mean : ExcName → Option Value} {mg mb : Str → Option Value} {dp un : Nat} {gd : Option (List Code)} {cn : Str} {cs : Scope} {a : Addr} {ccd : Value} {cl : List (Str × Addr)} {outer : List Env} {A₀ : Around} {base h₀ : Heap} {L : Addr} {m : Str → Option Value} {news : List (Addr × Obj)} {s : Shared} {Q E : Value → Shared → Prop}

local macro_rules | `(tactic| walk_at "stop") => `(tactic| first | (with_reducible show wpAny _ _ (exec (Stmt.While _ _ _ _) _) _ _ _) | (with_reducible show wpAny _ _ (exec (Stmt.For _ _ _ _ _) _) _ _ _))
local macro_rules | `(tactic| walk_at "go") => `(tactic| repeat' (first | (k_unfold; (try dsimp only)) | ((fail_if_success (walk_at "stop")); (first | walk1 | (dsimp only; walk1)))))
theorem c_meaning
  (B : Below A₀ base outer h₀) (F : Fr h₀ L s.heap m) (X : (Mine.hd.heap_39 w.params).In h₀) (N : News h₀ L s.heap news) (T : Top Mine.hd.view_39 (looseW Mine.hd.view_39 []) mean mg mb h₀) (hk : cs.kind = .function)
  {hd : List Nat} {c : Nat} {t t' : Tok} (hc : c < 256) (hl : hd.length ≤ 2) (hdp : dp + 3 < recursionLimit) (hun : un + 40 < cLine)
  (ret : ∀ t h' tk', Fr h₀ L h' m → News h₀ L h' news → Q (.str (mS (mnHL hd c)) t) { s with heap := h', toks := tk' }) :
  wpAny (model Challenge.rw_mq0126_01.row.prog w) (ktrTop dp un gd cn cs L a ccd cl outer) (call (.ref 103) [.str (S hd) t', .str (S [c]) t]) Q E s := by
  refine enter (binds := [(Str.ofString "head", .str (S hd) t'), (Str.ofString "last", .str (S [c]) t)]) B F X N T rfl rfl hk (by k_is) (by k_is) (by ktr_room) (BindsTo.of_eq rfl) (locs rfl) ?_ rfl rfl rfl (by decide)
  intro g L' h₁ FG F' N' B' X' T'
  have ret' : ∀ r t h' tk', r = mS (mnHL hd c) → Fr h₀ L h' m → News h₀ L h' news → Q (.str r t) { s with heap := h', toks := tk' } := fun b t h' tk' e F N => e ▸ ret t h' tk' F N
  have hxl : (S hd).length ≤ 2 := by show (hd.toArray).size ≤ 2; simpa using hl
  have hlow := low_find c hc
  walk_at "go"
  all_goals (refine ret' _ _ _ _ ?_ (by assumption) (by assumption))
  all_goals (try (have hA := (lt_sp_iff c).mp (by with_reducible assumption)))
  all_goals (try (have hA := mt (lt_sp_iff c).mpr (by with_reducible assumption)))
  all_goals (try (have hB := (gt_ti_iff c).mp (by with_reducible assumption)))
  all_goals (try (have hB := mt (gt_ti_iff c).mpr (by with_reducible assumption)))
  all_goals (simp only [lit_e, lit_ex, lit_ca, lit_ec, lit_ec9, lit_q, lit_y, lit_7f, hlow, S_append, beq_iff_eq, beq_eq_false_iff_ne, ne_eq, S_inj] at *)
  · exact mm0 hA (by with_reducible assumption)
  · exact mm1 hA
  · exact mm2 hB (by with_reducible assumption)
  · exact mm3 hB (by with_reducible assumption)
  · exact mm4 hA hB (by with_reducible assumption)
  · exact mm5 hA hB (by with_reducible assumption) (by with_reducible assumption)
  · exact mm6 hA hB (by with_reducible assumption) (by with_reducible assumption) (by with_reducible assumption) (by with_reducible assumption)
  · exact mm7 hA hB (by with_reducible assumption) (by with_reducible assumption) (by with_reducible assumption) (by with_reducible assumption) (by with_reducible assumption)
  · exact mm8 hA hB (by with_reducible assumption) (by with_reducible assumption) (by with_reducible assumption) (by with_reducible assumption) (by with_reducible assumption)
  · exact mm9 hA hB (by with_reducible assumption) (by with_reducible assumption) (by with_reducible assumption) (by with_reducible assumption) (by with_reducible assumption)
  · exact mm10 hA hB (by with_reducible assumption) (by with_reducible assumption) (by with_reducible assumption) (by with_reducible assumption) (by with_reducible assumption)
  · exact mm11 hA hB (by with_reducible assumption) (by with_reducible assumption) (by with_reducible assumption) (by with_reducible assumption)
end
end Mine

-- part C6
namespace Mine
theorem fresh_C6 : True := by
  w_top off
  trivial
section
variable {w : World} {mean : ExcName → Option Value} {mg mb : Str → Option Value} {dp un : Nat} {gd : Option (List Code)} {cn : Str} {cs : Scope} {a : Addr} {ccd : Value} {cl : List (Str × Addr)} {outer : List Env} {A₀ : Around} {base h₀ : Heap} {L : Addr} {m : Str → Option Value} {news : List (Addr × Obj)} {s : Shared} {Q E : Value → Shared → Prop}

local macro_rules | `(tactic| walk_at "stop") => `(tactic| first | (with_reducible show wpAny _ _ (exec (Stmt.While _ _ _ _) _) _ _ _) | (with_reducible show wpAny _ _ (exec (Stmt.For _ _ _ _ _) _) _ _ _))
local macro_rules | `(tactic| walk_at "go") => `(tactic| repeat' (first | (k_unfold; (try dsimp only)) | ((fail_if_success (walk_at "stop")); (first | walk1 | (dsimp only; walk1)))))
local macro_rules | `(tactic| walk_at "lt256") => `(tactic| first | with_reducible assumption | exact Nat.lt_of_lt_of_le (Nat.mod_lt _ (by decide)) (by decide))
local macro_rules | `(tactic| walk_at "call ref") => `(tactic| (k_here; (with_reducible show wpAny _ _ (call (Value.ref 35) _) _ _ _); refine c_ctrl (by assumption) (by assumption) (by assumption) (by assumption) (by assumption) (by rfl) ?kc ?kd ?ku ?_; (case kc => walk_at "lt256"); (case kd => ktr_room); (case ku => ktr_units); intro t9 h9 tk9 F9 N9; (try dsimp only)))
local macro_rules | `(tactic| walk_at "call ref") => `(tactic| (k_here; (with_reducible show wpAny _ _ (call (Value.ref 42) _) _ _ _); refine c_alt (by assumption) (by assumption) (by assumption) (by assumption) (by assumption) (by rfl) ?kc ?kd ?ku ?_; (case kc => walk_at "lt256"); (case kd => ktr_room); (case ku => ktr_units); intro t9 h9 tk9 F9 N9; (try dsimp only)))
local macro_rules | `(tactic| walk_at "call ref") => `(tactic| (k_here; (with_reducible show wpAny _ _ (call (Value.ref 49) _) _ _ _); refine c_unctrl (by assumption) (by assumption) (by assumption) (by assumption) (by assumption) (by rfl) ?kc ?kd ?ku ?_; (case kc => walk_at "lt256"); (case kd => ktr_room); (case ku => ktr_units); intro t9 h9 tk9 F9 N9; (try dsimp only)))
theorem c_steps
  (B : Below A₀ base outer h₀) (F : Fr h₀ L s.heap m) (X : (Mine.hd.heap_39 w.params).In h₀) (T : Top Mine.hd.view_39 (looseW Mine.hd.view_39 []) mean mg mb h₀) (hk : cs.kind = .function)
  {ls : Addr} {vs : List Value} {sg : List Nat} {ns place : Nat} {tx : List Nat} {t t' : Tok}
  (N : News h₀ L s.heap news) (hls : (ls, listOf vs.toArray ns) ∈ news) (hvs : StrsAre vs (sg.map fun c => S [c])) (hsg : ∀ c ∈ sg, c < 256) (hsl : sg.length ≤ 8)
  (htx : ∀ c ∈ tx, c < 256) (htl : tx.length ≤ 6) (hpl : place ≤ tx.length)
  (hdp : dp + 4 < recursionLimit) (hun : un + 80 < cLine)
  (ret : ∀ l' es n' tups h' tk', (∀ e ∈ es, (e.a, e.obj) ∈ tups) → EntsAre es (stU tx place 3) → (∀ p ∈ (l', listOf (vals es).toArray n') :: tups, ∀ q ∈ news, q.1 ≠ p.1) → Fr h₀ L h' m → News h₀ L h' ((l', listOf (vals es).toArray n') :: (tups ++ news)) → Q (.ref l') { s with heap := h', toks := tk' }) :
  wpAny (model Challenge.rw_mq0126_01.row.prog w) (ktrTop dp un gd cn cs L a ccd cl outer) (call (.ref 91) [.ref ls, .str (S tx) t, .int place t']) Q E s := by
  refine enter (binds := [(Str.ofString "signs", .ref ls), (Str.ofString "text", .str (S tx) t), (Str.ofString "place", .int place t')]) B F X N T rfl rfl hk (by k_is) (by k_is) (by ktr_room) (BindsTo.of_eq rfl) (locs rfl) ?_ rfl rfl rfl (by decide)
  intro g L' h₁ FG F' N' B' X' T'
  walk_at "go"
  refine wpAny_For ?_
  walk_at "go"
  rename_i tkU sl h2 lsl h3 D h4 F2 N2 lD
  obtain ⟨tk0, htk0⟩ : ∃ x, x = tk := ⟨tk, rfl⟩
  rw [← htk0] at N2
  refine for_tuple (l := D) (vs := [.int 1 tk0, .int 2 (tk0 + 1), .int 3 (tk0 + 1 + 1)]) (n := 0) rfl
    (fun i m nw => (∀ z, [Str.ofString "width", Str.ofString "piece", Str.ofString "last", Str.ofString "sign"].contains z = false → m z = (if z = Str.ofString "steps" then some (Value.ref sl) else List.lookup z [(Str.ofString "signs", Value.ref ls), (Str.ofString "text", Value.str (S tx) t), (Str.ofString "place", Value.int place t')].reverse)) ∧
      ∃ es n tups, nw = (sl, listOf (vals es).toArray n) :: (D, { cls := .type "tuple", data := .seq #[.int 1 tk0, .int 2 (tk0 + 1), .int 3 (tk0 + 1 + 1)] }) :: (tups ++ news) ∧ (∀ e ∈ es, (e.a, e.obj) ∈ tups) ∧ (∀ p ∈ tups, p.1 ≠ sl ∧ ∀ q ∈ news, q.1 ≠ p.1) ∧ EntsAre es (stU tx place i))
    F2 (news_of (l' := (sl, listOf #[] 0) :: (D, _) :: news) N2 (by
      intro p hp
      rcases List.mem_cons.mp hp with rfl | hp
      · exact .tail _ (.head _)
      · rcases List.mem_cons.mp hp with rfl | hp
        · exact .head _
        · exact .tail _ (.tail _ hp))) ?_ ?_ ?_ ?_
  · rintro i m nw ⟨_, es, n, tups, rfl, _⟩
    exact .tail _ (.head _)
  · refine ⟨fun _ _ => rfl, [], 0, [], rfl, (fun _ h => nomatch h), (fun _ h => nomatch h), rfl⟩
  · rintro i v m₁ nw I oI h tk hv ⟨hm, es, n, tups, rfl, hes, htu, hE⟩ off F3 N3
    obtain ⟨tw, rfl, hi3⟩ : ∃ tw, v = .int ((i + 1 : Nat) : Int) tw ∧ i < 3 := by
      match i, hv with
      | 0, hv => exact ⟨_, (Option.some.inj hv).symm, by decide⟩
      | 1, hv => exact ⟨_, (Option.some.inj hv).symm, by decide⟩
      | 2, hv => exact ⟨_, (Option.some.inj hv).symm, by decide⟩
    refine wpAny_of_eq rfl ?_
    dsimp only
    have F4 := fr_canon _ F3 hm
    have hpc : Txt.slice (S tx) (some (place : Int)) (some ((place : Int) + ((i + 1 : Nat) : Int))) = S (pieceOf tx place (i + 1)) := by
      have := slice_S tx place (place + (i + 1)) (by omega)
      rw [show place + (i + 1) - place = i + 1 by omega] at this
      rw [← Int.natCast_add]
      exact this
    walk_at "go"
    rename Fr g L' _ _ => F5
    rename News g L' _ _ => N5
    rw [hpc] at F5 ⊢
    refine len_str (by rw [S_len, pieceOf_length]; omega) ?_
    rw [S_len, pieceOf_length]
    walk_at "go"
    · rename _ = ((i + 1 : Nat) : Int) => hlen
      have hlen' : place + (i + 1) ≤ tx.length := by omega
      have hne : pieceOf tx place (i + 1) ≠ [] := by
        intro e
        have := pieceOf_length tx place (i + 1)
        rw [e] at this
        simp at this
        omega
      refine KXi.item (n := i + 1) (by rw [S_len, pieceOf_length]; omega) (by omega) (by omega) (by omega) ?_
      intro _
      dsimp only
      rw [last_S hne]
      have hlc : (pieceOf tx place (i + 1)).getLastD 0 < 256 := by
        rw [List.getLastD_eq_getLast?, List.getLast?_eq_some_getLast hne]
        exact htx _ (pieceOf_mem (List.getLast_mem hne))
      generalize hlce : (pieceOf tx place (i + 1)).getLastD 0 = lc at hlc ⊢
      walk_at "go"
      refine wpAny_For ?_
      walk_at "go"
      rename Fr g L' _ _ => F6
      rename News g L' _ _ => N6
      rw [lit_7f, lit_y] at N6
      have hls6 : (ls, listOf vs.toArray ns) ∈ tups ++ news := List.mem_append_right _ hls
      refine add_K F6 N6 (.head _) (.tail _ (.tail _ (.tail _ (.tail _ hls6)))) ?_ ?_
      · intro l7 h7 F7 N7 hl7
        walk_at "go"
        obtain ⟨ws, tl, hwsS, N7', hq1, hq2, hq3, hq4⟩ : ∃ ws tl, StrsAre ws ((cand lc ++ sg).map fun c => S [c]) ∧ News g L' h7 ((l7, listOf ws.toArray 0) :: tl) ∧ (sl, listOf (vals es).toArray n) ∈ tl ∧ (I, oI) ∈ tl ∧ (∀ p ∈ (D, ({ cls := .type "tuple", data := .seq #[.int 1 tk0, .int 2 (tk0 + 1), .int 3 (tk0 + 1 + 1)] } : Obj)) :: (tups ++ news), p ∈ tl) ∧ sl < l7 :=
          ⟨_, _, .cons _ _ (.cons _ _ (.cons _ _ (.cons _ _ (.cons _ _ (.cons _ _ hvs))))), N7, .tail _ (.tail _ (.head _)), .tail _ (.head _), (fun p hp => .tail _ (.tail _ (.tail _ hp))), hl7 (sl, _) (.tail _ (.tail _ (.head _)))⟩
        obtain ⟨rest, N8, hl8, hsub, hoff⟩ : ∃ rest, News g L' h7 ((sl, listOf (vals es).toArray n) :: rest) ∧ (l7, listOf ws.toArray 0) ∈ rest ∧ (∀ p ∈ (I, oI) :: (D, ({ cls := .type "tuple", data := .seq #[.int 1 tk0, .int 2 (tk0 + 1), .int 3 (tk0 + 1 + 1)] } : Obj)) :: (tups ++ news), p ∈ rest) ∧ (∀ p ∈ rest, p.1 ≠ sl) := by
          refine ⟨(l7, listOf ws.toArray 0) :: (I, oI) :: (D, _) :: (tups ++ news), news_of N7' ?_, .head _, fun p hp => .tail _ hp, ?_⟩
          · intro p hp
            rcases List.mem_cons.mp hp with rfl | hp
            · exact .tail _ hq1
            · rcases List.mem_cons.mp hp with rfl | hp
              · exact .head _
              · rcases List.mem_cons.mp hp with rfl | hp
                · exact .tail _ hq2
                · exact .tail _ (hq3 p hp)
          · intro p hp
            rcases List.mem_cons.mp hp with rfl | hp
            · exact Nat.ne_of_gt hq4
            · rcases List.mem_cons.mp hp with rfl | hp
              · exact Ne.symm (off (sl, _) (.head _))
              · rcases List.mem_cons.mp hp with rfl | hp
                · exact Nat.ne_of_gt lD.1
                · rcases List.mem_append.mp hp with hp | hp
                  · exact (htu p hp).1
                  · exact Nat.ne_of_lt (lsl p hp)
        clear N7 hl7 N6 N7' hq1 hq2 hq3 hq4
        refine for_list' (l := l7) (vs := ws) (n := 0) rfl
          (fun mC j m nw => (∀ z, [Str.ofString "sign"].contains z = false → m z = mC z) ∧
            ∃ X n tps, nw = (sl, listOf (vals (es ++ X)).toArray n) :: (tps ++ rest) ∧ (∀ e ∈ X, (e.a, e.obj) ∈ tps) ∧ (∀ p ∈ tps, p.1 ≠ sl ∧ p.1 ≠ I ∧ ∀ q ∈ news, q.1 ≠ p.1) ∧
              ((X = [] ∧ ∀ c ∈ (cand lc ++ sg).take j, uc c ≠ pieceOf tx place (i + 1)) ∨ ∃ d e, X = [e] ∧ e.x = S [d] ∧ e.k = ((place + (i + 1) : Nat) : Int) ∧ uc d = pieceOf tx place (i + 1) ∧ d < 256))
          F7 N8 ?_ ?_ ?_ ?_
        · rintro j m nw ⟨_, X, n, tps, rfl, _⟩
          exact .tail _ (List.mem_append_right _ hl8)
        · exact ⟨fun _ _ => rfl, [], n, [], by simp, (fun _ h => nomatch h), (fun _ h => nomatch h), .inl ⟨rfl, by simp⟩⟩
        · rintro j v m₂ nw I2 oI2 h8 tk8 hv2 ⟨hm2, X, n2, tps, rfl, hX, htp, hor⟩ off2 hit2 F8 N9
          obtain ⟨c, tc, hcj, rfl⟩ := strs_get hwsS hv2
          have hc : c < 256 := by
            rcases List.mem_append.mp (List.mem_of_getElem? hcj) with h | h
            · exact cand_lt hlc c h
            · exact hsg c h
          refine wpAny_of_eq rfl ?_
          dsimp only
          have F9 := fr_canon _ F8 hm2
          have hcls : oI2.cls = .type "list_iterator" := by
            obtain ⟨o, ho, hc, _⟩ := hit2
            have := (N9 (I2, oI2) (.head _)).1
            rw [ho] at this
            cases this
            exact hc
          have hsame : ∀ {p : Addr × Obj}, p ∈ (sl, listOf (vals (es ++ X)).toArray n2) :: (tps ++ rest) → p.1 ≠ I2 := fun hp => off2 _ hp
          clear N8
          walk_at "go"
          · rename (S (uc c) == _) = true => heq
            rename Fr g L' _ _ => Fa
            rename News g L' _ _ => Na
            have heq' : uc c = pieceOf tx place (i + 1) := S_inj.mp (beq_iff_eq.mp heq)
            refine not_in_tup (es := es ++ X) (n := n2) (e := ⟨_, S [c], (place : Int) + ((i + 1 : Nat) : Int), tc, _, 0⟩) Na (.tail _ (.tail _ (.head _))) ?_ (.head _) (by ktr_units) ?_ (strOk_S (by intro z hz; rw [List.mem_singleton.mp hz]; exact hc)) ?_
            · intro e he
              refine .tail _ (.tail _ (.tail _ ?_))
              rcases List.mem_append.mp he with he | he
              · exact List.mem_append_right _ (hsub _ (.tail _ (.tail _ (List.mem_append_left _ (hes e he)))))
              · exact List.mem_append_left _ (hX e he)
            · intro e he
              rcases List.mem_append.mp he with he | he
              · exact ents_ok hE e he
              · rcases hor with ⟨rfl, _⟩ | ⟨d, e0, rfl, hx0, _, _, hd0⟩
                · exact nomatch he
                · rw [List.mem_singleton.mp he, hx0]
                  exact strOk_S (by intro z hz; rw [List.mem_singleton.mp hz]; exact hd0)
            · rcases hor with ⟨rfl, hno⟩ | ⟨d, e0, rfl, hx0, hk0, hu0, hd0⟩
              · rw [any_no hE (S [c])]
                walk_at "go"
                rename_i D2 h2x Fb Nb l1
                obtain ⟨tkE, htkE⟩ : ∃ x, x = tk := ⟨tk, rfl⟩
                rw [← htkE] at Nb
                have hD2 : ∀ p ∈ tps ++ rest, p.1 < D2 := allLt_mem l1.2.2.2
                have Nc : News g L' h2x ((sl, listOf (vals (es ++ [])).toArray n2) :: (D2, Ent.obj ⟨D2, S [c], (place : Int) + ((i + 1 : Nat) : Int), tc, tkE, 0⟩) :: (I2, oI2) :: (tps ++ rest)) := news_of Nb (by
                  intro p hp
                  rcases List.mem_cons.mp hp with rfl | hp
                  · exact .tail _ (.tail _ (.tail _ (.head _)))
                  · rcases List.mem_cons.mp hp with rfl | hp
                    · exact .head _
                    · rcases List.mem_cons.mp hp with rfl | hp
                      · exact .tail _ (.tail _ (.head _))
                      · exact .tail _ (.tail _ (.tail _ (.tail _ hp))))
                refine append_K Fb Nc (Upd.head ?_) ?_ ?_
                · intro p hp
                  rcases List.mem_cons.mp hp with rfl | hp
                  · exact Nat.ne_of_gt l1.2.2.1
                  · rcases List.mem_cons.mp hp with rfl | hp
                    · exact Ne.symm (hsame (.head _))
                    · rcases List.mem_append.mp hp with hp | hp
                      · exact (htp p hp).1
                      · exact hoff p hp
                · rw [List.append_nil, show (Value.ref D2) = .ref (Ent.a ⟨D2, S [c], (place : Int) + ((i + 1 : Nat) : Int), tc, tkE, 0⟩) from rfl, vals_push]
                  intro h3x Fd Nd
                  walk_at "go"
                  refine for_end Fd Nd (.tail _ (.tail _ (.head _))) (nw' := (sl, listOf (vals (es ++ [⟨D2, S [c], (place : Int) + ((i + 1 : Nat) : Int), tc, tkE, 0⟩])).toArray (n2 + 1)) :: (((D2, Ent.obj ⟨D2, S [c], (place : Int) + ((i + 1 : Nat) : Int), tc, tkE, 0⟩) :: tps) ++ rest)) ?_ ?_ ⟨fun z hz => same1 hz, [⟨D2, S [c], (place : Int) + ((i + 1 : Nat) : Int), tc, tkE, 0⟩], n2 + 1, (D2, Ent.obj ⟨D2, S [c], (place : Int) + ((i + 1 : Nat) : Int), tc, tkE, 0⟩) :: tps, rfl, ?_, ?_, .inr ⟨c, _, rfl, rfl, ?_, heq', hc⟩⟩
                  · intro p hp
                    rcases List.mem_cons.mp hp with rfl | hp
                    · exact .head _
                    · rcases List.mem_cons.mp hp with rfl | hp
                      · exact .tail _ (.head _)
                      · exact .tail _ (.tail _ (.tail _ hp))
                  · intro p hp
                    rcases List.mem_cons.mp hp with rfl | hp
                    · exact hsame (p := (sl, listOf (vals (es ++ [])).toArray n2)) (.head _)
                    · rcases List.mem_cons.mp hp with rfl | hp
                      · exact Nat.ne_of_gt l1.2.1
                      · exact hsame (.tail _ hp)
                  · intro e he
                    rw [List.mem_singleton.mp he]
                    exact .head _
                  · intro p hp
                    rcases List.mem_cons.mp hp with rfl | hp
                    · exact ⟨Nat.ne_of_gt l1.2.2.1, Nat.ne_of_gt (hD2 _ (List.mem_append_right _ (hsub _ (.head _)))), fun q hq => Nat.ne_of_lt (hD2 q (List.mem_append_right _ (hsub _ (.tail _ (.tail _ (List.mem_append_right _ hq))))))⟩
                    · exact htp p hp
                  · exact (Int.natCast_add _ _).symm
                · simp only [List.append_nil, List.size_toArray, vals_length, sizeLine_eq]
                  have := congrArg List.length hE
                  simp only [List.length_map] at this
                  rw [this]
                  have := stU_length tx place i
                  omega
              · rw [any_yes hc hd0 heq' hu0 hx0 hk0]
                walk_at "go"
                refine for_end Fa Na (.tail _ (.head _)) (nw' := (sl, listOf (vals (es ++ [e0])).toArray n2) :: (tps ++ rest)) (fun p hp => .tail _ (.tail _ hp)) (fun p hp => hsame hp) ⟨fun z hz => same1 hz, [e0], n2, tps, rfl, hX, htp, .inr ⟨d, e0, rfl, hx0, hk0, hu0, hd0⟩⟩
          · rename (S (uc c) == _) = false => heq
            rename Fr g L' _ _ => Fa
            rename News g L' _ _ => Na
            have heq' : uc c ≠ pieceOf tx place (i + 1) := fun e => by rw [e] at heq; simp at heq
            refine for_end Fa Na (.head _) (nw' := (sl, listOf (vals (es ++ X)).toArray n2) :: (tps ++ rest)) (fun p hp => .tail _ hp) (fun p hp => hsame hp) ⟨fun z hz => same1 hz, X, n2, tps, rfl, hX, htp, ?_⟩
            rcases hor with ⟨rfl, hno⟩ | hor
            · refine .inl ⟨rfl, ?_⟩
              intro c' hc'
              rw [List.take_add_one, hcj] at hc'
              rcases List.mem_append.mp hc' with h | h
              · exact hno c' h
              · rw [List.mem_singleton.mp h]; exact heq'
            · exact .inr hor
        · rintro m₂ nw h8 tk8 ⟨hm2, X, n2, tps, rfl, hX, htp, hor⟩ F8 N9
          walk_at "go"
          have hwl : ws.length = (cand lc ++ sg).length := by rw [strs_len hwsS, List.length_map]
          have hst : EntsAre X (st1 tx place (i + 1)) := by
            rcases hor with ⟨rfl, hno⟩ | ⟨d, e, rfl, hx, hk, hu, hd⟩
            · rw [hwl, List.take_length] at hno
              subst hlce
              rw [st1_none hno]; exact EntsAre.nil
            · rw [st1_some hlen' hd hu]
              simp [EntsAre, hx, hk]
          refine for_end F8 N9 (.tail _ (List.mem_append_right _ (hsub _ (.head _)))) (nw' := (sl, listOf (vals (es ++ X)).toArray n2) :: (D, ({ cls := .type "tuple", data := .seq #[.int 1 tk0, .int 2 (tk0 + 1), .int 3 (tk0 + 1 + 1)] } : Obj)) :: ((tps ++ tups) ++ news)) ?_ ?_ ⟨?_, es ++ X, n2, tps ++ tups, rfl, ?_, ?_, ?_⟩
          · intro p hp
            rcases List.mem_cons.mp hp with rfl | hp
            · exact .head _
            · rcases List.mem_cons.mp hp with rfl | hp
              · exact .tail _ (List.mem_append_right _ (hsub _ (.tail _ (.head _))))
              · rw [List.append_assoc] at hp
                rcases List.mem_append.mp hp with hp | hp
                · exact .tail _ (List.mem_append_left _ hp)
                · exact .tail _ (List.mem_append_right _ (hsub _ (.tail _ (.tail _ hp))))
          · intro p hp
            rcases List.mem_cons.mp hp with rfl | hp
            · exact off (sl, listOf (vals es).toArray n) (.head _)
            · rcases List.mem_cons.mp hp with rfl | hp
              · exact off (D, _) (.tail _ (.head _))
              · rw [List.append_assoc] at hp
                rcases List.mem_append.mp hp with hp | hp
                · exact (htp p hp).2.1
                · exact off p (.tail _ (.tail _ hp))
          · intro z hz
            have hzn : z ≠ Str.ofString "width" ∧ z ≠ Str.ofString "piece" ∧ z ≠ Str.ofString "last" ∧ z ≠ Str.ofString "sign" := by
              simpa [List.contains_cons, and_assoc] using hz
            rw [hm2 z (by simp [hzn.2.2.2])]
            show (if z = Str.ofString "last" then _ else if z = Str.ofString "piece" then _ else if z = Str.ofString "width" then _ else if _ then _ else _) = _
            rw [if_neg hzn.2.2.1, if_neg hzn.2.1, if_neg hzn.1, if_neg (by rw [hz]; exact Bool.false_ne_true)]
          · intro e he
            rcases List.mem_append.mp he with he | he
            · exact List.mem_append_right _ (hes e he)
            · exact List.mem_append_left _ (hX e he)
          · intro p hp
            rcases List.mem_append.mp hp with hp | hp
            · exact ⟨(htp p hp).1, (htp p hp).2.2⟩
            · exact htu p hp
          · rw [stU_succ]; exact hE.append hst
      · have := strs_len hvs
        simp only [List.length_map] at this
        simp only [List.length_cons, List.length_nil, sizeLine_eq]
        omega
    · rename ¬ (_ = ((i + 1 : Nat) : Int)) => hlen
      have hlen' : ¬ (place + (i + 1) ≤ tx.length) := by omega
      refine for_end F5 N5 (.head _) (nw' := (sl, listOf (vals es).toArray n) :: (D, ({ cls := .type "tuple", data := .seq #[.int 1 tk0, .int 2 (tk0 + 1), .int 3 (tk0 + 1 + 1)] } : Obj)) :: (tups ++ news)) (fun p hp => .tail _ hp) off ⟨?_, es, n, tups, rfl, hes, htu, ?_⟩
      · intro z hz
        have hzn : z ≠ Str.ofString "width" ∧ z ≠ Str.ofString "piece" ∧ z ≠ Str.ofString "last" ∧ z ≠ Str.ofString "sign" := by
          simpa [List.contains_cons, and_assoc] using hz
        show (if z = Str.ofString "piece" then _ else if z = Str.ofString "width" then _ else if _ then _ else _) = _
        rw [if_neg hzn.2.1, if_neg hzn.1, if_neg (by rw [hz]; exact Bool.false_ne_true)]
      · rw [stU_succ, show st1 tx place (i + 1) = [] by unfold st1; rw [if_neg hlen'], List.append_nil]; exact hE
  · rintro m₁ nw h tk ⟨hm, es, n, tups, rfl, hes, htu, hE⟩ F3 N3
    have F4 := fr_canon _ F3 hm
    walk_at "go"
    rename Fr h₀ L _ _ => Fz
    rename News h₀ L _ _ => Nz
    refine ret sl es n tups _ _ hes hE ?_ Fz (news_of Nz ?_)
    · intro p hp q hq
      rcases List.mem_cons.mp hp with rfl | hp
      · exact Nat.ne_of_lt (lsl q hq)
      · exact (htu p hp).2 q hq
    · intro p hp
      rcases List.mem_cons.mp hp with rfl | hp
      · exact .head _
      · exact .tail _ (.tail _ hp)
end
end Mine

-- part B5
namespace Mine
section
variable {prog : Program} {w : World} {A A₀ : Around} {E : Value → Shared → Prop} {s : Shared} {K : Frag} {L : Addr} {h₀ base : Heap} {m mg mb : Str → Option Value} {news : List (Addr × Obj)} {p : Program} {loose : List Str} {mean : ExcName → Option Value} {Q : Value → Shared → Prop}
theorem enterC {env : Env} {outer : List Env} {name qual : Str} {params : Arguments} {body : List Stmt} {scope : Scope} {dV kV doc pm cdv ct oc : Value} {an od : Option Addr} {osl : Array (Option Value)} {f : Addr} {args : List Value} {binds : List (Str × Value)}
    (B : Below A₀ base outer h₀) (F : Fr h₀ L s.heap m) (X₀ : K.In h₀) (N : News h₀ L s.heap news) (T : Top p loose mean mg mb h₀) (hA : A.frames = some (env :: outer)) (hf : env.frame = some L) (hke : env.scope.kind = .function)
    (ho : K.lookup f = some ⟨oc, od, .func (fnOf name qual params body scope dV kV doc pm an cdv ct), osl⟩) (hcd : codeIn K cdv qual = true) (hroom : A.depth < recursionLimit)
    (hbind : BindsTo s (fnOf name qual params body scope dV kV doc pm an cdv ct) ⟨args, []⟩ binds) (hkind : (binds.all fun y => scope.names.lookup y.1 == some .local || scope.names.lookup y.1 == some .cell) = true)
    (hnd : ((cellsFrom 0 scope.names []).map (·.1)).Nodup)
    (h : ∀ g L' h₁ tk cells, Fr h₀ L g m → Fr g L' h₁ (bindL (envOfC qual scope L' f cdv).kindOf binds fun _ => none) → News g L' h₁ (cells ++ news) →
      CellsAre (bindC (envOfC qual scope L' f cdv).kindOf binds fun _ => none) (cellsFrom (L' + 1) scope.names []) cells → Below A base (env :: outer) g → K.In g → Top p loose mean mg mb g → (∀ p ∈ news, p.1 < L') →
      wpAny (model prog w) (A.deeper (envOfC qual scope L' f cdv)) (execs body (envOfC qual scope L' f cdv))
        (fun fl s' => LeaveK h₀ L m g (fun r s' => match r with | .ok (.ret v) => Q v s' | .ok _ => False | .error e => E e s') (match fl with | .ret v => v | _ => .none) s')
        (fun _ _ => False)
        { s with heap := h₁, toks := tk })
    (hco : scope.isCoroutine = false) (hgen : scope.isGenerator = false) (hk : scope.kind = .function) : wpAny (model prog w) A (call (.ref f) args) Q E s :=
  wpAny_call (code_defC B F X₀ N T hA hf hke ho hcd hroom hbind hkind hnd (fun g L' h₁ tk cells a b c d e f g' h' => wpAny_mono (h g L' h₁ tk cells a b c d e f g' h') (fun _ _ x => x) (fun _ _ x => x.elim)) hco hgen hk)

open LCg in
theorem comp_rest {env : Env} {elt : Expr} {x : Str} {scope : Scope} {cl : List (Str × Addr)} {S : List (Addr × Obj) → Prop} {P : Nat → Value → Prop} {Fin : List Value → List (Addr × Obj) → Prop} {n : Nat}
    (J : Nat → List Value → List (Addr × Obj) → Prop) (h0 : J 0 [] news)
    (turn : ∀ i v ys nw I oI C oC D m₂ h tk (E' : Value → Shared → Prop), i < n → J i ys nw → P i v → NsObj oC m₂ → m₂ x = some v → Fr h₀ L h m → News h₀ L h ((I, oI) :: (C, oC) :: (D, lst ys) :: nw) → Off3 I C D nw → ((@Ne Nat I C) ∧ (@Ne Nat I D) ∧ (@Ne Nat C D)) →
      wpAny (model prog w) A (eval elt (compEnvC scope cl C env)) (CompEnd h₀ L m { s with heap := h, toks := tk } I oI C oC D (lst ys) S (fun y nw' => J (i + 1) (ys ++ [y]) nw')) E' { s with heap := h, toks := tk })
    (fin : ∀ ys nw, J n ys nw → Fin ys nw) : CompRest prog w A h₀ L m env elt x scope cl s S P Fin n 0 [] news := by
  have key : ∀ (j i : Nat) (ys : List Value) (nw : List (Addr × Obj)), i + j = n → J i ys nw → CompRest prog w A h₀ L m env elt x scope cl s S P Fin j i ys nw := by
    intro j
    induction j with
    | zero =>
      intro i ys nw hi hj
      have e : i = n := by omega
      subst e
      exact CompRest.zero (fin ys nw hj)
    | succ j ih =>
      intro i ys nw hi hj
      refine CompRest.succ ?_
      intro v I oI C oC D m₂ h tk E' hv hC hx F N off ne
      refine wpAny_mono (turn i v ys nw I oI C oC D m₂ h tk E' (by omega) hj hv hC hx F N off ne) (fun y s₂ hq => ?_) fun _ _ e => e
      obtain ⟨h', tk', nw', e, F', N', off', hS, hJ'⟩ := hq
      exact ⟨h', tk', nw', e, F', N', off', hS, ih (i + 1) _ _ (by omega) hJ'⟩
  exact key n 0 [] news (by omega) h0

theorem gv {l : Addr} {vs : List Value} {n : Nat} {value slice : PySem.Expr} {i : Int} {u : Tok} {v : Value} (N : News h₀ L s.heap news) (hm : (l, listOf vs.toArray n) ∈ news) {k : Nat} (hi : i = (k : Int)) (hv : vs[k]? = some v) (hz : vs.length < 2 ^ 62) (h : Q v s)
    (hs : subscripted slice false (.ref l) (.int i u) = operate [.ref l, .int i u] (getItem (.ref l) (.int i u)) := by with_unfolding_all rfl) :
    wpAny (model prog w) A (subscriptTail value slice (.ref l) (.int i u)) Q E s := by
  subst hi
  have hk : k < vs.length := (List.getElem?_eq_some_iff.mp hv).1
  have hl : s.heap.IsList l vs.toArray := PySem.IsL.isList (n := n) (N _ hm).1
  exact tail_any hl.typeIs slot_list_getitem.lookup (wpAny_getItem_list hl (by omega) (by omega) (by simpa using hv) h) hs
theorem ents_depth : ∀ es : List Ent, PyData.depthAll (es.map Ent.dat) ≤ 1
  | [] => by simp [PyData.depthAll]
  | e :: r => by
    have := ents_depth r
    simp [PyData.depthAll, Ent.dat, PyData.depth] at this ⊢
    omega
theorem ne_nil {l l0 : Addr} {es : List Ent} {n k : Nat} (N : News h₀ L s.heap news) (hm : (l, listOf (vals es).toArray n) ∈ news) (h0 : (l0, listOf #[] k) ∈ news) (hes : ∀ e ∈ es, (e.a, e.obj) ∈ news) (hu : A.units + 70 < cLine) (hok : ∀ e ∈ es, PyData.strOk e.x = true)
    (h : Q (.bool (!es.isEmpty)) s) : wpAny (model prog w) A (compareOp .NotEq (.ref l) (.ref l0)) Q E s := by
  have r1 : Reads s.heap (.ref l) (.list (es.map Ent.dat)) [l] := reads_list_at (N.get hm) rfl rfl (by simpa using ents_reads (es := es) fun f hf => N.get (hes f hf))
  have r2 : Reads s.heap (.ref l0) (.list []) [l0] := reads_list_at (N.get h0) rfl rfl (by simpa using ReadsAll.nil)
  refine ne_dataH r1 r2 ?_ ?_ (by omega) ?_
  · have := ents_depth es
    simp [SeqAt.shaped, PyData.canLay0, PyData.depth, ents_canLay es hok]
    omega
  · rfl
  · have e : PyData.eqv (.list (es.map Ent.dat)) (.list []) = es.isEmpty := by
      cases es <;> simp [PyData.eqv, PyData.eqvAll]
    rw [e]; exact h

theorem range_stc {I : Addr} {a c : Int} {n : Nat} : ∀ i (h h' : Heap) (o : Obj) (nw : List (Addr × Obj)), IsRangeIter h I (a + (i : Nat) * c) ((n : Int) - (i : Nat)) c → h.get? I = some o → h'.get? I = some o → (∀ b o, h₀.get? b = some o → h'.get? b = some o) → News h₀ L h' nw → True → IsRangeIter h' I (a + (i : Nat) * c) ((n : Int) - (i : Nat)) c :=
  fun i h h' o nw st e e' _ _ _ => by
    have st' : h.get? I = some _ := st
    show h'.get? I = some _
    rw [e', ← e]; exact st'
theorem for_range {env : Env} {Q : Flow → Shared → Prop} {target : Expr} {body : List Stmt} {r : Addr} {a b c : Int} {t u v : Tok} {n : Nat} {m₀ : Str → Option Value} {news₀ : List (Addr × Obj)} {R : Value → Shared → Prop}
    (hh : A.handled = none) (J : (Str → Option Value) → Nat → (Str → Option Value) → List (Addr × Obj) → Prop)
    (hr : IsRange s.heap r a b c t u v) (hsm : Builtin.Range.small a b c = true) (hn : Builtin.Range.rangeSize a b c = (n : Int))
    (F : Fr h₀ L s.heap m₀) (N : News h₀ L s.heap news₀) (hJ : J m₀ 0 m₀ news₀)
    (turn : ∀ i tv m₁ nw I oI h tk, i < n → J m₀ i m₁ nw → (∀ p ∈ nw, p.1 ≠ I) → Fr h₀ L h m₁ → News h₀ L h ((I, oI) :: nw) →
      wpAny (model prog w) A (letOwnedTupleGo target (.ref I) (.int (a + (i : Int) * c) tv)) (fun _ s₁ => wpAny (model prog w) A (assign target env (.int (a + (i : Int) * c) tv)) (fun _ s₂ => wpAny (model prog w) A (execs body env) (ForPost h₀ L s Q I oI (J m₀ (i + 1))) (fun _ _ => False) s₂) (fun _ _ => False) s₁) (fun _ _ => False) { s with heap := h, toks := tk })
    (done : ∀ m₁ nw h tk, J m₀ n m₁ nw → Fr h₀ L h m₁ → News h₀ L h nw → Q .next { s with heap := h, toks := tk }) :
    wpAny (model prog w) A (pyIter (.ref r)) (fun it s₂ => codeAny (model prog w) A (.forLoop target it body [] env) (fun r s' => match r with | .ok f => Q f s' | .error e => R e s') s₂) E s := by
  refine wpAny_pyIter_range hr hsm ?_
  have up : ∀ b' o, s.heap.get? b' = some o → (s.heap.push { cls := .type "range_iterator", data := .fields #[rawInt a, rawInt (Builtin.Range.rangeSize a b c), rawInt c] }).get? b' = some o := fun b' o e => Heap.get?_push_of_some _ e
  refine for_walk (s := { s with heap := _ }) (Walks.range (prog := prog) (w := w) hh s.heap.objs.size a c n) (fun i h st => ⟨_, st⟩) (fun _ => True) range_stc (J m₀) ?_
    (F.keeps up) (N.grown up) (Nat.ne_of_lt F.ns.lt) (next_is_new F) (fun p hp => Nat.ne_of_lt (Heap.lt_size (N p hp).1)) (fun _ _ _ _ => trivial) hJ ?_ ?_
  · show IsRangeIter _ _ _ _ _
    rw [hn]
    simpa using Heap.get?_push_size _ rfl
  · rintro i v m₁ nw oI h tk hi ⟨tv, rfl⟩ hj off st F' N'
    exact turn i tv m₁ nw _ oI h tk hi hj off F' N'
  · intro m₁ nw h tk hj F' N'
    exact done m₁ nw h tk hj F' N'

open LCg LCt in
theorem comp_restT {env : Env} {ct elt : Expr} {x : Str} {scope : Scope} {cl : List (Str × Addr)} {S : List (Addr × Obj) → Prop} {P : Nat → Value → Prop} {Fin : List Value → List (Addr × Obj) → Prop} {n : Nat}
    (J : Nat → List Value → List (Addr × Obj) → Prop) (h0 : J 0 [] news)
    (turn : ∀ i v ys nw I oI C oC D m₂ h tk (E' : Value → Shared → Prop), i < n → J i ys nw → P i v → NsObj oC m₂ → m₂ x = some v → Fr h₀ L h m → News h₀ L h ((I, oI) :: (C, oC) :: (D, lst ys) :: nw) → Off3 I C D nw → ((@Ne Nat I C) ∧ (@Ne Nat I D) ∧ (@Ne Nat C D)) →
      wpAny (model prog w) A (isTrue ct (compEnvC scope cl C env) (eval ct (compEnvC scope cl C env))) (fun ok s' => if ok = true then
        wpAny (model prog w) A (eval elt (compEnvC scope cl C env)) (CompEnd h₀ L m { s with heap := h, toks := tk } I oI C oC D (lst ys) S (fun y nw' => J (i + 1) (ys ++ [y]) nw')) E' s'
        else CompEnd h₀ L m { s with heap := h, toks := tk } I oI C oC D (lst ys) S (fun _ nw' => J (i + 1) ys nw') Value.none s') E' { s with heap := h, toks := tk })
    (fin : ∀ ys nw, J n ys nw → Fin ys nw) : CompRestT prog w A h₀ L m env ct elt x scope cl s S P Fin n 0 [] news := by
  have key : ∀ (j i : Nat) (ys : List Value) (nw : List (Addr × Obj)), i + j = n → J i ys nw → CompRestT prog w A h₀ L m env ct elt x scope cl s S P Fin j i ys nw := by
    intro j
    induction j with
    | zero =>
      intro i ys nw hi hj
      have e : i = n := by omega
      subst e
      exact CompRestT.zero (fin ys nw hj)
    | succ j ih =>
      intro i ys nw hi hj
      refine CompRestT.succ ?_
      intro v I oI C oC D m₂ h tk E' hv hC hx F N off ne
      refine wpAny_mono (turn i v ys nw I oI C oC D m₂ h tk E' (by omega) hj hv hC hx F N off ne) (fun ok s₂ hq => ?_) fun _ _ e => e
      cases ok with
      | true =>
        simp only [if_true] at hq ⊢
        refine wpAny_mono hq (fun y s₃ hq => ?_) fun _ _ e => e
        obtain ⟨h', tk', nw', e, F', N', off', hS, hJ'⟩ := hq
        exact ⟨h', tk', nw', e, F', N', off', hS, ih (i + 1) _ _ (by omega) hJ'⟩
      | false =>
        simp only [Bool.false_eq_true, if_false] at hq ⊢
        obtain ⟨h', tk', nw', e, F', N', off', hS, hJ'⟩ := hq
        exact ⟨h', tk', nw', e, F', N', off', hS, ih (i + 1) _ _ (by omega) hJ'⟩
  exact key n 0 [] news (by omega) h0
end
end Mine

-- part P5
namespace Mine

theorem flatMap_congr' {α β : Type} {l : List α} {f g : α → List β} (h : ∀ a ∈ l, f a = g a) : l.flatMap f = l.flatMap g := by
  induction l with
  | nil => rfl
  | cons a r ih => rw [List.flatMap_cons, List.flatMap_cons, h a (.head _), ih fun b hb => h b (.tail _ hb)]
def rowsF (tx : List Nat) : Nat → Nat → List (List Nat)
  | 0, p => if p = tx.length then [[]] else []
  | f + 1, p => (if p = tx.length then [[]] else []) ++ (stU tx p 3).flatMap fun q => (rowsF tx f q.2).map (q.1 :: ·)
def RR (tx : List Nat) (p : Nat) : List (List Nat) := rowsF tx (tx.length - p) p

theorem stU_end {tx : List Nat} {p : Nat} (h : tx.length ≤ p) : stU tx p 3 = [] := by
  rw [List.eq_nil_iff_forall_not_mem]
  intro q hq
  have := stU_mem hq
  omega
theorem rowsF_fuel (tx : List Nat) : ∀ (f p : Nat), tx.length - p ≤ f → rowsF tx f p = rowsF tx (tx.length - p) p
  | 0, p, h => by
    have : tx.length - p = 0 := by omega
    rw [this]
  | f + 1, p, h => by
    by_cases hp : tx.length ≤ p
    · have e : tx.length - p = 0 := by omega
      rw [e]
      simp [rowsF, stU_end hp]
    · obtain ⟨k, hk⟩ : ∃ k, tx.length - p = k + 1 := ⟨tx.length - p - 1, by omega⟩
      rw [hk]
      simp only [rowsF]
      congr 1
      refine flatMap_congr' ?_
      intro q hq
      have hq' := stU_mem hq
      rw [rowsF_fuel tx f q.2 (by omega), rowsF_fuel tx k q.2 (by omega)]
theorem RR_eq (tx : List Nat) (p : Nat) : RR tx p = (if p = tx.length then [[]] else []) ++ (stU tx p 3).flatMap fun q => (RR tx q.2).map (q.1 :: ·) := by
  unfold RR
  rw [← rowsF_fuel tx (tx.length - p + 1) p (by omega)]
  simp only [rowsF]
  congr 1
  refine flatMap_congr' ?_
  intro q hq
  have hq' := stU_mem hq
  rw [rowsF_fuel tx (tx.length - p) q.2 (by omega)]

/-- what is left to be told of an entry of the heap -/
def comp (tx : List Nat) (e : Ent) : List (List Nat) := (RR tx e.k.toNat).map (e.x.cps.toList ++ ·)
def wt (tx : List Nat) (e : Ent) : Nat := 4 ^ (tx.length - e.k.toNat)
def mu (tx : List Nat) (es : List Ent) : Nat := (es.map (wt tx)).sum

theorem mu_perm {tx : List Nat} {a b : List Ent} (h : a.Perm b) : mu tx a = mu tx b := (h.map _).sum_nat
theorem mu_len (tx : List Nat) : ∀ es : List Ent, es.length ≤ mu tx es
  | [] => Nat.zero_le _
  | e :: r => by
    have := mu_len tx r
    have h1 : 1 ≤ wt tx e := Nat.one_le_pow _ _ (by decide)
    simp only [mu, List.map_cons, List.sum_cons, List.length_cons] at this ⊢
    omega
theorem comps_perm {tx : List Nat} {a b : List Ent} (h : a.Perm b) : (a.flatMap (comp tx)).Perm (b.flatMap (comp tx)) := h.flatMap_right _

theorem wt_sum {tx : List Nat} {p : Nat} (hp : p ≤ tx.length) : ((stU tx p 3).map fun q => 4 ^ (tx.length - q.2)).sum < 4 ^ (tx.length - p) := by
  have h1 : ∀ w, 1 ≤ w → ((st1 tx p w).map fun q => 4 ^ (tx.length - q.2)).sum ≤ if p + w ≤ tx.length then 4 ^ (tx.length - (p + w)) else 0 := by
    intro w hw
    unfold st1
    split
    · split <;> simp
    · simp
  have e : stU tx p 3 = st1 tx p 1 ++ st1 tx p 2 ++ st1 tx p 3 := by simp [stU, List.range_succ, List.flatMap_append]
  rw [e]
  simp only [List.map_append, List.sum_append]
  have a1 := h1 1 (by decide)
  have a2 := h1 2 (by decide)
  have a3 := h1 3 (by decide)
  obtain ⟨n, hn⟩ : ∃ n, tx.length - p = n := ⟨_, rfl⟩
  rw [hn]
  match n, hn with
  | 0, hn =>
    rw [if_neg (by omega)] at a1 a2 a3
    simp; omega
  | 1, hn =>
    rw [if_neg (by omega)] at a2 a3
    rw [if_pos (by omega), show tx.length - (p + 1) = 0 by omega] at a1
    simp at a1 ⊢; omega
  | 2, hn =>
    rw [if_neg (by omega)] at a3
    rw [if_pos (by omega), show tx.length - (p + 1) = 1 by omega] at a1
    rw [if_pos (by omega), show tx.length - (p + 2) = 0 by omega] at a2
    simp at a1 a2 ⊢; omega
  | k + 3, hn =>
    rw [if_pos (by omega), show tx.length - (p + 1) = k + 2 by omega] at a1
    rw [if_pos (by omega), show tx.length - (p + 2) = k + 1 by omega] at a2
    rw [if_pos (by omega), show tx.length - (p + 3) = k by omega] at a3
    have : 0 < 4 ^ k := Nat.pow_pos (by decide)
    simp only [Nat.pow_succ] at a1 a2 ⊢
    omega

theorem le_push (l : List Nat) (c : Nat) : l ≤ l ++ [c] := by
  induction l with
  | nil => exact List.nil_le _
  | cons a r ih => 
    refine List.not_lt.mp fun hlt => ?_
    rw [List.cons_append] at hlt
    cases hlt with
    | rel h => exact Nat.lt_irrefl _ h
    | cons h => exact List.not_lt.mpr ih h
theorem le_of_lt_false {e f : Ent} (h : f.lt e = false) : e.x.cps.toList ≤ f.x.cps.toList := by
  unfold Ent.lt at h
  rw [kLt_not] at h
  rcases h with h | ⟨h, _⟩
  · exact List.le_of_lt h
  · rw [h]; exact List.le_refl _

theorem perm_sorted_eq : ∀ {a b : List (List Nat)}, a.Perm b → a.Pairwise (· ≤ ·) → b.Pairwise (· ≤ ·) → a = b
  | [], b, h, _, _ => (List.nil_perm.mp h).symm
  | x :: a, [], h, _, _ => absurd h.length_eq (by simp)
  | x :: a, y :: b, h, ha, hb => by
    have hx : x ∈ y :: b := h.subset (.head _)
    have hy : y ∈ x :: a := h.symm.subset (.head _)
    have hxy : x = y := by
      rcases List.mem_cons.mp hx with e | hx
      · exact e
      · rcases List.mem_cons.mp hy with e | hy
        · exact e.symm
        · exact List.le_antisymm (List.rel_of_pairwise_cons ha hy) (List.rel_of_pairwise_cons hb hx)
    subst hxy
    rw [perm_sorted_eq h.cons_inv (List.Pairwise.of_cons ha) (List.Pairwise.of_cons hb)]
end Mine
namespace Mine
def EntsC (es : List Ent) (r : List Nat) (l : List (Nat × Nat)) : Prop := es.map (fun e => (e.x, e.k)) = l.map (fun q => (S (r ++ [q.1]), (q.2 : Int)))
theorem entsC_comp {tx : List Nat} {r : List Nat} : ∀ {es : List Ent} {l : List (Nat × Nat)}, EntsC es r l → es.flatMap (comp tx) = l.flatMap fun q => (RR tx q.2).map (fun z => r ++ q.1 :: z)
  | [], [], _ => rfl
  | [], _ :: _, h => by simp [EntsC] at h
  | _ :: _, [], h => by simp [EntsC] at h
  | e :: es, q :: l, h => by
    unfold EntsC at h
    rw [List.map_cons, List.map_cons] at h
    injection h with h1 h2
    injection h1 with hx hk
    rw [List.flatMap_cons, List.flatMap_cons, entsC_comp (es := es) (l := l) h2]
    congr 1
    unfold comp
    rw [hx, hk]
    simp
theorem entsC_mu {tx : List Nat} {r : List Nat} : ∀ {es : List Ent} {l : List (Nat × Nat)}, EntsC es r l → mu tx es = (l.map fun q => 4 ^ (tx.length - q.2)).sum
  | [], [], _ => rfl
  | [], _ :: _, h => by simp [EntsC] at h
  | _ :: _, [], h => by simp [EntsC] at h
  | e :: es, q :: l, h => by
    unfold EntsC at h
    rw [List.map_cons, List.map_cons] at h
    injection h with h1 h2
    injection h1 with hx hk
    have := entsC_mu (tx := tx) (es := es) (l := l) h2
    simp only [mu, List.map_cons, List.sum_cons] at this ⊢
    rw [this]
    congr 1
    unfold wt
    rw [hk]
    simp
theorem entsC_mem {es : List Ent} {r : List Nat} {l : List (Nat × Nat)} (h : EntsC es r l) {e : Ent} (he : e ∈ es) : ∃ q ∈ l, e.x = S (r ++ [q.1]) ∧ e.k = (q.2 : Int) := by
  have : (e.x, e.k) ∈ es.map (fun e => (e.x, e.k)) := List.mem_map_of_mem he
  rw [h] at this
  obtain ⟨q, hq, hqe⟩ := List.mem_map.mp this
  injection hqe with h1 h2
  exact ⟨q, hq, h1.symm, h2.symm⟩
theorem comp_pop {tx : List Nat} {e : Ent} {p : Nat} {chs : List Ent} (hk : e.k = (p : Int)) (hc : EntsC chs e.x.cps.toList (stU tx p 3)) :
    comp tx e = (if p = tx.length then [e.x.cps.toList] else []) ++ chs.flatMap (comp tx) := by
  rw [entsC_comp hc]
  unfold comp
  rw [hk, Int.toNat_natCast, RR_eq, List.map_append]
  congr 1
  · split <;> simp
  · rw [List.map_flatMap]
    refine flatMap_congr' ?_
    intro q _
    rw [List.map_map]
    rfl
def trib : Nat → Nat
  | 0 => 1
  | 1 => 1
  | 2 => 2
  | n + 3 => trib (n + 2) + trib (n + 1) + trib n
theorem RR_len (tx : List Nat) : ∀ (n p : Nat), tx.length - p = n → p ≤ tx.length → (RR tx p).length ≤ trib n := by
  intro n
  induction n using Nat.strongRecOn with
  | ind n ih =>
    intro p hn hp
    have e : stU tx p 3 = st1 tx p 1 ++ st1 tx p 2 ++ st1 tx p 3 := by simp [stU, List.range_succ]
    have h1 : ∀ w, 1 ≤ w → ((st1 tx p w).flatMap fun q => (RR tx q.2).map (q.1 :: ·)).length ≤ if p + w ≤ tx.length then trib (n - w) else 0 := by
      intro w hw
      unfold st1
      split
      · rename_i hle
        split
        · simp only [List.flatMap_cons, List.flatMap_nil, List.append_nil, List.length_map]
          exact ih (n - w) (by omega) (p + w) (by omega) hle
        · simp
      · simp
    have a1 := h1 1 (by decide)
    have a2 := h1 2 (by decide)
    have a3 := h1 3 (by decide)
    rw [RR_eq, e, List.flatMap_append, List.flatMap_append]
    simp only [List.length_append]
    match n, hn, a1, a2, a3 with
    | 0, hn, a1, a2, a3 =>
      rw [if_neg (by omega)] at a1 a2 a3
      rw [if_pos (by omega)]
      simp only [List.length_singleton, trib]; omega
    | 1, hn, a1, a2, a3 =>
      rw [if_neg (by omega)] at a2 a3
      rw [if_pos (by omega)] at a1
      rw [if_neg (by omega)]
      have t1 : trib (1 - 1) = 1 := rfl
      simp only [List.length_nil, trib] at ⊢; omega
    | 2, hn, a1, a2, a3 =>
      rw [if_neg (by omega)] at a3
      rw [if_pos (by omega)] at a1 a2
      rw [if_neg (by omega)]
      have t1 : trib (2 - 1) = 1 := rfl
      have t2 : trib (2 - 2) = 1 := rfl
      simp only [List.length_nil, trib] at ⊢; omega
    | k + 3, hn, a1, a2, a3 =>
      rw [if_pos (by omega)] at a1 a2 a3
      rw [if_neg (by omega)]
      rw [show k + 3 - 1 = k + 2 by omega] at a1
      rw [show k + 3 - 2 = k + 1 by omega] at a2
      rw [show k + 3 - 3 = k by omega] at a3
      simp only [List.length_nil, trib]; omega
theorem RR_le (tx : List Nat) (h : tx.length ≤ 6) : (RR tx 0).length ≤ 24 := by
  have h1 := RR_len tx tx.length 0 (by omega) (Nat.zero_le _)
  have h2 : ∀ n, n ≤ 6 → trib n ≤ 24 := by decide
  exact Nat.le_trans h1 (h2 _ h)
theorem rowsF_row (tx : List Nat) : ∀ (f p : Nat) (r : List Nat), r ∈ rowsF tx f p → r.length ≤ tx.length - p
  | 0, p, r, h => by
    unfold rowsF at h
    split at h
    · rw [List.mem_singleton.mp h]; simp
    · cases h
  | f + 1, p, r, h => by
    unfold rowsF at h
    rcases List.mem_append.mp h with h | h
    · split at h
      · rw [List.mem_singleton.mp h]; simp
      · cases h
    · obtain ⟨q, hq, hr⟩ := List.mem_flatMap.mp h
      obtain ⟨r', hr', rfl⟩ := List.mem_map.mp hr
      have h1 := rowsF_row tx f q.2 r' hr'
      have h2 := stU_mem hq
      simp only [List.length_cons]
      omega
theorem RR_row {tx : List Nat} {p : Nat} {r : List Nat} (h : r ∈ RR tx p) : r.length ≤ tx.length - p := rowsF_row tx _ p r h
theorem strs_getS : ∀ {l : List (List Nat)} {vs : List Value}, StrsAre vs (l.map S) → ∀ {j : Nat} {v : Value}, vs[j]? = some v → ∃ r t, l[j]? = some r ∧ v = .str (S r) t
  | [], _, .nil, _, _, hv => nomatch hv
  | c :: l, _, .cons _ t h, 0, v, hv => ⟨c, t, rfl, (Option.some.inj hv).symm⟩
  | c :: l, _, .cons _ t h, j + 1, v, hv => strs_getS (l := l) h (j := j) hv
theorem RR_len_all (tx : List Nat) (h : tx.length ≤ 6) (p : Nat) (hp : p ≤ tx.length) : (RR tx p).length ≤ 24 := by
  have h1 := RR_len tx (tx.length - p) p rfl hp
  have h2 : ∀ n, n ≤ 6 → trib n ≤ 24 := by decide
  exact Nat.le_trans h1 (h2 _ (by omega))
theorem ne_e (d : Nat) : (S [d] != Str.ofString "") = true := by
  rw [lit_e, bne_iff_ne]
  intro h
  have := S_inj.mp h
  cases this
end Mine

-- part P6
namespace Mine
structure TS where
  es : List Ent
  n : Nat
  tv : List Value
  ts : List (List Nat)
  tn : Nat
  tups : List (Addr × Obj)
structure Tell (tx : List Nat) (es : List Ent) (ts : List (List Nat)) : Prop where
  plc : ∀ e ∈ es, ∃ p : Nat, e.k = (p : Int) ∧ p ≤ tx.length ∧ e.x.cps.size ≤ p
  chr : ∀ e ∈ es, ∀ z ∈ e.x.cps.toList, z < 256
  perm : (ts ++ es.flatMap (comp tx)).Perm (RR tx 0)
  srt : ts.Pairwise (· ≤ ·)
  low : ∀ t ∈ ts, ∀ e ∈ es, t ≤ e.x.cps.toList
  wtb : mu tx es ≤ 4096
theorem Tell.start {tx : List Nat} (h : tx.length ≤ 6) (e : Ent) (hx : e.x = S []) (hk : e.k = 0) : Tell tx [e] [] where
  plc := fun f hf => by
    rw [List.mem_singleton.mp hf]
    exact ⟨0, by rw [hk]; rfl, Nat.zero_le _, by rw [hx]; exact Nat.le_refl _⟩
  chr := fun f hf z hz => by
    rw [List.mem_singleton.mp hf, hx] at hz
    simp at hz
  perm := by
    simp only [List.nil_append, List.flatMap_cons, List.flatMap_nil, List.append_nil, comp]
    rw [hk, hx]
    have : (RR tx (0 : Int).toNat).map ((S []).cps.toList ++ ·) = RR tx 0 := by
      show (RR tx 0).map (fun z => [] ++ z) = RR tx 0
      simp
    rw [this]
  srt := .nil
  low := fun t ht => nomatch ht
  wtb := by
    simp only [mu, List.map_cons, List.map_nil, List.sum_cons, List.sum_nil, wt, hk]
    show 4 ^ (tx.length - 0) + 0 ≤ 4096
    have h2 : ∀ n, n ≤ 6 → 4 ^ n ≤ 4096 := by decide
    have := h2 tx.length h
    simpa using this
theorem Tell.len {tx : List Nat} {es : List Ent} {ts : List (List Nat)} (h : Tell tx es ts) : es.length ≤ 4096 := Nat.le_trans (mu_len tx es) h.wtb
theorem Tell.tlen {tx : List Nat} {es : List Ent} {ts : List (List Nat)} (h : Tell tx es ts) (hl : tx.length ≤ 6) : ts.length ≤ 24 := by
  have h1 := h.perm.length_eq
  have h2 := RR_le tx hl
  rw [List.length_append] at h1
  omega
theorem Tell.ok {tx : List Nat} {es : List Ent} {ts : List (List Nat)} (h : Tell tx es ts) : ∀ e ∈ es, PyData.strOk e.x = true := by
  intro e he
  exact strOk_S (l := e.x.cps.toList) (h.chr e he)
theorem Tell.done {tx : List Nat} {ts : List (List Nat)} (h : Tell tx [] ts) : ts.Perm (RR tx 0) := by
  have := h.perm
  simpa using this
/-- one turn: the least is taken, told if it is at its end, and its followers are laid in -/
theorem Tell.turn {tx : List Nat} {es es' es2 chs : List Ent} {ts : List (List Nat)} {e : Ent} {p : Nat} (h : Tell tx es ts) (hp : es.Perm (e :: es')) (hmin : ∀ f ∈ es, f.lt e = false) (hk : e.k = (p : Int))
    (hc : EntsC chs e.x.cps.toList (stU tx p 3)) (h2 : es2.Perm (es' ++ chs)) : Tell tx es2 (ts ++ (if p = tx.length then [e.x.cps.toList] else [])) ∧ mu tx es2 < mu tx es := by
  have he : e ∈ es := hp.symm.subset (.head _)
  obtain ⟨p', hk', hpl, hxs⟩ := h.plc e he
  have hpp : p' = p := by rw [hk] at hk'; omega
  subst hpp
  have hsub : ∀ f ∈ es', f ∈ es := fun f hf => hp.symm.subset (.tail _ hf)
  have hmu : mu tx es2 < mu tx es := by
    rw [mu_perm h2, mu_perm hp]
    have h1 := entsC_mu (tx := tx) hc
    have h3 := wt_sum (tx := tx) hpl
    have e1 : wt tx e = 4 ^ (tx.length - p') := by unfold wt; rw [hk]; simp
    simp only [mu, List.map_append, List.sum_append, List.map_cons, List.sum_cons] at h1 ⊢
    omega
  refine ⟨⟨?_, ?_, ?_, ?_, ?_, ?_⟩, hmu⟩
  · intro f hf
    rcases List.mem_append.mp (h2.subset hf) with hf | hf
    · exact h.plc f (hsub f hf)
    · obtain ⟨q, hq, hx, hkq⟩ := entsC_mem hc hf
      have := stU_mem hq
      refine ⟨q.2, hkq, this.2.2.2, ?_⟩
      rw [hx]
      simp
      omega
  · intro f hf
    rcases List.mem_append.mp (h2.subset hf) with hf | hf
    · exact h.chr f (hsub f hf)
    · obtain ⟨q, hq, hx, _⟩ := entsC_mem hc hf
      intro z hz
      rw [hx] at hz
      simp at hz
      rcases hz with hz | hz
      · exact h.chr e he z (by simpa using hz)
      · rw [hz]; exact (stU_mem hq).1
  · have h3 : (es.flatMap (comp tx)).Perm (comp tx e ++ es'.flatMap (comp tx)) := by
      have := comps_perm (tx := tx) hp
      rwa [List.flatMap_cons] at this
    rw [comp_pop hk hc] at h3
    have h4 : (es2.flatMap (comp tx)).Perm (es'.flatMap (comp tx) ++ chs.flatMap (comp tx)) := by
      have := comps_perm (tx := tx) h2
      rwa [List.flatMap_append] at this
    refine List.Perm.trans ?_ h.perm
    rw [List.append_assoc]
    refine List.Perm.append_left ts ?_
    refine List.Perm.trans ?_ h3.symm
    rw [List.append_assoc]
    refine List.Perm.append_left _ ?_
    exact h4.trans List.perm_append_comm
  · rw [List.pairwise_append]
    refine ⟨h.srt, ?_, ?_⟩
    · split <;> simp
    · intro a ha b hb
      split at hb
      · rw [List.mem_singleton.mp hb]; exact h.low a ha e he
      · cases hb
  · intro t ht f hf
    have hef : e.x.cps.toList ≤ f.x.cps.toList := by
      rcases List.mem_append.mp (h2.subset hf) with hf | hf
      · exact le_of_lt_false (hmin f (hsub f hf))
      · obtain ⟨q, hq, hx, _⟩ := entsC_mem hc hf
        rw [hx]
        exact le_push _ _
    rcases List.mem_append.mp ht with ht | ht
    · exact List.le_trans (h.low t ht e he) hef
    · split at ht
      · rw [List.mem_singleton.mp ht]; exact hef
      · cases ht
  · exact Nat.le_of_lt (Nat.lt_of_lt_of_le hmu h.wtb)
end Mine

-- part C7
namespace Mine
theorem fresh_C7 : True := by
  w_top off
  trivial
section
variable {w : World} {mean : ExcName → Option Value} {mg mb : Str → Option Value} {dp un : Nat} {gd : Option (List Code)} {cn : Str} {cs : Scope} {a : Addr} {ccd : Value} {cl : List (Str × Addr)} {outer : List Env} {A₀ : Around} {base h₀ : Heap} {L : Addr} {m : Str → Option Value} {news : List (Addr × Obj)} {s : Shared} {Q E : Value → Shared → Prop}

local macro_rules | `(tactic| walk_at "stop") => `(tactic| first | (with_reducible show wpAny _ _ (exec (Stmt.While _ _ _ _) _) _ _ _) | (with_reducible show wpAny _ _ (exec (Stmt.For _ _ _ _ _) _) _ _ _))
local macro_rules | `(tactic| walk_at "go") => `(tactic| repeat' (first | (k_unfold; (try dsimp only)) | ((fail_if_success (walk_at "stop")); (first | walk1 | (dsimp only; walk1)))))
local macro_rules | `(tactic| walk_at "stop") => `(tactic| (with_reducible show wpAny _ _ (call (Value.ref _) _) _ _ _))
local macro_rules | `(tactic| walk_at "stop") => `(tactic| (with_reducible show LCg.CompSrc _ _ _ _ _ _ _ _ _ _ _ _ _ _))
def Sts (tx : List Nat) (ses : List (Addr × List Ent × Nat)) (blk : List (Addr × Obj)) : Prop :=
  ∀ k z, ses[k]? = some z → (z.1, listOf (vals z.2.1).toArray z.2.2) ∈ blk ∧ (∀ e ∈ z.2.1, (e.a, e.obj) ∈ blk) ∧ EntsAre z.2.1 (stU tx k 3)
theorem c_told
  (B : Below A₀ base outer h₀) (F : Fr h₀ L s.heap m) (X : (Mine.hd.heap_39 w.params).In h₀) (T : Top Mine.hd.view_39 (looseW Mine.hd.view_39 []) mean mg mb h₀) (hk : cs.kind = .function)
  {ls : Addr} {vs : List Value} {sg : List Nat} {ns : Nat} {tx : List Nat} {t : Tok}
  (N : News h₀ L s.heap news) (hls : (ls, listOf vs.toArray ns) ∈ news) (hvs : StrsAre vs (sg.map fun c => S [c])) (hsg : ∀ c ∈ sg, c < 256) (hsl : sg.length ≤ 8)
  (htx : ∀ c ∈ tx, c < 256) (htl : tx.length ≤ 6)
  (hdp : dp + 6 < recursionLimit) (hun : un + 100 < cLine)
  (ret : ∀ tl tv tn (ts : List (List Nat)) h' tk', StrsAre tv (ts.map S) → ts.Perm (RR tx 0) → ts.Pairwise (· ≤ ·) → (∀ q ∈ news, q.1 ≠ tl) → Fr h₀ L h' m → News h₀ L h' ((tl, listOf tv.toArray tn) :: news) → Q (.ref tl) { s with heap := h', toks := tk' }) :
  wpAny (model Challenge.rw_mq0126_01.row.prog w) (ktrTop dp un gd cn cs L a ccd cl outer) (call (.ref 96) [.ref ls, .str (S tx) t]) Q E s := by
  refine enterC (binds := [(Str.ofString "signs", .ref ls), (Str.ofString "text", .str (S tx) t)]) B F X N T rfl rfl hk (by k_is) (by k_is) (by ktr_room) (BindsTo.of_eq rfl) rfl (by decide +kernel) ?_ rfl rfl rfl
  intro g L' h₁ tk1 cells FG F' N' Y B' X' T' lL
  obtain ⟨o1, o2, rfl, d1, d2⟩ := CellsAre.two Y
  simp only [List.cons_append, List.nil_append] at N'
  walk_at "go"
  refine len_str (by rw [S_len]; omega) ?_
  rw [S_len]
  walk_at "go"
  refine LCg.CompSrc.range (n := tx.length + 1) rfl (by assumption) (by assumption) (by assumption) ?_ ?_ ?_ ?_
  · simp [Builtin.Range.small, Builtin.Range.rangeFitsLong, rangeSize_nat]
    omega
  · rw [rangeSize_nat]; omega
  · rw [sizeLine_eq]; omega
  intro g2
  refine comp_rest (fun i ys nw => ∃ ses blk, ys = ses.map (fun z => Value.ref z.1) ∧ ses.length = i ∧ nw = (L' + 1 + 1, o1) :: (L' + 1, o2) :: (blk ++ news) ∧ Sts tx ses blk) ?_ ?_ ?_
  · exact ⟨[], [], rfl, rfl, rfl, fun k z hz => nomatch hz⟩
  · rintro i v ys nw I oI C oC D m₂ h tk E' hi ⟨ses, blk, rfl, hlen, rfl, hS⟩ ⟨tv, rfl⟩ hoC hmx F2 N2 off ne
    walk_at "go"
    rw [Int.zero_add]
    refine c_steps B' F2 X' T' rfl N2 (.tail _ (.tail _ (.tail _ (.tail _ (.tail _ (List.mem_append_right _ hls)))))) hvs hsg hsl htx htl (by omega) (by ktr_room) (by ktr_units) ?_
    intro l9 es9 n9 tups9 h9 tk9 hes9 hE9 hfr9 F9 N9
    have hoff := off.mem
    refine LCg.CompEnd.intro F9 N9 ((L' + 1 + 1, o1) :: (L' + 1, o2) :: (((l9, listOf (vals es9).toArray n9) :: (tups9 ++ blk)) ++ news)) ?_ ?_ trivial ⟨ses ++ [(l9, es9, n9)], (l9, listOf (vals es9).toArray n9) :: (tups9 ++ blk), by simp, by simp [hlen], rfl, ?_⟩
    · intro p hp
      rcases List.mem_cons.mp hp with rfl | hp
      · exact .tail _ (List.mem_append_right _ (.head _))
      rcases List.mem_cons.mp hp with rfl | hp
      · exact .tail _ (List.mem_append_right _ (.tail _ (.head _)))
      rcases List.mem_cons.mp hp with rfl | hp
      · exact .tail _ (List.mem_append_right _ (.tail _ (.tail _ (.head _))))
      rcases List.mem_cons.mp hp with rfl | hp
      · exact .tail _ (List.mem_append_right _ (.tail _ (.tail _ (.tail _ (.head _)))))
      rcases List.mem_cons.mp hp with rfl | hp
      · exact .tail _ (List.mem_append_right _ (.tail _ (.tail _ (.tail _ (.tail _ (.head _))))))
      rcases List.mem_cons.mp hp with rfl | hp
      · exact .head _
      · have hp : p ∈ (tups9 ++ blk) ++ news := hp
        rw [List.append_assoc] at hp
        rcases List.mem_append.mp hp with hp | hp
        · exact .tail _ (List.mem_append_left _ hp)
        · exact .tail _ (List.mem_append_right _ (.tail _ (.tail _ (.tail _ (.tail _ (.tail _ hp))))))
    · refine LCg.Off3.of ?_
      intro p hp
      have hnew : ∀ p ∈ (l9, listOf (vals es9).toArray n9) :: tups9, p.1 ≠ I ∧ p.1 ≠ C ∧ p.1 ≠ D := fun p hp => ⟨Ne.symm (hfr9 p hp _ (.head _)), Ne.symm (hfr9 p hp _ (.tail _ (.head _))), Ne.symm (hfr9 p hp _ (.tail _ (.tail _ (.head _))))⟩
      rcases List.mem_cons.mp hp with rfl | hp
      · exact hoff (L' + 1 + 1, o1) (.head _)
      rcases List.mem_cons.mp hp with rfl | hp
      · exact hoff (L' + 1, o2) (.tail _ (.head _))
      rcases List.mem_append.mp hp with hp | hp
      · rcases List.mem_cons.mp hp with rfl | hp
        · exact hnew _ (.head _)
        · rcases List.mem_append.mp hp with hp | hp
          · exact hnew p (.tail _ hp)
          · exact hoff p (.tail _ (.tail _ (List.mem_append_left _ hp)))
      · exact hoff p (.tail _ (.tail _ (List.mem_append_right _ hp)))
    · intro k z hz
      by_cases hk : k < ses.length
      · rw [List.getElem?_append_left hk] at hz
        have := hS k z hz
        exact ⟨.tail _ (List.mem_append_right _ this.1), fun e he => .tail _ (List.mem_append_right _ (this.2.1 e he)), this.2.2⟩
      · have hk' : k = ses.length := by
          have := (List.getElem?_eq_some_iff.mp hz).1
          simp at this
          omega
        subst hk'
        rw [List.getElem?_append_right (Nat.le_refl _)] at hz
        simp at hz
        subst hz
        refine ⟨.head _, fun e he => .tail _ (List.mem_append_left _ (hes9 e he)), ?_⟩
        rw [hlen]; exact hE9
  · rintro ys nw ⟨ses, blk, rfl, hlen, rfl, hS⟩
    intro D h tk F2 N2 off
    dsimp only
    walk_at "go"
    rename_i D0 h4 l1a hp h3 l1b h2 tkx tl h5 l1c h6 F3 N3
    obtain ⟨rest, hrest⟩ : ∃ rest, rest = (D, listOf (ses.map fun z => Value.ref z.1).toArray (ses.map fun z => Value.ref z.1).length) :: (blk ++ news) := ⟨_, rfl⟩
    have hrD : (D, listOf (ses.map fun z => Value.ref z.1).toArray (ses.map fun z => Value.ref z.1).length) ∈ rest := by rw [hrest]; exact .head _
    have hrB : ∀ p ∈ blk ++ news, p ∈ rest := fun p hp => by rw [hrest]; exact .tail _ hp
    have hlt1 := allLt_mem l1b.2.2.2.2
    have hlt2 := allLt_mem l1c.2.2.2.2.2
    have hroff : ∀ p ∈ rest, p.1 ≠ hp ∧ p.1 ≠ tl := by
      intro p hp9
      rw [hrest] at hp9
      rcases List.mem_cons.mp hp9 with rfl | hp9
      · exact ⟨Nat.ne_of_lt l1b.2.1, Nat.ne_of_lt l1c.2.2.1⟩
      · exact ⟨Nat.ne_of_lt (hlt1 p hp9), Nat.ne_of_lt (hlt2 p hp9)⟩
    have hcell1 : (L' + 1 + 1 ≠ hp ∧ L' + 1 + 1 ≠ tl) ∧ (L' + 1 ≠ hp ∧ L' + 1 ≠ tl) ∧ hp ≠ tl := ⟨⟨Nat.ne_of_lt l1b.2.2.1, Nat.ne_of_lt l1c.2.2.2.1⟩, ⟨Nat.ne_of_lt l1b.2.2.2.1, Nat.ne_of_lt l1c.2.2.2.2.1⟩, Nat.ne_of_lt l1c.1⟩
    obtain ⟨e0, he0a, he0x, he0k, N3⟩ : ∃ e0 : Ent, e0.a = D0 ∧ e0.x = S [] ∧ e0.k = 0 ∧ News g L' h6 ((tl, listOf #[] 0) :: (hp, listOf (vals [e0]).toArray 0) :: (e0.a, e0.obj) :: (D, listOf (ses.map fun z => Value.ref z.1).toArray (ses.map fun z => Value.ref z.1).length) :: (L' + 1 + 1, o1) :: (L' + 1, o2) :: (blk ++ news)) := ⟨⟨D0, S [], 0, _, _, 0⟩, rfl, rfl, rfl, (lit_e ▸ N3)⟩
    refine ksw_while (σ := TS) (fun c => (hp, listOf (vals c.es).toArray c.n) :: (tl, listOf c.tv.toArray c.tn) :: (L' + 1 + 1, o1) :: (L' + 1, o2) :: (c.tups ++ rest)) (fun c => []) (fun _ => True) [Str.ofString "row", Str.ofString "place", Str.ofString "sign", Str.ofString "end"]
      (fun c => Tell tx c.es c.ts ∧ Hp Ent.lt c.es ∧ StrsAre c.tv (c.ts.map S) ∧ (∀ e ∈ c.es, (e.a, e.obj) ∈ c.tups) ∧ (∀ p ∈ c.tups, p.1 ≠ hp ∧ p.1 ≠ tl)) (fun c => mu tx c.es) ⟨[e0], 0, [], [], 0, [(e0.a, e0.obj)]⟩ F3 (news_of N3 ?_) trivial (fun _ h => nomatch h) ⟨Tell.start htl e0 he0x he0k, ?_, .nil, ?_, ?_⟩ ?_
    · intro p hp9
      rcases List.mem_cons.mp hp9 with rfl | hp9
      · exact .tail _ (.head _)
      rcases List.mem_cons.mp hp9 with rfl | hp9
      · exact .head _
      rcases List.mem_cons.mp hp9 with rfl | hp9
      · exact .tail _ (.tail _ (.tail _ (.tail _ (.head _))))
      rcases List.mem_cons.mp hp9 with rfl | hp9
      · exact .tail _ (.tail _ (.tail _ (.tail _ (.tail _ (.head _)))))
      rcases List.mem_cons.mp hp9 with rfl | hp9
      · exact .tail _ (.tail _ (.head _))
      · have hp9 : p ∈ rest := hp9
        rw [hrest] at hp9
        rcases List.mem_cons.mp hp9 with rfl | hp9
        · exact .tail _ (.tail _ (.tail _ (.head _)))
        · exact .tail _ (.tail _ (.tail _ (.tail _ (.tail _ (.tail _ hp9)))))
    · intro i a b hi ha hb
      have := (List.getElem?_eq_some_iff.mp ha).1
      simp at this
      omega
    · intro e he
      rw [List.mem_singleton.mp he]; exact .head _
    · intro p hp9
      rw [List.mem_singleton.mp hp9, he0a]
      exact ⟨Nat.ne_of_lt l1b.1, Nat.ne_of_lt l1c.2.1⟩
    rintro ⟨es, n, tv, ts, tn, tups⟩ u h8 tk8 _ ⟨hT, hH, hSt, hmem, htoff⟩ F4 N4
    dsimp only at hT hH hSt hmem htoff N4 ⊢
    dsimp only [kstB] at F4
    walk_at "go"
    rename_i l0 h9 F5 N5 l1d
    refine ne_nil N5 (.tail _ (.head _)) (.head _) (fun e he => .tail _ (.tail _ (.tail _ (.tail _ (.tail _ (List.mem_append_left _ (hmem e he))))))) (by ktr_units) hT.ok ?_
    walk_at "go"
    · rename es.isEmpty = true => hem
      have hes : es = [] := List.isEmpty_iff.mp hem
      subst hes
      refine ret tl tv tn ts _ _ hSt hT.done hT.srt (fun q hq => (hroff q (hrB q (List.mem_append_right _ hq))).2) (by assumption) (news_of (by assumption) ?_)
      intro p hp9
      rcases List.mem_cons.mp hp9 with rfl | hp9
      · exact .tail _ (.tail _ (.head _))
      · exact .tail _ (.tail _ (.tail _ (.tail _ (.tail _ (List.mem_append_right _ (hrB p (List.mem_append_right _ hp9)))))))
    · rename es.isEmpty = false => hem
      have hes : 0 < es.length := by
        cases es with
        | nil => cases hem
        | cons a b => simp
      refine c_heappop (es := es) (n := n) B' F5 X' T' rfl (news_of N5 (fun p hp9 => .tail _ hp9)) ?_ (fun e he => .tail _ (.tail _ (.tail _ (List.mem_append_left _ (hmem e he))))) hes (Nat.le_trans hT.len (by decide)) hH (by ktr_room) (by ktr_units) ?_
      · intro p hp9
        rcases List.mem_cons.mp hp9 with rfl | hp9
        · exact Ne.symm hcell1.2.2
        rcases List.mem_cons.mp hp9 with rfl | hp9
        · exact hcell1.1.1
        rcases List.mem_cons.mp hp9 with rfl | hp9
        · exact hcell1.2.1.1
        rcases List.mem_append.mp hp9 with hp9 | hp9
        · exact (htoff p hp9).1
        · exact (hroff p hp9).1
      intro e es' n' h10 tk10 hperm hmin hH' F6 N6
      have hee : e ∈ es := hperm.symm.subset (.head _)
      obtain ⟨p, hkp, hple, hxs⟩ := hT.plc e hee
      have N7 : News g L' h10 ((e.a, ({ cls := .type "tuple", data := .seq #[.str e.x e.t, .int e.k e.u] e.n } : Obj)) :: (hp, listOf (vals es').toArray n') :: (tl, listOf tv.toArray tn) :: (L' + 1 + 1, o1) :: (L' + 1, o2) :: (tups ++ rest)) := by
        intro q hq
        rcases List.mem_cons.mp hq with rfl | hq
        · exact N6 (e.a, e.obj) (.tail _ (.tail _ (.tail _ (.tail _ (List.mem_append_left _ (hmem e hee))))))
        · exact N6 q hq
      rw [hkp] at N7
      clear N6 N5
      obtain ⟨z, hz⟩ : ∃ z, ses[p]? = some z := ⟨ses[p]'(by omega), List.getElem?_eq_getElem _⟩
      have hzS := hS p z hz
      have hzv : (ses.map fun z => Value.ref z.1)[p]? = some (.ref z.1) := by rw [List.getElem?_map, hz]; rfl
      have hzl : (ses.map fun z => Value.ref z.1).length < 2 ^ 62 := by rw [List.length_map, hlen]; omega
      walk_at "go"
      refine len_str (by rw [S_len]; omega) ?_
      rw [S_len]
      walk_at "go"
      · rename (p : Int) = (tx.length : Int) => hpe
        rename Fr g L' _ _ => F8
        rename News g L' _ _ => N8
        have hple' : p = tx.length := by omega
        have hst0 : stU tx p 3 = [] := stU_end (by omega)
        have hz0 : z.2.1 = [] := by
          have := ents_length hzS.2.2
          rw [hst0] at this
          exact List.eq_nil_of_length_eq_zero this
        refine append_K F8 (news_of (l' := (tl, listOf tv.toArray tn) :: (hp, listOf (vals es').toArray n') :: (L' + 1 + 1, o1) :: (L' + 1, o2) :: (tups ++ rest)) N8 ?_) (Upd.head ?_) ?_ ?_
        · intro q hq
          rcases List.mem_cons.mp hq with rfl | hq
          · exact .tail _ (.tail _ (.head _))
          rcases List.mem_cons.mp hq with rfl | hq
          · exact .tail _ (.head _)
          · exact .tail _ (.tail _ (.tail _ hq))
        · intro q hq
          rcases List.mem_cons.mp hq with rfl | hq
          · exact hcell1.2.2
          rcases List.mem_cons.mp hq with rfl | hq
          · exact hcell1.1.2
          rcases List.mem_cons.mp hq with rfl | hq
          · exact hcell1.2.1.2
          rcases List.mem_append.mp hq with hq | hq
          · exact (htoff q hq).2
          · exact (hroff q hq).2
        · rw [List.push_toArray]
          intro h11 F9 N9
          walk_at "go"
          refine wpAny_For ?_
          walk_at "go"
          refine gv N9 (.tail _ (.tail _ (.tail _ (.tail _ (List.mem_append_right _ hrD))))) rfl hzv hzl ?_
          walk_at "go"
          refine for_list' (l := z.1) (vs := vals z.2.1) (n := z.2.2) rfl
            (fun mC j m nw => (∀ y, [Str.ofString "sign", Str.ofString "end"].contains y = false → m y = mC y) ∧ nw = (hp, listOf (vals es').toArray n') :: (tl, listOf (tv ++ [Value.str e.x e.t]).toArray (tn + 1)) :: (L' + 1 + 1, o1) :: (L' + 1, o2) :: (tups ++ rest))
            F9 (news_of N9 (l' := (hp, listOf (vals es').toArray n') :: (tl, listOf (tv ++ [Value.str e.x e.t]).toArray (tn + 1)) :: (L' + 1 + 1, o1) :: (L' + 1, o2) :: (tups ++ rest)) ?_) ?_ ?_ ?_ ?_
          · intro q hq
            rcases List.mem_cons.mp hq with rfl | hq
            · exact .tail _ (.head _)
            rcases List.mem_cons.mp hq with rfl | hq
            · exact .head _
            · exact .tail _ (.tail _ hq)
          · rintro j m nw ⟨_, rfl⟩
            exact .tail _ (.tail _ (.tail _ (.tail _ (List.mem_append_right _ (hrB _ (List.mem_append_left _ hzS.1))))))
          · exact ⟨fun _ _ => rfl, rfl⟩
          · intro j v m₃ nw I oI h12 tk12 hv3
            rw [hz0] at hv3
            exact nomatch hv3
          · rintro m₃ nw h12 tk12 ⟨hm3, rfl⟩ F10 N10
            walk_at "go"
            have hturn := hT.turn (p := p) (chs := []) (es2 := es') hperm hmin hkp (by rw [hst0]; rfl) (by simp)
            rw [if_pos hple'] at hturn
            refine ksw_end ⟨es', n', tv ++ [Value.str e.x e.t], ts ++ [e.x.cps.toList], tn + 1, tups⟩ F10 N10 (fun _ x => x) trivial (fun _ h => nomatch h) ?_ ⟨hturn.1, hH', ?_, fun f hf => hmem f (hperm.symm.subset (.tail _ hf)), htoff⟩ hturn.2
            · intro y _ hy
              have hyn : y ≠ Str.ofString "row" ∧ y ≠ Str.ofString "place" ∧ y ≠ Str.ofString "sign" ∧ y ≠ Str.ofString "end" := by
                simpa [List.contains_cons, and_assoc] using hy
              rw [hm3 y (by simp [hyn.2.2.1, hyn.2.2.2])]
              show (if y = Str.ofString "place" then _ else if y = Str.ofString "row" then _ else if _ then _ else _) = _
              rw [if_neg hyn.2.1, if_neg hyn.1, if_neg (by rw [hy]; exact Bool.false_ne_true)]
            · dsimp only
              rw [List.map_append]
              exact strs_snoc hSt
        · have := strs_len hSt
          rw [List.length_map] at this
          have h24 := hT.tlen htl
          rw [List.size_toArray, sizeLine_eq]
          omega
      · rename (p : Int) ≠ (tx.length : Int) => hpe
        rename Fr g L' _ _ => F8
        rename News g L' _ _ => N8
        refine wpAny_For ?_
        walk_at "go"
        refine gv N8 (.tail _ (.tail _ (.tail _ (.tail _ (.tail _ (List.mem_append_right _ hrD)))))) rfl hzv hzl ?_
        walk_at "go"
        refine for_list' (l := z.1) (vs := vals z.2.1) (n := z.2.2) rfl
          (fun mC j m nw => (∀ y, [Str.ofString "sign", Str.ofString "end"].contains y = false → m y = mC y) ∧
            ∃ chs es2 n2 tp2, nw = (hp, listOf (vals es2).toArray n2) :: (tl, listOf tv.toArray tn) :: (L' + 1 + 1, o1) :: (L' + 1, o2) :: (tp2 ++ rest) ∧ es2.Perm (es' ++ chs) ∧ EntsC chs e.x.cps.toList ((stU tx p 3).take j) ∧ Hp Ent.lt es2 ∧ (∀ f ∈ es2, (f.a, f.obj) ∈ tp2) ∧ (∀ q ∈ tp2, q.1 ≠ hp ∧ q.1 ≠ tl))
          F8 (news_of N8 (l' := (hp, listOf (vals es').toArray n') :: (tl, listOf tv.toArray tn) :: (L' + 1 + 1, o1) :: (L' + 1, o2) :: (tups ++ rest)) (fun q hq => .tail _ hq)) ?_ ?_ ?_ ?_
        · rintro j m nw ⟨_, chs, es2, n2, tp2, rfl, _⟩
          exact .tail _ (.tail _ (.tail _ (.tail _ (List.mem_append_right _ (hrB _ (List.mem_append_left _ hzS.1))))))
        · exact ⟨fun _ _ => rfl, [], es', n', tups, rfl, by simp, by simp [EntsC], hH', (fun f hf => hmem f (hperm.symm.subset (.tail _ hf))), htoff⟩
        · rintro j v m₃ nw I oI h12 tk12 hv3 ⟨hm3, chs, es2, n2, tp2, rfl, hpm2, hC2, hHp2, hmem2, hoff2⟩ off3 hit3 F10 N10
          obtain ⟨q, hq, rfl⟩ := vals_get' hv3
          obtain ⟨c, k, hck, hqx, hqk⟩ := ents_get hzS.2.2 hq
          refine wpAny_letOwnedTupleGo_listiter hit3 ?_
          have F11 := fr_canon _ F10 hm3
          have N11 : News g L' h12 ((q.a, ({ cls := .type "tuple", data := .seq #[.str q.x q.t, .int q.k q.u] q.n } : Obj)) :: (I, oI) :: (hp, listOf (vals es2).toArray n2) :: (tl, listOf tv.toArray tn) :: (L' + 1 + 1, o1) :: (L' + 1, o2) :: (tp2 ++ rest)) := by
            intro y hy
            rcases List.mem_cons.mp hy with rfl | hy
            · exact N10 (q.a, q.obj) (.tail _ (.tail _ (.tail _ (.tail _ (.tail _ (List.mem_append_right _ (hrB _ (List.mem_append_left _ (hzS.2.1 q (List.mem_of_getElem? hq))))))))))
            · exact N10 y hy
          rw [hqx, hqk] at N11
          dsimp only
          have hxl : e.x.length ≤ 6 := Nat.le_trans hxs (Nat.le_trans hple htl)
          clear N10 F10
          walk_at "go"
          rename_i D2 h13 F12 N12 l1e
          obtain ⟨t2, hD2⟩ : ∃ t2, h13.get? D2 = some (Ent.obj ⟨D2, e.x ++ S [c], (k : Int), t2, q.u, 0⟩) ∧ D2 ≠ L' ∧ g.get? D2 = none := ⟨_, N12 _ (.head _)⟩
          obtain ⟨f2, hf2⟩ : ∃ f2 : Ent, f2 = ⟨D2, e.x ++ S [c], (k : Int), t2, q.u, 0⟩ := ⟨_, rfl⟩
          have hf2a : D2 = f2.a := by rw [hf2]
          have hlt := allLt_mem l1e.2.2.2.2.2.2
          have N13 : News g L' h13 ((hp, listOf (vals es2).toArray n2) :: (f2.a, f2.obj) :: (I, oI) :: (tl, listOf tv.toArray tn) :: (L' + 1 + 1, o1) :: (L' + 1, o2) :: (tp2 ++ rest)) := by
            intro y hy
            rcases List.mem_cons.mp hy with rfl | hy
            · exact N12 _ (.tail _ (.tail _ (.tail _ (.head _))))
            rcases List.mem_cons.mp hy with rfl | hy
            · rw [hf2]; exact hD2
            rcases List.mem_cons.mp hy with rfl | hy
            · exact N12 _ (.tail _ (.tail _ (.head _)))
            · exact N12 _ (.tail _ (.tail _ (.tail _ (.tail _ hy))))
          have hDhp : D2 ≠ hp := Nat.ne_of_gt l1e.2.2.1
          have hDtl : D2 ≠ tl := Nat.ne_of_gt l1e.2.2.2.1
          have hDI : D2 ≠ I := Nat.ne_of_gt l1e.2.1
          rw [hf2a] at hDhp hDtl hDI ⊢
          refine c_heappush (es := es2) (e := f2) (n := n2) B' F12 X' T' rfl N13 ?_ (fun f hf => .tail _ (.tail _ (.tail _ (.tail _ (.tail _ (List.mem_append_left _ (hmem2 f hf)))))))  (.head _) ?_ hHp2 (by ktr_room) (by ktr_units) ?_
          · intro y hy
            rcases List.mem_cons.mp hy with rfl | hy
            · exact hDhp
            rcases List.mem_cons.mp hy with rfl | hy
            · exact Ne.symm (off3 (hp, listOf (vals es2).toArray n2) (.head _))
            rcases List.mem_cons.mp hy with rfl | hy
            · exact Ne.symm hcell1.2.2
            rcases List.mem_cons.mp hy with rfl | hy
            · exact hcell1.1.1
            rcases List.mem_cons.mp hy with rfl | hy
            · exact hcell1.2.1.1
            rcases List.mem_append.mp hy with hy | hy
            · exact (hoff2 y hy).1
            · exact (hroff y hy).1
          · have h1 := hpm2.length_eq
            have h2 := congrArg List.length hC2
            have h3 := hperm.length_eq
            have h4 := hT.len
            have h5 := stU_length tx p 3
            simp only [List.length_map, List.length_take, List.length_append, List.length_cons] at h1 h2 h3
            omega
          · intro es3 n3 h14 tk14 hpm3 hHp3 F13 N14
            walk_at "go"
            refine for_end F13 N14 (.tail _ (.tail _ (.head _))) (nw' := (hp, listOf (vals es3).toArray n3) :: (tl, listOf tv.toArray tn) :: (L' + 1 + 1, o1) :: (L' + 1, o2) :: (((f2.a, f2.obj) :: tp2) ++ rest)) ?_ ?_ ⟨fun y hy => same2 hy, chs ++ [f2], es3, n3, (f2.a, f2.obj) :: tp2, rfl, ?_, ?_, hHp3, ?_, ?_⟩
            · intro y hy
              rcases List.mem_cons.mp hy with rfl | hy
              · exact .head _
              rcases List.mem_cons.mp hy with rfl | hy
              · exact .tail _ (.tail _ (.tail _ (.head _)))
              rcases List.mem_cons.mp hy with rfl | hy
              · exact .tail _ (.tail _ (.tail _ (.tail _ (.head _))))
              rcases List.mem_cons.mp hy with rfl | hy
              · exact .tail _ (.tail _ (.tail _ (.tail _ (.tail _ (.head _)))))
              rcases List.mem_cons.mp hy with rfl | hy
              · exact .tail _ (.head _)
              · exact .tail _ (.tail _ (.tail _ (.tail _ (.tail _ (.tail _ hy)))))
            · intro y hy
              rcases List.mem_cons.mp hy with rfl | hy
              · exact off3 (hp, listOf (vals es2).toArray n2) (.head _)
              rcases List.mem_cons.mp hy with rfl | hy
              · exact off3 (tl, listOf tv.toArray tn) (.tail _ (.head _))
              rcases List.mem_cons.mp hy with rfl | hy
              · exact off3 (L' + 1 + 1, o1) (.tail _ (.tail _ (.head _)))
              rcases List.mem_cons.mp hy with rfl | hy
              · exact off3 (L' + 1, o2) (.tail _ (.tail _ (.tail _ (.head _))))
              rcases List.mem_cons.mp hy with rfl | hy
              · exact hDI
              · exact off3 y (.tail _ (.tail _ (.tail _ (.tail _ hy))))
            · rw [← List.append_assoc]
              exact hpm3.trans (hpm2.append_right _)
            · rw [List.take_add_one, hck]
              unfold EntsC at hC2 ⊢
              rw [List.map_append, List.map_append, hC2, hf2]
              simp only [List.map_cons, List.map_nil, Option.toList]
              rw [← S_append]
            · intro f hf
              rcases List.mem_append.mp (hpm3.subset hf) with hf | hf
              · exact .tail _ (hmem2 f hf)
              · rw [List.mem_singleton.mp hf]; exact .head _
            · intro y hy
              rcases List.mem_cons.mp hy with rfl | hy
              · exact ⟨hDhp, hDtl⟩
              · exact hoff2 y hy
        · rintro m₃ nw h12 tk12 ⟨hm3, chs, es2, n2, tp2, rfl, hpm2, hC2, hHp2, hmem2, hoff2⟩ F10 N10
          walk_at "go"
          have hple' : ¬ p = tx.length := by omega
          rw [vals_length, ents_length hzS.2.2, List.take_length] at hC2
          have hturn := hT.turn (p := p) (chs := chs) (es2 := es2) hperm hmin hkp hC2 hpm2
          rw [if_neg hple', List.append_nil] at hturn
          refine ksw_end ⟨es2, n2, tv, ts, tn, tp2⟩ F10 N10 (fun _ x => x) trivial (fun _ h => nomatch h) ?_ ⟨hturn.1, hHp2, hSt, hmem2, hoff2⟩ hturn.2
          intro y _ hy
          have hyn : y ≠ Str.ofString "row" ∧ y ≠ Str.ofString "place" ∧ y ≠ Str.ofString "sign" ∧ y ≠ Str.ofString "end" := by
            simpa [List.contains_cons, and_assoc] using hy
          rw [hm3 y (by simp [hyn.2.2.1, hyn.2.2.2])]
          show (if y = Str.ofString "place" then _ else if y = Str.ofString "row" then _ else if _ then _ else _) = _
          rw [if_neg hyn.2.1, if_neg hyn.1, if_neg (by rw [hy]; exact Bool.false_ne_true)]
end
end Mine

-- part B6
namespace Mine
section
variable {prog : Program} {w : World} {A : Around} {E : Value → Shared → Prop} {s : Shared} {h₀ : Heap} {L l : Addr} {m : Str → Option Value} {news : List (Addr × Obj)}
theorem seq_list_iadd : seqSlot? (.type "list") (dunderI "add") = pure (some (.builtin "list.__iadd__")) := PyProof.Rows.seqSlot_of F.slot_list_iadd.lookup (by decide +kernel)
theorem iadd_K {b : Addr} {vs ws : List Value} {n k : Nat} {Q : Value → Shared → Prop} (F0 : Fr h₀ L s.heap m) (N : News h₀ L s.heap ((l, listOf vs.toArray n) :: news)) (hd : ∀ p ∈ news, p.1 ≠ l) (hb : (b, listOf ws.toArray k) ∈ news)
    (h : ∀ n' h', Fr h₀ L h' m → News h₀ L h' ((l, listOf (vs ++ ws).toArray n') :: news) → Q (.ref l) { s with heap := h' })
    (hsz : vs.length + ws.length ≤ 1000) : wpAny (model prog w) A (inplaceOp .Add (.ref l) (.ref b)) Q E s := by
  have z := N (l, listOf vs.toArray n) (.head _)
  have zb := N (b, listOf ws.toArray k) (.tail _ hb)
  have ta : s.TypeIs (.ref l) "list" := ⟨_, z.1, rfl⟩
  have tb : s.TypeIs (.ref b) "list" := ⟨_, zb.1, rfl⟩
  unfold inplaceOp
  refine wpAny_holding ?_
  have hfi : fillsInplaceSlot (.type "list") "add" (Operator.Add == .Add) = pure false := by
    unfold fillsInplaceSlot
    show (typeLookup (.type "list") (dunderI "add") >>= fun fi => pure (fi.isSome && !isSeqSlot fi)) = pure false
    rw [F.slot_list_iadd.lookup]
    show (pure (true && !isSeqSlotId "list.__iadd__") : Sem Bool) = pure false
    rw [show isSeqSlotId "list.__iadd__" = true by decide +kernel]; rfl
  refine wpAny_bind (wpAny_typeOf ta (wpAny_bind (wpAny_of_eq hfi ?_)))
  show wpAny _ A (if false = true then _ else _) Q E s
  rw [if_neg Bool.false_ne_true]
  refine wpAny_bind (wpAny_binaryOp1_none (nm := "add") ta tb noFill_list_add ?_)
  refine wpAny_bind (wpAny_of_eq seq_list_iadd ?_)
  refine wpAny_bind (wpAny_rule ?_)
  have hL : sizeLine ≥ 1000 := by decide +kernel
  refine call_meets F.slot_list_iadd ta F.entry_list_iadd (F.args_list_iadd_2 _ _) (AutoSeq1.list___iadd___list_list_0 l vs.toArray n b ws.toArray k ?_ ?_ ?_) ⟨z.1, zb.1, h _ _ (F0.change (Heap.SameBut.update ..) z.2.1 z.2.2) (ki_turn (pre := []) _ N (fun _ h => nomatch h) hd ?_ rfl)⟩
  · have h1 : Builtin.List.listTooLong (vs.toArray.size + ws.toArray.size) = false := by simp only [Builtin.List.listTooLong, List.size_toArray, decide_eq_false_iff_not]; omega
    rw [h1, Bool.and_false]; exact Bool.false_ne_true
  · simp; omega
  · simp; omega
  · simp
end
end Mine

-- part P7
namespace Mine
theorem uc_len (c : Nat) (h : c < 256) : 1 ≤ (uc c).length ∧ (uc c).length ≤ 3 := by
  have : ∀ c : Fin 256, 1 ≤ (uc c.val).length ∧ (uc c.val).length ≤ 3 := by decide +kernel
  exact this ⟨c, h⟩
theorem uc_lt (c : Nat) (h : c < 256) : ∀ d ∈ uc c, d < 256 := by
  have : ∀ c : Fin 256, ((uc c.val).all fun d => decide (d < 256)) = true := by decide +kernel
  intro d hd
  exact of_decide_eq_true (List.all_eq_true.mp (this ⟨c, h⟩) d hd)
theorem ucs_lt {sg : List Nat} (h : ∀ c ∈ sg, c < 256) : ∀ d ∈ sg.flatMap uc, d < 256 := by
  intro d hd
  obtain ⟨c, hc, hd⟩ := List.mem_flatMap.mp hd
  exact uc_lt c (h c hc) d hd
theorem ucs_len {sg : List Nat} (h : ∀ c ∈ sg, c < 256) : (sg.flatMap uc).length ≤ 3 * sg.length := by
  induction sg with
  | nil => simp
  | cons c r ih =>
    have h1 := ih fun d hd => h d (.tail _ hd)
    have h2 := (uc_len c (h c (.head _))).2
    rw [List.flatMap_cons, List.length_append, List.length_cons]
    omega
theorem own_row : ∀ (sg pre : List Nat), (∀ c ∈ sg, c < 256) → sg ∈ RR (pre ++ sg.flatMap uc) pre.length
  | [], pre, _ => by
    rw [RR_eq]
    simp
  | c :: r, pre, h => by
    have ih := own_row r (pre ++ uc c) fun d hd => h d (.tail _ hd)
    have hc := h c (.head _)
    have hl := uc_len c hc
    have e : pre ++ (c :: r).flatMap uc = (pre ++ uc c) ++ r.flatMap uc := by
      rw [List.flatMap_cons, List.append_assoc]
    rw [RR_eq]
    refine List.mem_append_right _ (List.mem_flatMap.mpr ⟨(c, pre.length + (uc c).length), ?_, ?_⟩)
    · unfold stU
      refine List.mem_flatMap.mpr ⟨(uc c).length - 1, List.mem_range.mpr (by omega), ?_⟩
      rw [show (uc c).length - 1 + 1 = (uc c).length by omega]
      rw [st1_some (d := c) ?_ hc ?_]
      · exact .head _
      · rw [e, List.length_append, List.length_append]; omega
      · unfold pieceOf
        rw [List.flatMap_cons, List.drop_left, List.take_left]
    · rw [e, ← List.length_append]
      exact List.mem_map.mpr ⟨r, ih, rfl⟩
theorem own_row0 (sg : List Nat) (h : ∀ c ∈ sg, c < 256) : sg ∈ RR (sg.flatMap uc) 0 := own_row sg [] h
theorem rowsF_lt (tx : List Nat) : ∀ (f p : Nat) (r : List Nat), r ∈ rowsF tx f p → ∀ c ∈ r, c < 256
  | 0, p, r, h => by
    unfold rowsF at h
    split at h
    · rw [List.mem_singleton.mp h]; intro c hc; cases hc
    · cases h
  | f + 1, p, r, h => by
    unfold rowsF at h
    rcases List.mem_append.mp h with h | h
    · split at h
      · rw [List.mem_singleton.mp h]; intro c hc; cases hc
      · cases h
    · obtain ⟨q, hq, hr⟩ := List.mem_flatMap.mp h
      obtain ⟨r', hr', rfl⟩ := List.mem_map.mp hr
      have h1 := rowsF_lt tx f q.2 r' hr'
      intro c hc
      rcases List.mem_cons.mp hc with rfl | hc
      · exact (stU_mem hq).1
      · exact h1 c hc
theorem RR_lt {tx : List Nat} {p : Nat} {r : List Nat} (h : r ∈ RR tx p) : ∀ c ∈ r, c < 256 := rowsF_lt tx _ p r h
/-- ''.join of texts -/
theorem glue_S : ∀ (l : List (List Nat)) (a : Array Nat), (l.map S).foldl (fun acc p => acc ++ (Str.ofString "").cps ++ p.cps) a = a ++ l.flatten.toArray
  | [], a => by simp
  | x :: r, a => by
    rw [List.map_cons, List.foldl_cons, glue_S r, lit_e]
    simp
theorem join_S (l : List (List Nat)) : Txt.join (Str.ofString "") (l.map S) = S l.flatten := by
  unfold Txt.join Builtin.Str.glued
  cases l with
  | nil => rfl
  | cons x r =>
    show (⟨(r.map S).foldl _ (S x).cps⟩ : Str) = _
    rw [glue_S]
    simp
theorem join_uc (sg : List Nat) : Txt.join (Str.ofString "") (sg.map fun c => S (uc c)) = S (sg.flatMap uc) := by
  have := join_S (sg.map uc)
  rw [List.map_map] at this
  rw [List.flatMap_def]
  exact this
theorem join_one (sg : List Nat) : Txt.join (Str.ofString "") (sg.map fun c => S [c]) = S sg := by
  have := join_S (sg.map fun c => [c])
  rw [List.map_map] at this
  have e : ∀ l : List Nat, (l.map fun c => [c]).flatten = l := by
    intro l
    induction l with
    | nil => rfl
    | cons a r ih => rw [List.map_cons, List.flatten_cons, ih]; rfl
  rw [e] at this
  exact this
/-- sorted texts -/
theorem rising_pw : ∀ (l : List Str) (p : Str), risingS p l = true → (p :: l).Pairwise (fun a b => a.cps.toList ≤ b.cps.toList)
  | [], p, _ => List.pairwise_singleton _ _
  | x :: r, p, h => by
    have h : (!ltCps x.cps.toList p.cps.toList && risingS x r) = true := h
    rw [Bool.and_eq_true, Bool.not_eq_true', ltCps_eq, decide_eq_false_iff_not] at h
    have h1 := rising_pw r x h.2
    have h0 : p.cps.toList ≤ x.cps.toList := List.not_lt.mp h.1
    refine List.pairwise_cons.mpr ⟨?_, h1⟩
    intro y hy
    rcases List.mem_cons.mp hy with rfl | hy
    · exact h0
    · exact List.le_trans h0 ((List.pairwise_cons.mp h1).1 y hy)
theorem sorted_pw : ∀ (l : List Str), sortedS l = true → l.Pairwise (fun a b => a.cps.toList ≤ b.cps.toList)
  | [], _ => .nil
  | x :: r, h => rising_pw r x h
theorem same_sorted {ts rr : List (List Nat)} {ss : List Str} (h1 : ts.Perm rr) (h2 : ts.Pairwise (· ≤ ·)) (h3 : ss.Perm (rr.map S)) (h4 : sortedS ss = true) : ss = ts.map S := by
  have e : ss = (ss.map fun x => x.cps.toList).map S := by
    rw [List.map_map]
    conv => lhs; rw [← List.map_id ss]
    apply List.map_congr_left
    intro x _
    show x = S x.cps.toList
    simp [S]
  have p1 : (ss.map fun x => x.cps.toList).Perm rr := by
    have := h3.map fun x => x.cps.toList
    rw [List.map_map] at this
    have e2 : List.map ((fun x : Str => x.cps.toList) ∘ S) rr = rr := by
      conv => rhs; rw [← List.map_id rr]
      apply List.map_congr_left
      intro x _
      simp
    rw [e2] at this
    exact this
  have p2 : (ss.map fun x => x.cps.toList).Pairwise (· ≤ ·) := by
    rw [List.pairwise_map]
    exact sorted_pw ss h4
  rw [e, perm_sorted_eq (p1.trans h1.symm) p2 h2]
theorem stU_min (tx : List Nat) (p : Nat) : stU tx p (min 3 (tx.length - p)) = stU tx p 3 := by
  have hz : ∀ w, tx.length < p + w → st1 tx p w = [] := by
    intro w hw
    unfold st1
    rw [if_neg (by omega)]
  by_cases h0 : tx.length - p = 0
  · rw [h0, show min 3 0 = 0 by decide]
    show [] = _
    rw [stU_succ, stU_succ, stU_succ, hz _ (by omega), hz _ (by omega), hz _ (by omega)]
    rfl
  by_cases h1 : tx.length - p = 1
  · rw [h1, show min 3 1 = 1 by decide, stU_succ tx p 2, stU_succ tx p 1, hz (2 + 1) (by omega), hz (1 + 1) (by omega), List.append_nil, List.append_nil]
  by_cases h2 : tx.length - p = 2
  · rw [h2, show min 3 2 = 2 by decide, stU_succ tx p 2, hz (2 + 1) (by omega), List.append_nil]
  rw [show min 3 (tx.length - p) = 3 by omega]
theorem strs_append : ∀ {a b : List Value} {x y : List Str}, StrsAre a x → StrsAre b y → StrsAre (a ++ b) (x ++ y)
  | _, _, _, _, .nil, h => h
  | _, _, _, _, .cons v t h1, h => .cons v t (strs_append h1 h)
theorem flat_len {α β : Type} {B : Nat} : ∀ (l : List α) (f : α → List β), (∀ a ∈ l, (f a).length ≤ B) → (l.flatMap f).length ≤ l.length * B
  | [], _, _ => by simp
  | a :: r, f, h => by
    have h1 := flat_len r f fun b hb => h b (.tail _ hb)
    have h2 := h a (.head _)
    rw [List.flatMap_cons, List.length_append, List.length_cons, Nat.succ_mul]
    omega
theorem here_len {tx : List Nat} {vh : List Value} {p j : Nat} (htl : tx.length ≤ 6) (hj : j ≤ 3) (h : StrsAre vh (((stU tx p j).flatMap fun q => (RR tx q.2).map (q.1 :: ·)).map S)) : vh.length ≤ 72 := by
  have h1 := strs_len h
  rw [List.length_map] at h1
  have h2 := flat_len (B := 24) (stU tx p j) (fun q => (RR tx q.2).map (q.1 :: ·)) (by
    intro q hq
    rw [List.length_map]
    exact RR_len_all tx htl _ (stU_mem hq).2.2.2)
  have h3 := stU_length tx p j
  omega
theorem here_none {tx : List Nat} {vh : List Value} {p j : Nat} (hmn : mn (pieceOf tx p (j + 1)) = none) (h : StrsAre vh (((stU tx p j).flatMap fun q => (RR tx q.2).map (q.1 :: ·)).map S)) :
    StrsAre (vh ++ []) (((stU tx p (j + 1)).flatMap fun q => (RR tx q.2).map (q.1 :: ·)).map S) := by
  have e : st1 tx p (j + 1) = [] := by
    unfold st1
    rw [hmn]
    split <;> rfl
  rw [stU_succ, e, List.append_nil, List.append_nil]
  exact h
theorem here_some {tx : List Nat} {vh ys : List Value} {p j d n : Nat} (hpj : p + j < tx.length) (hmn : mn (pieceOf tx p (j + 1)) = some d) (h : StrsAre vh (((stU tx p j).flatMap fun q => (RR tx q.2).map (q.1 :: ·)).map S))
    (hn : n = (RR tx (p + (j + 1))).length) (hy : StrsAre ys (((RR tx (p + (j + 1))).take n).map fun r => S (d :: r))) :
    StrsAre (vh ++ ys) (((stU tx p (j + 1)).flatMap fun q => (RR tx q.2).map (q.1 :: ·)).map S) := by
  have e : st1 tx p (j + 1) = [(d, p + (j + 1))] := by
    unfold st1
    rw [if_pos (by omega), hmn]
  rw [hn, List.take_length] at hy
  rw [stU_succ, e, List.flatMap_append, List.map_append]
  refine strs_append h ?_
  rw [List.flatMap_cons, List.flatMap_nil, List.append_nil, List.map_map]
  exact hy
theorem RR_here {tx : List Nat} {vh : List Value} {p n : Nat} (hp : p < tx.length) (hn : n = min 3 (tx.length - p)) (h : StrsAre vh (((stU tx p n).flatMap fun q => (RR tx q.2).map (q.1 :: ·)).map S)) : StrsAre vh ((RR tx p).map S) := by
  rw [hn, stU_min] at h
  rw [RR_eq, if_neg (by omega)]
  exact h
theorem same4 {z x y u : Str} {α : Type} {v a b c d : α} (hz : [x, y].contains z = false) : (if z = u then v else if z = y then a else if z = x then b else if [x, y].contains z = true then c else if z = u then v else d) = (if z = u then v else d) := by
  by_cases h : z = u
  · rw [if_pos h, if_pos h]
  · have hn : z ≠ x ∧ z ≠ y := by simpa [List.contains_cons] using hz
    rw [if_neg h, if_neg hn.2, if_neg hn.1, if_neg (by rw [hz]; exact Bool.false_ne_true)]
theorem same5 {z p h w e r : Str} {α : Type} {v a b c d f k : α} (hz : [p, h, w, e, r].contains z = false) : (if z = r then v else if [w, e].contains z = true then a else if z = h then b else if z = p then c else if z = r then d else if [p, h, w, e, r].contains z = true then f else k) = k := by
  have hn : z ≠ p ∧ z ≠ h ∧ z ≠ w ∧ z ≠ e ∧ z ≠ r := by simpa [List.contains_cons, and_assoc] using hz
  have hw : [w, e].contains z = false := by simp [List.contains_cons, hn.2.2.1, hn.2.2.2.1]
  rw [if_neg hn.2.2.2.2, if_neg (by rw [hw]; exact Bool.false_ne_true), if_neg hn.2.1, if_neg hn.1, if_neg hn.2.2.2.2, if_neg (by rw [hz]; exact Bool.false_ne_true)]
theorem ints_get : ∀ {l : List Int} {vs : List Value}, IntsAre vs l → ∀ {j : Nat} {v : Value}, vs[j]? = some v → ∃ k t, v = .int k t
  | [], _, .nil, _, _, hv => nomatch hv
  | c :: l, _, .cons _ t h, 0, v, hv => ⟨c, t, (Option.some.inj hv).symm⟩
  | c :: l, _, .cons _ t h, j + 1, v, hv => ints_get (l := l) h (j := j) hv
theorem S_one (c : Nat) : (S [c]).length = 1 := rfl
theorem ones_len (sg : List Nat) : ∀ y ∈ sg.map (fun c => S [c]), y.length ≤ 3 := by
  intro y hy
  obtain ⟨c, _, rfl⟩ := List.mem_map.mp hy
  rw [S_len]; simp
theorem ucs3_len {sg : List Nat} (h : ∀ c ∈ sg, c < 256) : ∀ y ∈ sg.map (fun c => S (uc c)), y.length ≤ 3 := by
  intro y hy
  obtain ⟨c, hc, rfl⟩ := List.mem_map.mp hy
  rw [S_len]; exact (uc_len c (h c hc)).2
theorem signs_two {ys : List Value} {sg : List Nat} {t u : Tok} (h : StrsAre ys (sg.map fun c => S [c])) : StrsAre (ys ++ [.str (Str.ofString "!") t, .str (Str.ofString "\x01") u]) ((sg ++ [33, 1]).map fun c => S [c]) := by
  rw [List.map_append]
  refine strs_append h ?_
  rw [lit_ex, lit_01]
  exact .cons _ _ (.cons _ _ .nil)
theorem signs_lt {sg : List Nat} (h : ∀ c ∈ sg, c < 256) : ∀ c ∈ sg ++ [33, 1], c < 256 := by
  intro c hc
  rcases List.mem_append.mp hc with hc | hc
  · exact h c hc
  · rcases List.mem_cons.mp hc with rfl | hc
    · decide
    · rw [List.mem_singleton.mp hc]; decide
theorem own_told {sg : List Nat} {ts : List (List Nat)} (h : ∀ c ∈ sg, c < 256) (hl : (sg.flatMap uc).length ≤ 6) (hp : ts.Perm (RR ((sg.flatMap uc).take 6) 0)) : S sg ∈ ts.map S := by
  rw [List.take_of_length_le hl] at hp
  exact List.mem_map.mpr ⟨sg, hp.symm.subset (own_row0 sg h), rfl⟩
theorem told_ok {tx : List Nat} {ts : List (List Nat)} (hp : ts.Perm (RR tx 0)) : ∀ x ∈ ts.map S, PyData.strOk x = true := by
  intro x hx
  obtain ⟨r, hr, rfl⟩ := List.mem_map.mp hx
  exact strOk_S (RR_lt (hp.subset hr))
theorem off1_mem {D : Addr} : ∀ {l : List (Addr × Obj)}, LCg.Off1 D l → ∀ p ∈ l, p.1 ≠ D
  | [], _, p, hp => nomatch hp
  | q :: r, h, p, hp => by
    rcases List.mem_cons.mp hp with rfl | hp
    · exact h.1
    · exact off1_mem h.2 p hp
end Mine

-- part C8
namespace Mine
theorem fresh_C8 : True := by
  w_top off
  trivial
section
variable {w : World} {mean : ExcName → Option Value} {mg mb : Str → Option Value} {dp un : Nat} {gd : Option (List Code)} {cn : Str} {cs : Scope} {a : Addr} {ccd : Value} {cl : List (Str × Addr)} {outer : List Env} {A₀ : Around} {base h₀ : Heap} {L : Addr} {m : Str → Option Value} {news : List (Addr × Obj)} {s : Shared} {Q E : Value → Shared → Prop}

local macro_rules | `(tactic| walk_at "stop") => `(tactic| first | (with_reducible show wpAny _ _ (exec (Stmt.While _ _ _ _) _) _ _ _) | (with_reducible show wpAny _ _ (exec (Stmt.For _ _ _ _ _) _) _ _ _))
local macro_rules | `(tactic| walk_at "go") => `(tactic| repeat' (first | (k_unfold; (try dsimp only)) | ((fail_if_success (walk_at "stop")); (first | walk1 | (dsimp only; walk1)))))
local macro_rules | `(tactic| walk_at "stop") => `(tactic| (with_reducible show wpAny _ _ (eval (Expr.ListComp _ _ _ _) _) _ _ _))
local macro_rules | `(tactic| walk_at "stop") => `(tactic| (with_reducible show wpAny _ _ (inplaceOp _ (Value.ref _) (Value.ref _)) _ _ _))
local macro_rules | `(tactic| walk_at "stop") => `(tactic| (with_reducible show wpAny _ _ (binaryOp Operator.Add (Value.ref _) (Value.ref _)) _ _ _))
local macro_rules | `(tactic| walk_at "stop") => `(tactic| (with_reducible show wpAny _ _ (subscriptTail _ _ (Value.ref _) _) _ _ _))
local macro_rules | `(tactic| walk_at "stop") => `(tactic| (with_reducible show LCt.CompSrcT _ _ _ _ _ _ _ _ _ _ _ _ _ _ _))
local macro_rules | `(tactic| walk_at "stop") => `(tactic| (with_reducible show wpAny _ _ (call (Value.ref _) _) _ _ _))
/-- the lists of rows, from a place on -/
def RowsAt (tx : List Nat) (p : Nat) (rs : List (Addr × List Value × Nat)) (blk : List (Addr × Obj)) : Prop :=
  ∀ k z, rs[k]? = some z → (z.1, listOf z.2.1.toArray z.2.2) ∈ blk ∧ StrsAre z.2.1 ((RR tx (p + k)).map S)
def ROuter (tx : List Nat) (L' : Addr) (news : List (Addr × Obj)) (mC : Str → Option Value) (i : Nat) (m : Str → Option Value) (nw : List (Addr × Obj)) : Prop :=
  ∃ lr rs n oS v₀ blk, (∀ z, [Str.ofString "place", Str.ofString "here", Str.ofString "width", Str.ofString "end", Str.ofString "rows"].contains z = false → m z = mC z) ∧ m (Str.ofString "rows") = some (.ref lr) ∧
    nw = (L' + 1, oS) :: (lr, listOf (rs.map fun z => Value.ref z.1).toArray n) :: (blk ++ news) ∧ oS.data = .cell v₀ ∧ rs.length = i + 1 ∧ RowsAt tx (tx.length - i) rs blk ∧
    lr ≠ L' + 1 ∧ (∀ q ∈ news, q.1 ≠ lr) ∧ (∀ p ∈ blk, p.1 ≠ L' + 1 ∧ ∀ q ∈ news, q.1 ≠ p.1)
def RInner (tx : List Nat) (p : Nat) (L' lh : Addr) (rest2 : List (Addr × Obj)) (mC : Str → Option Value) (j : Nat) (m : Str → Option Value) (nw : List (Addr × Obj)) : Prop :=
  ∃ vh nh oS v₀, (∀ z, [Str.ofString "width", Str.ofString "end"].contains z = false → m z = mC z) ∧ nw = (lh, listOf vh.toArray nh) :: (L' + 1, oS) :: rest2 ∧ oS.data = .cell v₀ ∧
    StrsAre vh (((stU tx p j).flatMap fun q => (RR tx q.2).map (q.1 :: ·)).map S)
theorem fr_rows {h₀ h : Heap} {L : Addr} {m₀ m₁ : Str → Option Value} (stored : List Str) {y : Str} {v : Value} (F : Fr h₀ L h m₁) (hy : m₁ y = some v) (hm : ∀ z, stored.contains z = false → m₁ z = m₀ z) : Fr h₀ L h (fun z => if z = y then some v else if stored.contains z then m₁ z else m₀ z) := by
  have e : (fun z => if z = y then some v else if stored.contains z then m₁ z else m₀ z) = m₁ := by
    funext z
    by_cases h : z = y
    · subst h; rw [if_pos rfl, hy]
    · rw [if_neg h]
      cases hz : stored.contains z with
      | true => simp
      | false => simp only [Bool.false_eq_true, if_false]; exact (hm z hz).symm
  rw [e]; exact F
theorem c_rows
  (B : Below A₀ base outer h₀) (F : Fr h₀ L s.heap m) (X : (Mine.hd.heap_39 w.params).In h₀) (T : Top Mine.hd.view_39 (looseW Mine.hd.view_39 []) mean mg mb h₀) (hk : cs.kind = .function)
  {tx : List Nat} {t : Tok}
  (N : News h₀ L s.heap news)
  (htx : ∀ c ∈ tx, c < 256) (htl : tx.length ≤ 6)
  (hdp : dp + 6 < recursionLimit) (hun : un + 100 < cLine)
  (ret : ∀ lr vs n h' tk', StrsAre vs ((RR tx 0).map S) → Fr h₀ L h' m → News h₀ L h' ((lr, listOf vs.toArray n) :: news) → (∀ q ∈ news, q.1 ≠ lr) → Q (.ref lr) { s with heap := h', toks := tk' }) :
  wpAny (model Challenge.rw_mq0126_01.row.prog w) (ktrTop dp un gd cn cs L a ccd cl outer) (call (.ref 108) [.str (S tx) t]) Q E s := by
  refine enterC (binds := [(Str.ofString "text", .str (S tx) t)]) B F X N T rfl rfl hk (by k_is) (by k_is) (by ktr_room) (BindsTo.of_eq rfl) rfl (by decide +kernel) ?_ rfl rfl rfl
  intro g L' h₁ tk1 cells FG F' N' Y B' X' T' lL
  obtain ⟨o1, rfl, d1⟩ := CellsAre.one Y
  simp only [List.cons_append, List.nil_append] at N'
  walk_at "go"
  rename_i le h2 l1a lr0 h3 l1b h4 F2 N2
  refine wpAny_For ?_
  walk_at "go"
  refine len_str (by rw [S_len]; omega) ?_
  rw [S_len]
  walk_at "go"
  rename IsRange _ _ _ _ _ _ _ _ => hR
  rename Fr g L' _ _ => F3
  rename News g L' _ _ => N3
  refine for_range (n := tx.length) rfl (ROuter tx L' news) hR ?_ ?_ F3 (news_of N3 (l' := (L' + 1, o1) :: (lr0, listOf ([(le, [Value.str (Str.ofString "") tk1], 0)].map fun z => Value.ref z.1).toArray 0) :: ([(le, listOf #[Value.str (Str.ofString "") tk1] 0)] ++ news)) ?_) ?_ ?_ ?_
  · simp [Builtin.Range.small, Builtin.Range.rangeFitsLong, Builtin.Range.rangeSize]
    omega
  · simp [Builtin.Range.rangeSize]
    omega
  · intro p hp
    rcases List.mem_cons.mp hp with rfl | hp
    · exact .tail _ (.tail _ (.head _))
    rcases List.mem_cons.mp hp with rfl | hp
    · exact .head _
    rcases List.mem_cons.mp hp with rfl | hp
    · exact .tail _ (.head _)
    · exact .tail _ (.tail _ (.tail _ hp))
  · refine ⟨lr0, [(le, [Value.str (Str.ofString "") tk1], 0)], 0, o1, _, [(le, listOf #[Value.str (Str.ofString "") tk1] 0)], fun _ _ => rfl, rfl, rfl, d1, rfl, ?_, Nat.ne_of_gt l1b.2.1, fun q hq => Nat.ne_of_lt (allLt_mem l1b.2.2 q hq), ?_⟩
    · intro k z hz
      match k, hz with
      | 0, hz =>
        have hz' : z = (le, [Value.str (Str.ofString "") tk1], 0) := (Option.some.inj hz).symm
        subst hz'
        refine ⟨.head _, ?_⟩
        rw [show tx.length - 0 + 0 = tx.length by omega, RR_eq, if_pos rfl, stU_end (Nat.le_refl _), lit_e]
        exact .cons _ _ .nil
    · intro p hp
      rw [List.mem_singleton.mp hp]
      exact ⟨Nat.ne_of_gt l1a.1, fun q hq => Nat.ne_of_lt (allLt_mem l1a.2 q hq)⟩
  · rintro i tv m₁ nw I oI h5 tk5 hi ⟨lr, rs, n, oS, v₀, blk, hm, hmr, rfl, hoS, hrl, hRA, hlrS, hlrN, hblk⟩ off F4 N4
    obtain ⟨p, hp⟩ : ∃ p : Nat, p + 1 + i = tx.length := ⟨tx.length - 1 - i, by omega⟩
    rw [show ((tx.length : Int) - 1 + (i : Int) * -1) = (p : Int) by omega]
    refine wpAny_of_eq rfl ?_
    dsimp only
    have F5 := fr_rows _ F4 hmr hm
    walk_at "go"
    rename_i lh h6 l1c h7 F6 N6
    refine wpAny_For ?_
    walk_at "go"
    refine len_str (by rw [S_len]; omega) ?_
    rw [S_len]
    walk_at "go"
    rename IsRange _ _ _ _ _ _ _ _ => hR2
    rename Fr g L' _ _ => F7
    rename News g L' _ _ => N7
    obtain ⟨n2, hn2⟩ : ∃ n2 : Nat, n2 = min 3 (tx.length - p) := ⟨_, rfl⟩
    have hbd : ((if ((tx.length : Int) - p) < 3 then ((tx.length : Int) - p) else 3) + 1) = (n2 : Int) + 1 := by
      split <;> omega
    rw [hbd] at hR2
    obtain ⟨rest2, hrest2⟩ : ∃ rest2, rest2 = (I, oI) :: (lr, listOf (rs.map fun z => Value.ref z.1).toArray n) :: (blk ++ news) := ⟨_, rfl⟩
    have hr2 : ∀ q ∈ rest2, q.1 ≠ lh ∧ q.1 ≠ L' + 1 := by
      intro q hq
      rw [hrest2] at hq
      rcases List.mem_cons.mp hq with rfl | hq
      · exact ⟨Nat.ne_of_lt l1c.1, Ne.symm (off (L' + 1, oS) (.head _))⟩
      rcases List.mem_cons.mp hq with rfl | hq
      · exact ⟨Nat.ne_of_lt l1c.2.2.1, hlrS⟩
      · refine ⟨Nat.ne_of_lt (allLt_mem l1c.2.2.2 q hq), ?_⟩
        rcases List.mem_append.mp hq with hq | hq
        · exact (hblk q hq).1
        · exact Nat.ne_of_lt (Nat.lt_succ_of_lt (lL q hq))
    have hlhS : lh ≠ L' + 1 := Nat.ne_of_gt l1c.2.1
    refine for_range (n := n2) rfl (RInner tx p L' lh rest2) hR2 ?_ ?_ F7 (news_of N7 (l' := (lh, listOf ([] : List Value).toArray 0) :: (L' + 1, oS) :: rest2) ?_) ?_ ?_ ?_
    · simp [Builtin.Range.small, Builtin.Range.rangeFitsLong, Builtin.Range.rangeSize]
      omega
    · simp [Builtin.Range.rangeSize]
      omega
    · intro q hq
      rcases List.mem_cons.mp hq with rfl | hq
      · exact .head _
      rcases List.mem_cons.mp hq with rfl | hq
      · exact .tail _ (.tail _ (.head _))
      · rw [hrest2] at hq
        rcases List.mem_cons.mp hq with rfl | hq
        · exact .tail _ (.head _)
        · exact .tail _ (.tail _ (.tail _ hq))
    · exact ⟨[], 0, oS, v₀, fun _ _ => rfl, rfl, hoS, .nil⟩
    · rintro j tj m₂ nw I2 oI2 h8 tk8 hj ⟨vh, nh, oS2, v₂, hm2, rfl, hoS2, hvh⟩ off2 F8 N8
      rw [show ((1 : Int) + (j : Int) * 1) = ((j + 1 : Nat) : Int) by omega]
      refine wpAny_of_eq rfl ?_
      dsimp only
      have F9 := fr_canon _ F8 hm2
      (try clear F7 N7)
      (try clear F6 N6)
      have hpj : p + j < tx.length := by omega
      obtain ⟨c, hcx⟩ : ∃ c, tx[p + j]? = some c := ⟨tx[p + j], List.getElem?_eq_getElem hpj⟩
      have hc : c < 256 := htx c (List.mem_of_getElem? hcx)
      have hsli : Txt.slice (S tx) (some (p : Int)) (some ((p : Int) + ((j + 1 : Nat) : Int) - 1)) = S ((tx.drop p).take j) := by
        have := slice_S tx p (p + j) (by omega)
        rw [show p + j - p = j by omega] at this
        rw [show ((p : Int) + ((j + 1 : Nat) : Int) - 1) = ((p + j : Nat) : Int) by omega]
        exact this
      have hite : Txt.item (S tx) ((p : Int) + ((j + 1 : Nat) : Int) - 1) = S [c] := by
        rw [show ((p : Int) + ((j + 1 : Nat) : Int) - 1) = ((p + j : Nat) : Int) by omega]
        exact item_S hcx
      walk_at "go"
      refine KXi.item (n := tx.length) (S_len tx) (by omega) (by omega) (by omega) ?_
      intro _
      dsimp only
      rw [hite]
      walk_at "go"
      rw [hsli]
      rename Fr g L' _ _ => F10
      rename News g L' _ _ => N10
      refine c_meaning B' F10 X' N10 T' rfl hc (by simp; omega) (by ktr_room) (by ktr_units) ?_
      intro t11 h11 tk11 F11 N11
      rw [← mn_split hcx]
      walk_at "go"
      refine storeX_C F11 (news_of N11 (l' := (L' + 1, oS2) :: (I2, oI2) :: (lh, listOf vh.toArray nh) :: rest2) ?_) rfl (UpdF.head ?_) hoS2 ?_
      · intro q hq
        rcases List.mem_cons.mp hq with rfl | hq
        · exact .tail _ (.tail _ (.head _))
        rcases List.mem_cons.mp hq with rfl | hq
        · exact .head _
        rcases List.mem_cons.mp hq with rfl | hq
        · exact .tail _ (.head _)
        · exact .tail _ (.tail _ (.tail _ hq))
      · intro q hq
        rcases List.mem_cons.mp hq with rfl | hq
        · exact Ne.symm (off2 (L' + 1, oS2) (.tail _ (.head _)))
        rcases List.mem_cons.mp hq with rfl | hq
        · exact hlhS
        · exact (hr2 q hq).2
      intro h12 oS3 F12 N12 hoS3
      clear F10 N10 F11 N11
      walk_at "go"
      refine LCt.ListComp_T (F₀ := F12) (by with_unfolding_all rfl) (by decide) (by rfl) (by decide) (by rfl) ?_
      walk_at "go"
      obtain ⟨z, hz⟩ : ∃ z, rs[j]? = some z := ⟨rs[j]'(by omega), List.getElem?_eq_getElem _⟩
      obtain ⟨hzb, hzs⟩ := hRA j z hz
      rw [show tx.length - i + j = p + (j + 1) by omega] at hzs
      have hzv : (rs.map fun z => Value.ref z.1)[j]? = some (.ref z.1) := by rw [List.getElem?_map, hz]; rfl
      have hzl : (rs.map fun z => Value.ref z.1).length < 2 ^ 62 := by rw [List.length_map, hrl]; omega
      have hlr2 : (lr, listOf (rs.map fun z => Value.ref z.1).toArray n) ∈ rest2 := by rw [hrest2]; exact .tail _ (.head _)
      have hz2 : (z.1, listOf z.2.1.toArray z.2.2) ∈ rest2 := by rw [hrest2]; exact .tail _ (.tail _ (List.mem_append_left _ hzb))
      refine gv (k := j) N12 (.tail _ (.tail _ (.tail _ hlr2))) (by omega) hzv hzl ?_
      have hzlen : z.2.1.length ≤ 24 := by
        have := strs_len hzs
        rw [List.length_map] at this
        rw [this]
        exact RR_len_all tx htl _ (by omega)
      refine LCt.CompSrcT.ledger rfl F12 N12 (.tail _ (.tail _ (.tail _ hz2))) (by rw [List.size_toArray, sizeLine_eq]; omega) ?_
      intro g3
      have hsrc : LCg.SrcAt g z.1 z.2.1.toArray ((L' + 1, oS3) :: (I2, oI2) :: (lh, listOf vh.toArray nh) :: rest2) := .inr ⟨_, .tail _ (.tail _ (.tail _ hz2)), rfl, _, rfl⟩
      cases hmn : mn (pieceOf tx p (j + 1)) with
      | none =>
        rw [hmn] at hoS3
        refine comp_restT (fun i ys nw => ys = [] ∧ nw = (L' + 1, oS3) :: (I2, oI2) :: (lh, listOf vh.toArray nh) :: rest2) ⟨rfl, rfl⟩ ?_ ?_
        · rintro k v ys nw I3 oI3 C oC D m₃ h13 tk13 E' hk13 ⟨rfl, rfl⟩ hv13 hoC hmx F13 N13 off13 ne13
          walk_at "go"
          exact LCg.CompEnd.intro F13 N13 _ (fun p hp => hp) off13 hsrc ⟨rfl, rfl⟩
        · rintro ys nw ⟨rfl, rfl⟩
          intro D h14 tk14 F14 N14 off14
          dsimp only
          walk_at "go"
          have hoffD := off1_mem off14
          refine iadd_K (l := lh) (vs := vh) (n := nh) (b := D) (ws := []) (k := 0) F14 (news_of N14 (l' := (lh, listOf vh.toArray nh) :: (D, LCg.lst []) :: (L' + 1, oS3) :: (I2, oI2) :: rest2) ?_) ?_ (.head _) ?_ ?_
          · intro q hq
            rcases List.mem_cons.mp hq with rfl | hq
            · exact .tail _ (.tail _ (.tail _ (.head _)))
            rcases List.mem_cons.mp hq with rfl | hq
            · exact .head _
            rcases List.mem_cons.mp hq with rfl | hq
            · exact .tail _ (.head _)
            rcases List.mem_cons.mp hq with rfl | hq
            · exact .tail _ (.tail _ (.head _))
            · exact .tail _ (.tail _ (.tail _ (.tail _ hq)))
          · intro q hq
            rcases List.mem_cons.mp hq with rfl | hq
            · exact Ne.symm (hoffD (lh, listOf vh.toArray nh) (.tail _ (.tail _ (.head _))))
            rcases List.mem_cons.mp hq with rfl | hq
            · exact Ne.symm hlhS
            rcases List.mem_cons.mp hq with rfl | hq
            · exact Ne.symm (off2 (lh, listOf vh.toArray nh) (.head _))
            · exact (hr2 q hq).1
          · intro n15 h15 F15 N15
            clear F14 N14 F12 N12
            walk_at "go"
            rename News g L' _ _ => N16
            rename Fr g L' _ _ => F16
            refine for_end F16 N16 (I := I2) (oI := oI2) (.tail _ (.tail _ (.tail _ (.head _)))) (nw' := (lh, listOf (vh ++ []).toArray n15) :: (L' + 1, oS3) :: rest2) ?_ ?_ ⟨vh ++ [], n15, oS3, _, ?_, rfl, hoS3, here_none hmn hvh⟩
            · intro q hq
              rcases List.mem_cons.mp hq with rfl | hq
              · exact .head _
              rcases List.mem_cons.mp hq with rfl | hq
              · exact .tail _ (.tail _ (.head _))
              · exact .tail _ (.tail _ (.tail _ (.tail _ hq)))
            · intro q hq
              rcases List.mem_cons.mp hq with rfl | hq
              · exact off2 (lh, listOf vh.toArray nh) (.head _)
              rcases List.mem_cons.mp hq with rfl | hq
              · exact off2 (L' + 1, oS2) (.tail _ (.head _))
              · exact off2 q (.tail _ (.tail _ hq))
            · intro y hy
              exact same4 hy
          · have := here_len htl (by omega) hvh; simp; omega
      | some d =>
        have hoS3' : oS3.data = .cell (some (.str (S [d]) t11)) := by rw [hmn] at hoS3; exact hoS3
        clear hoS3
        refine comp_restT (fun i ys nw => StrsAre ys (((RR tx (p + (j + 1))).take i).map fun r => S (d :: r)) ∧ nw = (L' + 1, oS3) :: (I2, oI2) :: (lh, listOf vh.toArray nh) :: rest2) ⟨.nil, rfl⟩ ?_ ?_
        · rintro k v ys nw I3 oI3 C oC D m₃ h13 tk13 E' hk13 ⟨hys, rfl⟩ hv13 hoC hmx F13 N13 off13 ne13
          obtain ⟨r, tr, hrk, rfl⟩ := strs_getS hzs (j := k) (by simpa using hv13)
          have hrlen : (S r).length ≤ 6 := by
            rw [S_len]
            have := RR_row (List.mem_of_getElem? hrk)
            omega
          walk_at "go"
          · refine LCg.CompEnd.intro (by assumption) (by assumption) _ (fun p hp => hp) off13 hsrc ⟨?_, rfl⟩
            rw [List.take_add_one, hrk, List.map_append, S_append]
            exact strs_snoc hys
          · rename (_ != _) = false => hbad
            rw [ne_e] at hbad
            cases hbad
        · rintro ys nw ⟨hys, rfl⟩
          intro D h14 tk14 F14 N14 off14
          dsimp only
          walk_at "go"
          have hoffD := off1_mem off14
          refine iadd_K (l := lh) (vs := vh) (n := nh) (b := D) (ws := ys) (k := ys.length) F14 (news_of N14 (l' := (lh, listOf vh.toArray nh) :: (D, LCg.lst ys) :: (L' + 1, oS3) :: (I2, oI2) :: rest2) ?_) ?_ (.head _) ?_ ?_
          · intro q hq
            rcases List.mem_cons.mp hq with rfl | hq
            · exact .tail _ (.tail _ (.tail _ (.head _)))
            rcases List.mem_cons.mp hq with rfl | hq
            · exact .head _
            rcases List.mem_cons.mp hq with rfl | hq
            · exact .tail _ (.head _)
            rcases List.mem_cons.mp hq with rfl | hq
            · exact .tail _ (.tail _ (.head _))
            · exact .tail _ (.tail _ (.tail _ (.tail _ hq)))
          · intro q hq
            rcases List.mem_cons.mp hq with rfl | hq
            · exact Ne.symm (hoffD (lh, listOf vh.toArray nh) (.tail _ (.tail _ (.head _))))
            rcases List.mem_cons.mp hq with rfl | hq
            · exact Ne.symm hlhS
            rcases List.mem_cons.mp hq with rfl | hq
            · exact Ne.symm (off2 (lh, listOf vh.toArray nh) (.head _))
            · exact (hr2 q hq).1
          · intro n15 h15 F15 N15
            clear F14 N14 F12 N12
            walk_at "go"
            rename News g L' _ _ => N16
            rename Fr g L' _ _ => F16
            refine for_end F16 N16 (I := I2) (oI := oI2) (.tail _ (.tail _ (.tail _ (.head _)))) (nw' := (lh, listOf (vh ++ ys).toArray n15) :: (L' + 1, oS3) :: rest2) ?_ ?_ ⟨vh ++ ys, n15, oS3, _, ?_, rfl, hoS3', here_some hpj hmn hvh (by have := strs_len hzs; rw [List.length_map] at this; simpa using this) hys⟩
            · intro q hq
              rcases List.mem_cons.mp hq with rfl | hq
              · exact .head _
              rcases List.mem_cons.mp hq with rfl | hq
              · exact .tail _ (.tail _ (.head _))
              · exact .tail _ (.tail _ (.tail _ (.tail _ hq)))
            · intro q hq
              rcases List.mem_cons.mp hq with rfl | hq
              · exact off2 (lh, listOf vh.toArray nh) (.head _)
              rcases List.mem_cons.mp hq with rfl | hq
              · exact off2 (L' + 1, oS2) (.tail _ (.head _))
              · exact off2 q (.tail _ (.tail _ hq))
            · intro y hy
              exact same4 hy
          · have := here_len htl (by omega) hvh; have := strs_len hys; simp only [List.length_map, List.length_take] at this; have := RR_len_all tx htl (p + (j + 1)) (by omega); omega
    · rintro m₂ nw h8 tk8 ⟨vh, nh, oS2, v₂, hm2, rfl, hoS2, hvh⟩ F8 N8
      have F9 := fr_canon _ F8 hm2
      (try clear F7 N7)
      (try clear F6 N6)
      rw [hrest2] at N8
      walk_at "go"
      rename News g L' _ _ => N10
      rename Fr g L' _ _ => F10
      have hrl7 : rs.length ≤ 7 := by omega
      refine add_K (vs := [Value.ref lh]) (n := 0) (ws := rs.map fun z => Value.ref z.1) (k := n) F10 N10 (.head _) (.tail _ (.tail _ (.tail _ (.tail _ (.head _))))) ?_ (by rw [List.length_map, sizeLine_eq]; simp; omega)
      intro l2 h16 F16 N16 hlt16
      have hl2 : ∀ q ∈ (lh, listOf vh.toArray nh) :: (L' + 1, oS2) :: (I, oI) :: (lr, listOf (rs.map fun z => Value.ref z.1).toArray n) :: (blk ++ news), q.1 < l2 := fun q hq => hlt16 q (.tail _ hq)
      clear hlt16 F10 N10
      walk_at "go"
      rename News g L' _ _ => N17
      rename Fr g L' _ _ => F17
      refine for_end F17 N17 (I := I) (oI := oI) (.tail _ (.tail _ (.tail _ (.tail _ (.head _))))) (nw' := (L' + 1, oS2) :: (l2, listOf (((lh, vh, nh) :: rs).map fun z => Value.ref z.1).toArray 0) :: (((lh, listOf vh.toArray nh) :: blk) ++ news)) ?_ ?_ ⟨l2, (lh, vh, nh) :: rs, 0, oS2, v₂, (lh, listOf vh.toArray nh) :: blk, ?_, rfl, rfl, hoS2, by rw [List.length_cons, hrl], ?_, ?_, ?_, ?_⟩
      · intro q hq
        rcases List.mem_cons.mp hq with rfl | hq
        · exact .tail _ (.tail _ (.tail _ (.head _)))
        rcases List.mem_cons.mp hq with rfl | hq
        · exact .head _
        rcases List.mem_cons.mp hq with rfl | hq
        · exact .tail _ (.tail _ (.head _))
        · exact .tail _ (.tail _ (.tail _ (.tail _ (.tail _ (.tail _ hq)))))
      · intro q hq
        rcases List.mem_cons.mp hq with rfl | hq
        · exact off (L' + 1, oS) (.head _)
        rcases List.mem_cons.mp hq with rfl | hq
        · exact Nat.ne_of_gt (hl2 (I, oI) (.tail _ (.tail _ (.head _))))
        rcases List.mem_cons.mp hq with rfl | hq
        · exact Nat.ne_of_gt l1c.1
        · exact off q (.tail _ (.tail _ hq))
      · intro y hy
        exact same5 hy
      · intro k z hz
        match k, hz with
        | 0, hz =>
          have hz' : z = (lh, vh, nh) := (Option.some.inj hz).symm
          subst hz'
          refine ⟨.head _, ?_⟩
          rw [show tx.length - (i + 1) + 0 = p by omega]
          exact RR_here (by omega) hn2 hvh
        | k + 1, hz =>
          obtain ⟨hzb, hzs⟩ := hRA k z hz
          rw [show tx.length - i + k = tx.length - (i + 1) + (k + 1) by omega] at hzs
          exact ⟨.tail _ hzb, hzs⟩
      · exact Nat.ne_of_gt (hl2 (L' + 1, oS2) (.tail _ (.head _)))
      · intro q hq
        exact Nat.ne_of_lt (hl2 q (.tail _ (.tail _ (.tail _ (.tail _ (List.mem_append_right _ hq))))))
      · intro q hq
        rcases List.mem_cons.mp hq with rfl | hq
        · exact ⟨hlhS, fun q hq => (hr2 q (by rw [hrest2]; exact .tail _ (.tail _ (List.mem_append_right _ hq)))).1⟩
        · exact hblk q hq
  · rintro m₁ nw h5 tk5 ⟨lr, rs, n, oS, v₀, blk, hm, hmr, rfl, hoS, hrl, hRA, hlrS, hlrN, hblk⟩ F4 N4
    have F5 := fr_rows _ F4 hmr hm
    obtain ⟨z, hz⟩ : ∃ z, rs[0]? = some z := ⟨rs[0]'(by omega), List.getElem?_eq_getElem _⟩
    obtain ⟨hzb, hzs⟩ := hRA 0 z hz
    rw [show tx.length - tx.length + 0 = 0 by omega] at hzs
    have hzv : (rs.map fun z => Value.ref z.1)[0]? = some (.ref z.1) := by rw [List.getElem?_map, hz]; rfl
    have hzl : (rs.map fun z => Value.ref z.1).length < 2 ^ 62 := by rw [List.length_map, hrl]; omega
    walk_at "go"
    refine gv (k := 0) N4 (.tail _ (.head _)) rfl hzv hzl ?_
    walk_at "go"
    rename News h₀ L _ _ => kN
    rename Fr h₀ L _ _ => kF
    refine ret z.1 z.2.1 z.2.2 _ _ hzs kF (news_of kN ?_) (fun q hq => (hblk _ hzb).2 q hq)
    intro q hq
    rcases List.mem_cons.mp hq with rfl | hq
    · exact .tail _ (.tail _ (List.mem_append_left _ hzb))
    · exact .tail _ (.tail _ (List.mem_append_right _ hq))
end
end Mine

-- part B7
namespace Mine
theorem strs_reads {h : Heap} : ∀ {vs : List Value} {ss : List Str}, StrsAre vs ss → ReadsAll h vs (ss.map PyData.str) []
  | _, _, .nil => .nil
  | _, _, .cons x t r => ReadsAll.cons (as := []) (bs := []) (Reads.str _ _) (strs_reads r)
theorem strs_canLay : ∀ (ss : List Str), (∀ x ∈ ss, PyData.strOk x = true) → PyData.canLayAll0 (ss.map PyData.str) = true
  | [], _ => rfl
  | x :: r, h => by
    have h1 := strs_canLay r fun y hy => h y (.tail _ hy)
    simp only [List.map_cons, PyData.canLayAll0, PyData.canLay0, h x (.head _), Bool.true_and]
    exact h1
theorem strs_depth : ∀ (ss : List Str), PyData.depthAll (ss.map PyData.str) ≤ 0
  | [] => by simp [PyData.depthAll]
  | x :: r => by
    have := strs_depth r
    simp [PyData.depthAll, PyData.depth] at this ⊢
    omega
theorem strs_eqv_self : ∀ (ss : List Str), PyData.eqvAll (ss.map PyData.str) (ss.map PyData.str) = true
  | [] => by simp [PyData.eqvAll]
  | x :: r => by
    have := strs_eqv_self r
    simp [PyData.eqvAll, PyData.eqv, this]
section
variable {prog : Program} {w : World} {A : Around} {E : Value → Shared → Prop} {s : Shared} {h₀ : Heap} {L l l' : Addr} {m : Str → Option Value} {news : List (Addr × Obj)} {vs us : List Value} {ss : List Str} {n k : Nat} {Q : Value → Shared → Prop}
theorem not_in_strs {x : Str} {t : Tok} (N : News h₀ L s.heap news) (hm : (l, listOf vs.toArray n) ∈ news) (hs : StrsAre vs ss) (hu : A.units + 10 < cLine) (hok : ∀ x ∈ ss, PyData.strOk x = true) (hok' : PyData.strOk x = true) (hx : x ∈ ss)
    (h : Q (.bool false) s) : wpAny (model prog w) A (compareOp .NotIn (.str x t) (.ref l)) Q E s := by
  refine SeqAt.notIn_list_reads (reads_list_at (N.get hm) rfl rfl (by simpa using strs_reads hs)) (Reads.str _ _) (strs_canLay ss hok) (by simp [PyData.canLay0, hok']) ?_ ?_
  · have h1 : PyData.depth (.str x) ≤ 1 := by simp [PyData.depth]
    have h2 := Nat.min_le_right (PyData.depthAll (ss.map PyData.str)) (PyData.depth (.str x))
    omega
  · have e : ((ss.map PyData.str).any fun y => PyData.eqv y (.str x)) = true := List.any_eq_true.mpr ⟨.str x, List.mem_map.mpr ⟨x, hx, rfl⟩, by simp [PyData.eqv]⟩
    rw [e]; exact h
theorem eq_strs (N : News h₀ L s.heap news) (hm : (l, listOf vs.toArray n) ∈ news) (hm' : (l', listOf us.toArray k) ∈ news) (hs : StrsAre vs ss) (hs' : StrsAre us ss) (hu : A.units + 70 < cLine) (hok : ∀ x ∈ ss, PyData.strOk x = true)
    (h : Q (.bool true) s) : wpAny (model prog w) A (compareOp .Eq (.ref l) (.ref l')) Q E s := by
  have sh : SeqAt.shaped (.list (ss.map PyData.str)) = true := by
    have := strs_depth ss
    simp [SeqAt.shaped, PyData.canLay0, PyData.depth, strs_canLay ss hok]
    omega
  refine eq_dataH (reads_list_at (N.get hm) rfl rfl (by simpa using strs_reads hs)) (reads_list_at (N.get hm') rfl rfl (by simpa using strs_reads hs')) sh sh (by omega) ?_
  have e : PyData.eqv (.list (ss.map PyData.str)) (.list (ss.map PyData.str)) = true := by
    have := strs_eqv_self ss
    simp [PyData.eqv, this]
  rw [e]; exact h
theorem join_e {t : Tok} {ys : List Str} (N : News h₀ L s.heap news) (hm : (l, listOf vs.toArray n) ∈ news) (hs : StrsAre vs ys) (hlen : ys.length ≤ 8) (hone : ∀ y ∈ ys, y.length ≤ 3)
    (h : ∀ t' k, Q (.str (Txt.join (Str.ofString "") ys) t') { s with toks := k }) : wpAny (model prog w) A (call (.builtin "str.join") [.str (Str.ofString "") t, .ref l]) Q E s := by
  refine join_listC (ys := ys) (N.isList hm) (by simpa using hs) (by decide +kernel) ?_ h
  have := StrLaws.sumLen_le (B := 3) ys hone
  omega
theorem sorted_K (F : Fr h₀ L s.heap m) (N : News h₀ L s.heap news) (hm : (l, listOf vs.toArray n) ∈ news) (hs : StrsAre vs ss) (h64 : vs.length < 64)
    (h : ∀ l' (h' : Heap) (vs' : List Value) (ss' : List Str) (e : Nat), Fr h₀ L h' m → News h₀ L h' ((l', listOf vs'.toArray e) :: news) → StrsAre vs' ss' → ss'.Perm ss → sortedS ss' = true → Q (.ref l') { s with heap := h' }) :
    wpAny (model prog w) A (call (.builtin "sorted") [.ref l]) Q E s :=
  sorted_N_str F N (N.isList hm) hs h64 fun h' vs' ss' e F' N' a b c => h _ h' vs' ss' e F' N' a b c
end
end Mine

-- part C9
namespace Mine
theorem fresh_C9 : True := by
  w_top off
  trivial
section
variable {w : World} {mean : ExcName → Option Value} {mg mb : Str → Option Value} {dp un : Nat} {gd : Option (List Code)} {cn : Str} {cs : Scope} {a : Addr} {ccd : Value} {cl : List (Str × Addr)} {outer : List Env} {A₀ : Around} {base h₀ : Heap} {L : Addr} {m : Str → Option Value} {news : List (Addr × Obj)} {s : Shared} {Q E : Value → Shared → Prop}

local macro_rules | `(tactic| walk_at "stop") => `(tactic| first | (with_reducible show wpAny _ _ (exec (Stmt.While _ _ _ _) _) _ _ _) | (with_reducible show wpAny _ _ (exec (Stmt.For _ _ _ _ _) _) _ _ _))
local macro_rules | `(tactic| walk_at "go") => `(tactic| repeat' (first | (k_unfold; (try dsimp only)) | ((fail_if_success (walk_at "stop")); (first | walk1 | (dsimp only; walk1)))))
local macro_rules | `(tactic| walk_at "stop") => `(tactic| (with_reducible show wpAny _ _ (call (Value.ref _) _) _ _ _))
local macro_rules | `(tactic| walk_at "stop") => `(tactic| (with_reducible show wpAny _ _ (call (Value.builtin "str.join") _) _ _ _))
local macro_rules | `(tactic| walk_at "stop") => `(tactic| (with_reducible show wpAny _ _ (call (Value.builtin "len") [Value.str _ _]) _ _ _))
local macro_rules | `(tactic| walk_at "stop") => `(tactic| (with_reducible show wpAny _ _ (call (Value.builtin "sorted") _) _ _ _))
local macro_rules | `(tactic| walk_at "stop") => `(tactic| (with_reducible show wpAny _ _ (eval (Expr.ListComp _ _ _ _) _) _ _ _))
local macro_rules | `(tactic| walk_at "stop") => `(tactic| (with_reducible show wpAny _ _ (binaryOp Operator.Add (Value.ref _) (Value.ref _)) _ _ _))
local macro_rules | `(tactic| walk_at "stop") => `(tactic| (with_reducible show wpAny _ _ (compareOp _ _ (Value.ref _)) _ _ _))
local macro_rules | `(tactic| walk_at "stop") => `(tactic| (with_reducible show LCg.CompSrc _ _ _ _ _ _ _ _ _ _ _ _ _ _))
theorem law_holds : PySem.Challenge.rw_mq0126_01.Holds := Mine.hd (by
  w_strict (k_go0; (all_goals try k_fold))
  walk_at "go"
  rename World => w
  rename Top _ _ _ _ _ _ => T
  rename Below _ _ _ _ => K00
  rename Shared => s1
  have K0 : Below callerA s1.heap [] s1.heap := K00
  rename (Mine.hd.heap_39 _).In _ => KX
  rename Heap.IsList _ _ _ => hL
  rename IntsAre _ _ => hI
  rename ¬ _ < _ => hcond
  rename Fr _ _ _ _ => F0
  rename News _ _ _ _ => N0
  refine LCg.ListComp_U (F₀ := F0) (by with_unfolding_all rfl) (by decide) (by rfl) (by decide) (by rfl) ?_
  walk_at "go"
  rename News _ _ _ _ => N1
  rename Fr _ _ _ _ => F1
  rename IntsAre _ (List.take 6 _) => hI6
  rename (List.take 6 _).length = _ => hlen6
  rename List Value => ws
  rename Addr => D1
  have hw6 : ws.length ≤ 6 := by
    have := IntsAre.length hI6
    omega
  refine LCg.CompSrc.ledger rfl F1 N1 (.head _) (by rw [List.size_toArray, sizeLine_eq]; omega) ?_
  intro g1
  have hsrc : ∀ hh, LCg.SrcAt hh D1 ws.toArray [(D1, listOf ws.toArray 0)] := fun _ => .inr ⟨_, .head _, rfl, _, rfl⟩
  refine comp_rest (fun i ys nw => nw = [(D1, listOf ws.toArray 0)] ∧ ∃ sg : List Nat, sg.length = i ∧ (∀ c ∈ sg, c < 256) ∧ StrsAre ys (sg.map fun c => S [c])) ⟨rfl, [], rfl, (fun _ h => nomatch h), .nil⟩ ?_ ?_
  · rintro i v ys nw I oI C oC D m₂ h tk E' hi ⟨rfl, sg, hsl, hsg, hys⟩ hv hoC hmx F2 N2 off ne
    obtain ⟨k, tv, rfl⟩ := ints_get hI6 (j := i) (by simpa using hv)
    walk_at "go"
    refine c_sign K0 F2 KX N2 T rfl (by ktr_room) (by ktr_units) ?_
    intro c t9 h9 tk9 hc F9 N9
    refine LCg.CompEnd.intro F9 N9 _ (fun p hp => hp) off (hsrc _) ⟨rfl, sg ++ [c], by rw [List.length_append, hsl]; rfl, ?_, ?_⟩
    · intro d hd
      rcases List.mem_append.mp hd with hd | hd
      · exact hsg d hd
      · rw [List.mem_singleton.mp hd]; exact hc
    · rw [List.map_append]
      exact strs_snoc hys
  · rintro ys nw ⟨rfl, sg, hsl, hsg, hys⟩
    intro D2 h3 tk3 F3 N3 off3
    dsimp only
    walk_at "go"
    rename News _ _ _ _ => N4
    rename Fr _ _ _ _ => F4
    have hsl6 : sg.length ≤ 6 := by rw [hsl, List.size_toArray]; exact hw6
    have hyl : ys.length ≤ 6 := by have := strs_len hys; rw [List.length_map] at this; omega
    have hsl8 : (sg ++ [33, 1]).length ≤ 8 := by rw [List.length_append]; simp; omega
    refine add_K (vs := ys) (n := ys.length) (ws := [.str (Str.ofString "!") tk3, .str (Str.ofString "\x01") (tk3 + 1)]) (k := 0) F4 N4 (.tail _ (.head _)) (.head _) ?_ (by rw [sizeLine_eq]; simp; omega)
    intro ls h5 F5 N5 hlt5
    obtain ⟨vs2, hvs2⟩ : ∃ x, x = ys ++ [.str (Str.ofString "!") tk3, .str (Str.ofString "\x01") (tk3 + 1)] := ⟨_, rfl⟩
    obtain ⟨sg2, hsg2⟩ : ∃ x, x = sg ++ [33, 1] := ⟨_, rfl⟩
    have hvs : StrsAre vs2 (sg2.map fun c => S [c]) := by rw [hvs2, hsg2]; exact signs_two hys
    have hlt : ∀ c ∈ sg2, c < 256 := by rw [hsg2]; exact signs_lt hsg
    have hl8 : sg2.length ≤ 8 := by rw [hsg2]; exact hsl8
    rw [← hvs2] at N5
    have N5 := news_of N5 (l' := [(ls, listOf vs2.toArray 0)]) (fun p hp => by rw [List.mem_singleton.mp hp]; exact .head _)
    (try clear N4 F4)
    (try clear N3 F3)
    (try clear N1 F1)
    clear hlt5 hsl8 hsl6 hyl hys hsg2 hvs2
    walk_at "go"
    rename News _ _ _ _ => N6
    rename Fr _ _ _ _ => F6
    refine LCg.ListComp_U (F₀ := F6) (by with_unfolding_all rfl) (by decide) (by rfl) (by decide) (by rfl) ?_
    walk_at "go"
    rename News _ _ _ _ => N7
    rename Fr _ _ _ _ => F7
    have hv8 : vs2.length ≤ 8 := by have := strs_len hvs; rw [List.length_map] at this; omega
    refine LCg.CompSrc.ledger rfl F7 N7 (.head _) (by rw [List.size_toArray, sizeLine_eq]; omega) ?_
    intro g2
    have hsrc2 : ∀ hh, LCg.SrcAt hh ls vs2.toArray [(ls, listOf vs2.toArray 0)] := fun _ => .inr ⟨_, .head _, rfl, _, rfl⟩
    refine comp_rest (fun i ys nw => nw = [(ls, listOf vs2.toArray 0)] ∧ StrsAre ys ((sg2.take i).map fun c => S (uc c))) ⟨rfl, .nil⟩ ?_ ?_
    · rintro i v ys nw I oI C oC D m₂ h tk E' hi ⟨rfl, hys⟩ hv hoC hmx F2 N2 off ne
      obtain ⟨c, tv, hcx, rfl⟩ := strs_get hvs (j := i) (by simpa using hv)
      walk_at "go"
      refine c_unctrl K0 F2 KX N2 T rfl (hlt c (List.mem_of_getElem? hcx)) (by ktr_room) (by ktr_units) ?_
      intro t9 h9 tk9 F9 N9
      refine LCg.CompEnd.intro F9 N9 _ (fun p hp => hp) off (hsrc2 _) ⟨rfl, ?_⟩
      rw [List.take_add_one, hcx, List.map_append]
      exact strs_snoc hys
    · rintro ys2 nw ⟨rfl, hys2⟩
      intro D8 h8 tk8 F8 N8 off8
      have hvl : vs2.toArray.size = sg2.length := by have := strs_len hvs; rw [List.length_map] at this; rw [List.size_toArray]; exact this
      rw [hvl, List.take_length] at hys2
      dsimp only
      walk_at "go"
      refine join_e N8 (.head _) hys2 (by rw [List.length_map]; exact hl8) (ucs3_len hlt) ?_
      intro t9 k9
      rw [join_uc]
      have N8 := news_of N8 (l' := [(ls, listOf vs2.toArray 0)]) (fun p hp => .tail _ hp)
      have htx : ∀ c ∈ (sg2.flatMap uc).take 6, c < 256 := fun c hc => ucs_lt hlt c (List.mem_of_mem_take hc)
      have htl : ((sg2.flatMap uc).take 6).length ≤ 6 := by rw [List.length_take]; omega
      have hshl : (sg2.flatMap uc).length ≤ 24 := by have := ucs_len hlt; omega
      have hsl0 : Txt.slice (S (sg2.flatMap uc)) none (some 6) = S ((sg2.flatMap uc).take 6) := slice_S0 _ 6
      (try clear N7 F7)
      (try clear N6 F6)
      walk_at "go"
      rename News _ _ _ _ => N10
      rename Fr _ _ _ _ => F10
      rw [hsl0]
      refine c_told K0 F10 KX T rfl N10 (.head _) hvs hlt hl8 htx htl (by ktr_room) (by ktr_units) ?_
      intro tl tv tn ts h11 tk11 htv hperm hsrt hoff F11 N11
      have htok : ∀ x ∈ ts.map S, PyData.strOk x = true := told_ok hperm
      (try clear N10 F10)
      (try clear N8 F8)
      walk_at "go"
      refine len_str (by rw [S_len]; omega) ?_
      rw [S_len]
      walk_at "go"
      · rename ((List.flatMap uc sg2).length : Int) ≤ 6 => hle
        rename News _ _ _ _ => N12
        refine join_e N12 (.tail _ (.head _)) hvs (by rw [List.length_map]; exact hl8) (ones_len sg2) ?_
        intro t13 k13
        rw [join_one]
        walk_at "go"
        refine not_in_strs N12 (.head _) htv (by ktr_units) htok (strOk_S hlt) (own_told hlt (by omega) hperm) ?_
        walk_at "go"
        rename News _ _ _ _ => N14
        rename Fr _ _ _ _ => F14
        rw [hsl0]
        refine c_rows K0 F14 KX T rfl N14 htx htl (by ktr_room) (by ktr_units) ?_
        intro lr rv rn h15 tk15 hrv F15 N15 hoff15
        have hrl : rv.length < 64 := by
          have h1 := strs_len hrv
          have h2 := RR_le _ htl
          rw [List.length_map] at h1
          omega
        walk_at "go"
        refine sorted_K F15 N15 (.head _) hrv hrl ?_
        intro l16 h16 vs16 ss16 e16 F16 N16 hS16 hp16 hs16
        have hsame : ss16 = ts.map S := same_sorted hperm hsrt hp16 hs16
        rw [hsame] at hS16
        walk_at "go"
        refine eq_strs N16 (.tail _ (.tail _ (.head _))) (.head _) htv hS16 (by ktr_units) htok ?_
        walk_at "go"
        k_steps
      · skip
        rename News _ _ _ _ => N14
        rename Fr _ _ _ _ => F14
        rw [hsl0]
        refine c_rows K0 F14 KX T rfl N14 htx htl (by ktr_room) (by ktr_units) ?_
        intro lr rv rn h15 tk15 hrv F15 N15 hoff15
        have hrl : rv.length < 64 := by
          have h1 := strs_len hrv
          have h2 := RR_le _ htl
          rw [List.length_map] at h1
          omega
        walk_at "go"
        refine sorted_K F15 N15 (.head _) hrv hrl ?_
        intro l16 h16 vs16 ss16 e16 F16 N16 hS16 hp16 hs16
        have hsame : ss16 = ts.map S := same_sorted hperm hsrt hp16 hs16
        rw [hsame] at hS16
        walk_at "go"
        refine eq_strs N16 (.tail _ (.tail _ (.head _))) (.head _) htv hS16 (by ktr_units) htok ?_
        walk_at "go"
        k_steps)
end
end Mine

theorem PySem.Challenge.cw_mq0126_01_holds : PySem.Challenge.rw_mq0126_01.Holds :=
  Mine.law_holds
