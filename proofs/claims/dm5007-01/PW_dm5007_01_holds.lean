import PyProof.Rows.All
import Wide.All
import OpenK.AllK
import Wide.FinOn
import PySem.Challenge.RW_dm5007_01

set_option rowWalk.seconds 0
open PySem PySem.W PySem.Calls PyProof.Rows
set_option Elab.async false
set_option maxRecDepth 100000
set_option maxHeartbeats 8000000

namespace Mine

theorem slot_tuple_lt : Slot "tuple" (cmpInfo .Lt).2.1 "tuple.__lt__" :=
  .of (owner := "tuple") (n := "__lt__") (by rw [typeLookup_type, builtinLookup_eq_fast]; kernel_rfl) (by decide +kernel) (by decide +kernel) (by decide +kernel)
    (by first | exact .inl (by decide +kernel) | exact .inr (by decide +kernel)) (by rw [isSubtype_type]; kernel_rfl)
theorem entry_tuple_lt : entryFor table "tuple.__lt__" = some Builtin.«tuple.__lt__» := entryFor_of_fast (by kernel_rfl)
theorem args_tuple_lt (a b : Value) : argsOk "tuple.__lt__" ⟨[a, b], []⟩ := by unfold argsOk; kernel_rfl

/-- the order of two keys -/
def klt (k l : Int × Int) : Bool := decide (k.1 < l.1 ∨ (k.1 = l.1 ∧ k.2 < l.2))

abbrev tupOf (xs : List Value) (n : Nat) : Obj := { cls := .type "tuple", data := .seq xs.toArray n }

/-- v is a tuple that begins by the two ints of k -/
def T2 (h : Heap) (v : Value) (k : Int × Int) : Prop := ∃ a n t1 t2 x, v = .ref a ∧ h.get? a = some (tupOf [.int k.1 t1, .int k.2 t2, x] n)

theorem T2.mono {h h' : Heap} {v : Value} {k : Int × Int} (x : T2 h v k) (hk : ∀ b o, h.get? b = some o → o.cls = .type "tuple" → h'.get? b = some o) : T2 h' v k := by
  obtain ⟨a, n, t1, t2, x, e, ho⟩ := x
  exact ⟨a, n, t1, t2, x, e, hk _ _ ho rfl⟩

section
variable {prog : Program} {w : World} {A : Around} {E : Value → Shared → Prop} {s : Shared}

theorem lt_T2 {u v : Value} {k l : Int × Int} {Q : Value → Shared → Prop} (hu : A.units < cLine) (hx : T2 s.heap u k) (hy : T2 s.heap v l) (hne : k ≠ l) (h : Q (.bool (klt k l)) s) :
    wpAny (model prog w) A (richCompare .Lt u v) Q E s := by
  obtain ⟨a, n, t1, t2, x, rfl, ha⟩ := hx
  obtain ⟨b, m, u1, u2, y, rfl, hb⟩ := hy
  obtain ⟨k1, k2⟩ := k
  obtain ⟨l1, l2⟩ := l
  refine wpAny_richCompare_same_room (op := .Lt) ⟨_, ha, rfl⟩ ⟨_, hb, rfl⟩ slot_tuple_lt (wpAny_call_entry slot_tuple_lt ⟨_, ha, rfl⟩ entry_tuple_lt ?_ (args_tuple_lt _ _)) hu
  show wpAny _ _ (isInstance (.ref b) (.type "tuple") >>= _) _ _ s
  refine wpAny_bind (wpAny_isInstance ⟨_, hb, rfl⟩ isSubtype_tuple_tuple ?_)
  simp only [Bool.not_true, Bool.false_eq_true, if_false]
  refine wpAny_bind (wpAny_tupleItemsOf ha rfl ?_)
  refine wpAny_bind (wpAny_tupleItemsOf hb rfl ?_)
  simp only [List.zip_cons_cons, List.zip_nil_right]
  refine wpAny_bind ?_
  rw [List.forIn_cons]
  refine wpAny_bind (wpAny_bind (wpAny_eqBool_int ?_))
  by_cases h1 : k1 = l1
  · have e1 : (k1 == l1) = true := by simp [h1]
    rw [e1]
    simp only [Bool.not_true, Bool.false_eq_true, if_false]
    refine wpAny_pure ?_
    dsimp only
    rw [List.forIn_cons]
    refine wpAny_bind (wpAny_bind (wpAny_eqBool_int ?_))
    have h2 : k2 ≠ l2 := fun q => hne (by rw [h1, q])
    have e2 : (k2 == l2) = false := by simp [h2]
    rw [e2]
    simp only [Bool.not_false, if_true]
    refine wpAny_bind (wpAny_rule (wpAny_bind (lt_int (wpAny_bind (wpAny_pure (wpAny_pure ?_))))))
    refine wpAny_pure (wpAny_pure ⟨_, rfl, (fun e => nomatch e), ?_⟩)
    have e3 : klt (k1, k2) (l1, l2) = decide (k2 < l2) := by simp [klt, h1]
    rw [e3] at h
    exact h
  · have e1 : (k1 == l1) = false := by simp [h1]
    rw [e1]
    simp only [Bool.not_false, if_true]
    refine wpAny_bind (wpAny_rule (wpAny_bind (lt_int (wpAny_bind (wpAny_pure (wpAny_pure ?_))))))
    refine wpAny_pure (wpAny_pure ⟨_, rfl, (fun e => nomatch e), ?_⟩)
    have e3 : klt (k1, k2) (l1, l2) = decide (k1 < l1) := by simp [klt, h1]
    rw [e3] at h
    exact h
end
end Mine

namespace Mine

/-- the same key, over a ledger -/
def T2s (news : List (Addr × Obj)) (v : Value) (k : Int × Int) : Prop := ∃ a n t1 t2 x, v = .ref a ∧ (a, tupOf [.int k.1 t1, .int k.2 t2, x] n) ∈ news
theorem T2s.at {h₀ h : Heap} {L : Addr} {news : List (Addr × Obj)} {v : Value} {k : Int × Int} (N : News h₀ L h news) (x : T2s news v k) : T2 h v k := by
  obtain ⟨a, n, t1, t2, x, e, ho⟩ := x
  exact ⟨a, n, t1, t2, x, e, (N _ ho).1⟩
theorem T2s.more {news news' : List (Addr × Obj)} {v : Value} {k : Int × Int} (x : T2s news v k) (hs : ∀ p ∈ news, p ∈ news') : T2s news' v k := by
  obtain ⟨a, n, t1, t2, x, e, ho⟩ := x
  exact ⟨a, n, t1, t2, x, e, hs _ ho⟩
theorem T2s.tail {p : Addr × Obj} {news : List (Addr × Obj)} {v : Value} {k : Int × Int} (x : T2s news v k) : T2s (p :: news) v k := x.more fun _ h => .tail _ h

section
variable {prog : Program} {w : World} {A : Around} {E : Value → Shared → Prop} {s : Shared} {env : Env} {test : PySem.Expr} {body orelse : List Stmt} {Q : Flow → Shared → Prop}

/-- a while turn's end under a word with a measure -/
def WEnd (I : Nat → Shared → Prop) (Q : Flow → Shared → Prop) (n : Nat) (f : Flow) (s : Shared) : Prop := match f with
  | .next => ∃ m, m < n ∧ I m s
  | .cont => ∃ m, m < n ∧ I m s
  | .brk => Q .next s
  | .ret v => Q (.ret v) s

theorem whl_ind {I : Nat → Shared → Prop} (hE : PassesOwn (model prog w) A env E)
    (turn : ∀ n s, I n s → wpAny (model prog w) A (isTrue test env (eval test env)) (fun b s₂ => WhlIf b (wpAny (model prog w) A (execs body env) (WEnd I Q n) E s₂) (wpAny (model prog w) A (execs orelse env) Q E s₂)) E s)
    {n : Nat} (h : I n s) {k : Nat} : WhlRest prog w A E env test body orelse Q k s := by
  have all : ∀ N n s, n < N → I n s → WhlRest prog w A E env test body orelse Q 1 s := by
    intro N
    induction N with
    | zero => intro n s hn; exact absurd hn (Nat.not_lt_zero _)
    | succ N ih =>
      intro n s hn hI
      refine whl_turn (k := 0) hE (wpAny_mono (turn n s hI) (fun b s₂ hb => ?_) fun _ _ e => e)
      cases b with
      | false => exact WhlIf.no rfl (by unfold WhlIf at hb; rw [if_neg Bool.false_ne_true] at hb; exact hb)
      | true =>
        refine WhlIf.yes rfl ?_
        unfold WhlIf at hb
        rw [if_pos rfl] at hb
        refine wpAny_mono hb (fun f s₃ hf => ?_) fun _ _ e => e
        cases f with
        | next => obtain ⟨m, hm, hI'⟩ := hf; exact ih m s₃ (by omega) hI'
        | cont => obtain ⟨m, hm, hI'⟩ := hf; exact ih m s₃ (by omega) hI'
        | brk => exact hf
        | ret v => exact hf
  exact all (n + 1) n s (Nat.lt_succ_self _) h
theorem whl_at {I : Nat → Shared → Prop} {pos : Pos} (hE : PassesOwn (model prog w) A env E)
    {n : Nat} (h : I n s)
    (turn : ∀ n s, I n s → wpAny (model prog w) A (isTrue test env (eval test env)) (fun b s₂ => WhlIf b (wpAny (model prog w) A (execs body env) (WEnd I Q n) E s₂) (wpAny (model prog w) A (execs orelse env) Q E s₂)) E s) :
    wpAny (model prog w) A (exec (.While test body orelse pos) env) Q E s := wpAny_While (whl_ind (k := 0) hE turn h)
end

section
variable {prog : Program} {w : World} {A : Around} {E : Value → Shared → Prop} {s : Shared} {h₀ : Heap} {L l : Addr} {m : Str → Option Value} {rest : List (Addr × Obj)} {us : List Value} {n : Nat}

theorem get_at {value slice : PySem.Expr} {k : Int} {u : Tok} (i : Nat) {Q : Value → Shared → Prop} (N : News h₀ L s.heap ((l, listOf us.toArray n) :: rest)) (e : k = i) (hi : i < us.length) (hz : us.length < 2 ^ 62)
    (h : Q (us.getD i .none) s)
    (hs : subscripted slice false (.ref l) (.int k u) = operate [.ref l, .int k u] (getItem (.ref l) (.int k u)) := by with_unfolding_all rfl) (hg : ∀ r, letTemporaryGo value (.ref l) r = pure () := by intro _; with_unfolding_all rfl) :
    wpAny (model prog w) A (subscriptTail value slice (.ref l) (.int k u)) Q E s := by
  have hl : s.heap.IsList l us.toArray := ⟨_, (N _ (.head _)).1, rfl, n, rfl⟩
  refine item_listL hl (by omega) (by omega) ?_ h hs hg
  subst e
  simp [hi]

theorem len_at {Q : Value → Shared → Prop} (N : News h₀ L s.heap ((l, listOf us.toArray n) :: rest)) (hz : us.length < 2 ^ 62) (h : ∀ t tk, Q (.int us.length t) { s with toks := tk }) :
    wpAny (model prog w) A (call (.builtin "len") [.ref l]) Q E s := by
  have hl : s.heap.IsList l us.toArray := ⟨_, (N _ (.head _)).1, rfl, n, rfl⟩
  refine len_list hl (by simp; omega) ?_
  rw [List.size_toArray]
  exact h _ _
theorem truthy_at {Q : Bool → Shared → Prop} (N : News h₀ L s.heap ((l, listOf us.toArray n) :: rest)) (hz : us.length < 2 ^ 62) (h : ∀ tk, Q (!us.isEmpty) { s with toks := tk }) :
    wpAny (model prog w) A (truthy (.ref l)) Q E s := by
  have hl : s.heap.IsList l us.toArray := ⟨_, (N _ (.head _)).1, rfl, n, rfl⟩
  refine wpAny_truthy_list hl (by simp; omega) ?_
  have e : us.toArray.isEmpty = us.isEmpty := by cases us <;> rfl
  rw [e]
  exact h _

theorem set_at {k : Int} {u : Tok} {v : Value} (i : Nat) {Q : Unit → Shared → Prop} (F : Fr h₀ L s.heap m) (N : News h₀ L s.heap ((l, listOf us.toArray n) :: rest)) (hr : ∀ p ∈ rest, p.1 ≠ l) (e : k = i) (hi : i < us.length) (hz : us.length < 2 ^ 62)
    (h : ∀ h', Fr h₀ L h' m → News h₀ L h' ((l, listOf (us.set i v).toArray n) :: rest) → Q () { s with heap := h' }) :
    wpAny (model prog w) A (setItem (.ref l) (.int k u) v) Q E s := by
  have z := N _ (.head _)
  subst e
  refine ki_setAt z.1 (by omega) (by omega) (by simp; omega) (h _ (F.change (Heap.SameBut.update ..) z.2.1 z.2.2) ?_)
  refine ki_turn (pre := []) _ N (fun _ h => nomatch h) hr ?_ ?_
  · apply Array.toList_inj.mp
    simp
  · simp
end

theorem ite_no {c : Prop} [Decidable c] {P : Prop} (hc : ¬ c) : (if c then P else True) := by rw [if_neg hc]; trivial

theorem lt_T2c {prog : Program} {w : World} {A : Around} {E : Value → Shared → Prop} {s : Shared} {u v : Value} {k l : Int × Int} {Q : Value → Shared → Prop} (hx : T2 s.heap u k) (hy : T2 s.heap v l) (hne : k ≠ l) (hu : A.units < cLine) (h : Q (.bool (klt k l)) s) :
    wpAny (model prog w) A (compareOp .Lt u v) Q E s := lt_T2 hu hx hy hne h

/-- x sifted down to its place: the hole at pos -/
def sdn (κ : Value → Int × Int) (us : List Value) (x : Value) (start pos : Nat) : List Value :=
  if start < pos then
    (if klt (κ x) (κ (us.getD ((pos - 1) / 2) .none)) = true then sdn κ (us.set pos (us.getD ((pos - 1) / 2) .none)) x start ((pos - 1) / 2) else us.set pos x)
  else us.set pos x
termination_by pos
decreasing_by omega

theorem nodup_ne {α : Type} : ∀ {l : List α} {i j : Nat} (hi : i < l.length) (hj : j < l.length), l.Nodup → i ≠ j → l[i] ≠ l[j] := by
  intro l i j hi hj hn hij e
  exact hij ((List.getElem_inj hn).mp e)

end Mine

namespace Mine

theorem getD_mem' {α : Type} {us : List α} {i : Nat} {d : α} (h : i < us.length) : us.getD i d ∈ us := by
  rw [List.getD_eq_getElem?_getD, List.getElem?_eq_getElem h]
  exact List.getElem_mem h
theorem getD_lt {α : Type} {us : List α} {i : Nat} {d : α} (h : i < us.length) : us.getD i d = us[i] := by
  rw [List.getD_eq_getElem?_getD, List.getElem?_eq_getElem h]; rfl

/-- two places of a list whose hole at q stands for x -/
theorem hole_ne {κ : Value → Int × Int} {us : List Value} {q j : Nat} {x : Value} (hn : ((us.set q x).map κ).Nodup) (hq : q < us.length) (hj : j < us.length) (hne : q ≠ j) : κ x ≠ κ (us.getD j .none) := by
  have h1 : q < ((us.set q x).map κ).length := by simpa using hq
  have h2 : j < ((us.set q x).map κ).length := by simpa using hj
  have := nodup_ne h1 h2 hn hne
  simp only [List.getElem_map, List.getElem_set_self, List.getElem_set_ne hne] at this
  rw [getD_lt hj]
  exact this

theorem set_swap_perm {α : Type} : ∀ {us : List α} {i j : Nat} {x d : α}, i < us.length → j < us.length → i ≠ j → ((us.set i (us.getD j d)).set j x).Perm (us.set i x) := by
  intro us i j x d hi hj hne
  have h := List.set_set_perm (as := us.set i x) (i := i) (j := j) (by simpa using hi) (by simpa using hj)
  rw [List.getElem_set_self, List.getElem_set_ne hne, List.set_set] at h
  rw [getD_lt hj]
  exact h

theorem hole_step {κ : Value → Int × Int} {us : List Value} {q j : Nat} {x : Value} (hn : ((us.set q x).map κ).Nodup) (hq : q < us.length) (hj : j < us.length) (hne : q ≠ j) :
    (((us.set q (us.getD j .none)).set j x).map κ).Nodup := ((set_swap_perm hq hj hne).map κ).nodup_iff.mpr hn

theorem set_mem {us : List Value} {q : Nat} {x : Value} {P : Value → Prop} (h : ∀ v ∈ us, P v) (hx : P x) : ∀ v ∈ us.set q x, P v := fun v hv => by
  rcases List.mem_or_eq_of_mem_set hv with h1 | h1
  · exact h v h1
  · rw [h1]; exact hx

theorem set_self {us : List Value} {q : Nat} : us.set q (us.getD q .none) = us := by
  by_cases h : q < us.length
  · rw [getD_lt h]; exact List.set_getElem_self h
  · exact List.set_eq_of_length_le (by omega)

theorem sdn_up {κ : Value → Int × Int} {us : List Value} {x : Value} {start pos : Nat} (h : start < pos) (hlt : klt (κ x) (κ (us.getD ((pos - 1) / 2) .none)) = true) :
    sdn κ us x start pos = sdn κ (us.set pos (us.getD ((pos - 1) / 2) .none)) x start ((pos - 1) / 2) := by
  rw [sdn, if_pos h, if_pos hlt]
theorem sdn_stay {κ : Value → Int × Int} {us : List Value} {x : Value} {start pos : Nat} (hlt : klt (κ x) (κ (us.getD ((pos - 1) / 2) .none)) = false) :
    sdn κ us x start pos = us.set pos x := by
  rw [sdn, hlt]
  split <;> simp
theorem sdn_end {κ : Value → Int × Int} {us : List Value} {x : Value} {start pos : Nat} (h : ¬ start < pos) : sdn κ us x start pos = us.set pos x := by
  rw [sdn, if_neg h]
theorem sdn_length {κ : Value → Int × Int} {x : Value} {start : Nat} : ∀ (pos : Nat) (us : List Value), (sdn κ us x start pos).length = us.length := by
  intro pos
  induction pos using Nat.strongRecOn with
  | ind pos ih =>
    intro us
    rw [sdn]
    split
    · split
      · rw [ih _ (by omega), List.length_set]
      · rw [List.length_set]
    · rw [List.length_set]
end Mine

namespace Mine

/-- the child that moves up -/
def kid (κ : Value → Int × Int) (us : List Value) (pos : Nat) : Nat :=
  if 2 * pos + 2 < us.length ∧ klt (κ (us.getD (2 * pos + 1) .none)) (κ (us.getD (2 * pos + 2) .none)) = false then 2 * pos + 2 else 2 * pos + 1
theorem kid_gt {κ : Value → Int × Int} {us : List Value} {pos : Nat} : pos < kid κ us pos := by unfold kid; split <;> omega
theorem kid_lt {κ : Value → Int × Int} {us : List Value} {pos : Nat} (h : 2 * pos + 1 < us.length) : kid κ us pos < us.length := by
  unfold kid
  split
  · rename_i h'; exact h'.1
  · exact h

/-- the hole moved down to a leaf -/
def sup (κ : Value → Int × Int) (us : List Value) (pos : Nat) : List Value × Nat :=
  if h : 2 * pos + 1 < us.length then sup κ (us.set pos (us.getD (kid κ us pos) .none)) (kid κ us pos) else (us, pos)
termination_by us.length - pos
decreasing_by
  rw [List.length_set]
  have := @kid_gt κ us pos
  omega

theorem sup_down {κ : Value → Int × Int} {us : List Value} {pos : Nat} (h : 2 * pos + 1 < us.length) : sup κ us pos = sup κ (us.set pos (us.getD (kid κ us pos) .none)) (kid κ us pos) := by
  rw [sup, dif_pos h]
theorem sup_end {κ : Value → Int × Int} {us : List Value} {pos : Nat} (h : ¬ 2 * pos + 1 < us.length) : sup κ us pos = (us, pos) := by
  rw [sup, dif_neg h]

/-- _siftup's list -/
def siftupL (κ : Value → Int × Int) (us : List Value) (pos : Nat) : List Value :=
  sdn κ ((sup κ us pos).1.set (sup κ us pos).2 (us.getD pos .none)) (us.getD pos .none) pos (sup κ us pos).2

end Mine

namespace Mine
theorem sdn_perm {κ : Value → Int × Int} {x : Value} {start : Nat} : ∀ (pos : Nat) (us : List Value), pos < us.length → (sdn κ us x start pos).Perm (us.set pos x) := by
  intro pos
  induction pos using Nat.strongRecOn with
  | ind pos ih =>
    intro us hp
    rw [sdn]
    split
    · split
      · refine (ih _ (by omega) _ (by rw [List.length_set]; omega)).trans ?_
        exact set_swap_perm hp (by omega) (by omega)
      · exact List.Perm.refl _
    · exact List.Perm.refl _

theorem sup_spec {κ : Value → Int × Int} (x : Value) : ∀ (k : Nat) (us : List Value) (pos : Nat), us.length - pos = k → pos < us.length →
    (sup κ us pos).1.length = us.length ∧ (sup κ us pos).2 < us.length ∧ ((sup κ us pos).1.set (sup κ us pos).2 x).Perm (us.set pos x) := by
  intro k
  induction k using Nat.strongRecOn with
  | ind k ih =>
    intro us pos hk hp
    by_cases h : 2 * pos + 1 < us.length
    · rw [sup_down h]
      have h1 := kid_gt (κ := κ) (us := us) (pos := pos)
      have h2 := kid_lt (κ := κ) h
      obtain ⟨a, b, c⟩ := ih (us.length - kid κ us pos) (by omega) (us.set pos (us.getD (kid κ us pos) .none)) (kid κ us pos) (by rw [List.length_set]) (by rw [List.length_set]; exact h2)
      rw [List.length_set] at a b
      exact ⟨a, b, c.trans (set_swap_perm hp h2 (by omega))⟩
    · rw [sup_end h]
      exact ⟨rfl, hp, List.Perm.refl _⟩

theorem siftupL_length {κ : Value → Int × Int} {us : List Value} {pos : Nat} (hp : pos < us.length) : (siftupL κ us pos).length = us.length := by
  unfold siftupL
  rw [sdn_length, List.length_set]
  exact (sup_spec (κ := κ) (us.getD pos .none) _ us pos rfl hp).1
theorem siftupL_perm {κ : Value → Int × Int} {us : List Value} {pos : Nat} (hp : pos < us.length) : (siftupL κ us pos).Perm us := by
  obtain ⟨a, b, c⟩ := sup_spec (κ := κ) (us.getD pos .none) _ us pos rfl hp
  unfold siftupL
  refine (sdn_perm _ _ (by rw [List.length_set, a]; exact b)).trans ?_
  rw [List.set_set]
  rw [set_self] at c
  exact c

/-- heapify's list, from place k - 1 downward -/
def hfy (κ : Value → Int × Int) (us : List Value) : Nat → List Value
  | 0 => us
  | k + 1 => hfy κ (siftupL κ us k) k
theorem hfy_perm {κ : Value → Int × Int} : ∀ (k : Nat) (us : List Value), k ≤ us.length → (hfy κ us k).Perm us
  | 0, _, _ => List.Perm.refl _
  | k + 1, us, h => (hfy_perm k _ (by rw [siftupL_length h]; omega)).trans (siftupL_perm h)
theorem perm_keys {us vs : List Value} {P : Value → Prop} (h : us.Perm vs) (hP : ∀ v ∈ vs, P v) : ∀ v ∈ us, P v := fun v hv => hP v (h.mem_iff.mp hv)
theorem perm_nodup {κ : Value → Int × Int} {us vs : List Value} (h : us.Perm vs) (hn : (vs.map κ).Nodup) : (us.map κ).Nodup := (h.map κ).nodup_iff.mpr hn
end Mine

namespace Mine
section
variable {prog : Program} {w : World} {A : Around} {E : Value → Shared → Prop} {s : Shared} {h₀ : Heap} {L l : Addr} {m : Str → Option Value} {rest : List (Addr × Obj)} {us : List Value} {n : Nat}

theorem method_at {news : List (Addr × Obj)} {name : Str} {id : String} {pl : Sem Bool} {Q : Value × List Value → Shared → Prop} (N : News h₀ L s.heap news) (hm : (l, listOf us.toArray n) ∈ news) (slot : Slot "list" name id) (hty : typeOf (.builtin id) = pure (.type "method_descriptor"))
    (h : Q (.builtin id, [.ref l]) s) : wpAny (model prog w) A (getMethod (.ref l) name pl) Q E s := kl_method N hm slot hty h

theorem getm_append {news : List (Addr × Obj)} {pl : Sem Bool} {Q : Value × List Value → Shared → Prop} (N : News h₀ L s.heap news) (hm : (l, listOf us.toArray n) ∈ news)
    (h : Q (.builtin "list.append", [.ref l]) s) : wpAny (model prog w) A (getMethod (.ref l) "append" pl) Q E s := Calls.getMethod_list_append (N.get hm) rfl rfl h
theorem getm_pop {news : List (Addr × Obj)} {pl : Sem Bool} {Q : Value × List Value → Shared → Prop} (N : News h₀ L s.heap news) (hm : (l, listOf us.toArray n) ∈ news)
    (h : Q (.builtin "list.pop", [.ref l]) s) : wpAny (model prog w) A (getMethod (.ref l) "pop" pl) Q E s := kl_method N hm PySem.F.slot_list_pop PySem.F.type_list_pop h

theorem append_hd {v : Value} {Q : Value → Shared → Prop} (F : Fr h₀ L s.heap m) (N : News h₀ L s.heap ((l, listOf us.toArray n) :: rest)) (hr : ∀ p ∈ rest, p.1 ≠ l) (hz : us.length ≤ 10000)
    (h : ∀ h', Fr h₀ L h' m → News h₀ L h' ((l, listOf (us ++ [v]).toArray (n + 1)) :: rest) → Q .none { s with heap := h' }) :
    wpAny (model prog w) A (call (.builtin "list.append") [.ref l, v]) Q E s := by
  refine append_head F N hr (fun h' F' N' => h h' F' ?_) (by rw [sizeLine_eq, List.size_toArray]; omega)
  have e : us.toArray.push v = (us ++ [v]).toArray := by simp
  rw [e] at N'
  exact N'

theorem last_of {us : List Value} (h : 0 < us.length) : kl_last us = some (us.dropLast, us.getD (us.length - 1) .none) := by
  cases e : kl_last us with
  | none => rw [kl_last_none e] at h; cases h
  | some z =>
    obtain ⟨p, y⟩ := z
    have := kl_last_spec e
    subst this
    simp

theorem pop_hd {Q : Value → Shared → Prop} (F : Fr h₀ L s.heap m) (N : News h₀ L s.heap ((l, listOf us.toArray n) :: rest)) (hr : ∀ p ∈ rest, p.1 ≠ l) (h0 : 0 < us.length) (hz : us.length ≤ 10000)
    (h : ∀ h', Fr h₀ L h' m → News h₀ L h' ((l, listOf us.dropLast.toArray (n + 1)) :: rest) → Q (us.getD (us.length - 1) .none) { s with heap := h' }) :
    wpAny (model prog w) A (call (.builtin "list.pop") [.ref l]) Q E s :=
  kl_pop F N (last_of h0) (.head hr) (by rw [sizeLine_eq]; simp; omega) h
end
end Mine

namespace Mine
abbrev rangeIt (x left step : Int) : Obj := { cls := .type "range_iterator", data := .fields #[rawInt x, rawInt left, rawInt step] }
abbrev rangeOb (a b c : Int) (t u v : Tok) : Obj := { cls := .type "range", data := .fields #[.int a t, .int b u, .int c v] }
/-- a list's iterator at place i -/
def ListIt (o : Obj) (l : Addr) (i : Nat) : Prop := o.cls = .type "list_iterator" ∧ o.data = .fields #[.ref l, .int i 0]
theorem ListIt.new (l : Addr) : ListIt { cls := .type "list_iterator", data := .fields #[.ref l, .int 0 0] } l 0 := ⟨rfl, rfl⟩

section
variable {prog : Program} {w : World} {A : Around} {E : Value → Shared → Prop} {s : Shared} {env : Env} {target : PySem.Expr} {body : List Stmt} {Q : Flow → Shared → Prop}

def ForAt (prog : Program) (w : World) (A : Around) (env : Env) (E : Value → Shared → Prop) (target : PySem.Expr) (body : List Stmt) (Q : Flow → Shared → Prop) (it : Value) (s : Shared) : Prop :=
  codeAny (model prog w) A (.forLoop target it body [] env) (fun r s' => match r with | .ok f => Q f s' | .error e => cameBackBy (model prog w) A env E e s') s

theorem for_start {iter : PySem.Expr} {pos : Pos}
    (h : wpAny (model prog w) A (eval iter env) (fun x s₁ => wpAny (model prog w) A (pyIter x) (ForAt prog w A env E target body Q) E s₁) E s)
    (hs : ∀ x, foldedSetIterable iter env x = pure x := by intro _; rfl) :
    wpAny (model prog w) A (exec (.For target iter body [] pos) env) Q E s := wpAny_For h hs

/-- what is asked of one item handed on -/
def NextIs (prog : Program) (w : World) (A : Around) (env : Env) (E : Value → Shared → Prop) (target : PySem.Expr) (body : List Stmt) (Q : Flow → Shared → Prop) (I : Nat → Shared → Prop) (n : Nat) (o : Option Value) (s₁ : Shared) : Prop := match o with
  | none => Q .next s₁
  | some v => wpAny (model prog w) A (assign target env v) (fun _ s₂ => wpAny (model prog w) A (execs body env) (WEnd I Q n) E s₂) E s₁

theorem for_ind {it : Value} {I : Nat → Shared → Prop} (hE : PassesOwn (model prog w) A env E) {n : Nat} (h : I n s)
    (turn : ∀ n s, I n s → wpAny (model prog w) A (pyNext it) (NextIs prog w A env E target body Q I n) E s)
    (ht : ∀ v, letOwnedTupleGo target it v = pure () := by intro _; rfl) : ForAt prog w A env E target body Q it s := by
  refine codeAny_forLoop (R := fun r s' => match r with | .ok f => Q f s' | .error e => cameBackBy (model prog w) A env E e s') I (fun n s hI => ?_) n h ht
  refine wpAny_passesOwn hE (wpAny_mono (turn n s hI) (fun o s₁ h₁ => ?_) fun _ _ e => e)
  cases o with
  | none => exact wpAny_execs_nil h₁
  | some v =>
    refine wpAny_passesOwn hE (wpAny_mono h₁ (fun _ s₂ h₂ => ?_) fun _ _ e => e)
    refine wpAny_passesOwn hE (wpAny_mono h₂ (fun f s₃ h₃ => ?_) fun _ _ e => e)
    cases f <;> exact h₃
end

section
variable {prog : Program} {w : World} {A : Around} {E : Value → Shared → Prop} {s : Shared} {h₀ h h' : Heap} {L l I b : Addr} {m : Str → Option Value} {news : List (Addr × Obj)} {o o' : Obj}

theorem Fr.extb (F : Fr h₀ L h m) (hs : Heap.ExtBut b h h') (hL : b ≠ L) (hn : h₀.get? b = none) : Fr h₀ L h' m := by
  obtain ⟨oL, a1, a2, hoL, a3⟩ := F.ns
  refine ⟨⟨oL, a1, a2, hs L oL hL.symm hoL, a3⟩, fun c x e => hs c x ?_ (F.keep c x e), F.above⟩
  rintro rfl
  rw [hn] at e
  cases e
theorem News.extb (N : News h₀ L h news) (hs : Heap.ExtBut b h h') (hb : ∀ p ∈ news, p.1 ≠ b) : News h₀ L h' news := fun p hp => ⟨hs _ _ (hb p hp) (N p hp).1, (N p hp).2⟩
theorem News.swap {a c : Addr × Obj} (N : News h₀ L h (a :: c :: news)) : News h₀ L h (c :: a :: news) := fun p hp => N p (by
  rcases List.mem_cons.mp hp with e | hp
  · exact .tail _ (e ▸ .head _)
  · rcases List.mem_cons.mp hp with e | hp
    · exact e ▸ .head _
    · exact .tail _ (.tail _ hp))
theorem News.sub {news' : List (Addr × Obj)} (N : News h₀ L h news) (hs : ∀ p ∈ news', p ∈ news) : News h₀ L h news' := fun p hp => N p (hs p hp)
theorem News.chg (N : News h₀ L h ((b, o) :: news)) (hb : ∀ p ∈ news, p.1 ≠ b) (hs : Heap.SameBut b h h') (ho : h'.get? b = some o') : News h₀ L h' ((b, o') :: news) :=
  news_set (pre := []) N (fun _ h => nomatch h) hb hs ho

theorem iter_list {its : List Value} {Q : Value → Shared → Prop} (F : Fr h₀ L s.heap m) (N : News h₀ L s.heap news) (hl : s.heap.IsList l its.toArray)
    (h : ∀ I o h', Fr h₀ L h' m → News h₀ L h' ((I, o) :: news) → ListIt o l 0 → (∀ p ∈ news, p.1 < I) → I ≠ l → Q (.ref I) { s with heap := h' }) : wpAny (model prog w) A (pyIter (.ref l)) Q E s := by
  obtain ⟨ol, hol, _⟩ := id hl
  exact wpAny_pyIter_list hl (h _ _ _ (F.push _) (N.push F _) (.new l) (fun p hp => Heap.lt_size (N p hp).1) (Nat.ne_of_gt (Heap.lt_size hol)))

theorem next_list {its : List Value} {i : Nat} {Q : Option Value → Shared → Prop} (F : Fr h₀ L s.heap m) (N : News h₀ L s.heap ((I, o) :: news)) (hI : ∀ p ∈ news, p.1 ≠ I) (it : ListIt o l i) (hl : s.heap.IsList l its.toArray) (hi : i < its.length)
    (h : ∀ o' h', Fr h₀ L h' m → News h₀ L h' ((I, o') :: news) → ListIt o' l (i + 1) → Q (some (its.getD i .none)) { s with heap := h' }) : wpAny (model prog w) A (pyNext (.ref I)) Q E s := by
  have z := N _ (.head _)
  refine wpAny_pyNext_list_item (i := i) ⟨o, z.1, it.1, it.2⟩ hl (x := its.getD i .none) (by rw [getD_lt hi]; simp [hi]) fun h' hit hs => ?_
  obtain ⟨o', ho', hc, hd⟩ := hit
  exact h o' h' (F.change hs z.2.1 z.2.2) (News.chg N hI hs ho') ⟨hc, hd⟩
theorem next_list_end {its : List Value} {i : Nat} {Q : Option Value → Shared → Prop} (hh : A.handled = none) (F : Fr h₀ L s.heap m) (N : News h₀ L s.heap ((I, o) :: news)) (hI : ∀ p ∈ news, p.1 ≠ I) (it : ListIt o l i) (hl : s.heap.IsList l its.toArray) (hi : its.length ≤ i)
    (h : ∀ h', Fr h₀ L h' m → News h₀ L h' news → Q none { s with heap := h' }) : wpAny (model prog w) A (pyNext (.ref I)) Q E s := by
  have z := N _ (.head _)
  refine wpAny_pyNext_list_end (i := i) hh ⟨o, z.1, it.1, it.2⟩ hl (by simp [hi]) fun h' hs => ?_
  exact h h' (Fr.extb F hs z.2.1 z.2.2) (News.extb (fun p hp => N p (.tail _ hp)) hs hI)

theorem iter_range {r : Addr} {a b c : Int} {t u v : Tok} {Q : Value → Shared → Prop} (F : Fr h₀ L s.heap m) (N : News h₀ L s.heap news) (hm : (r, rangeOb a b c t u v) ∈ news) (hsmall : Builtin.Range.small a b c = true)
    (h : ∀ I h', Fr h₀ L h' m → News h₀ L h' ((I, rangeIt a (Builtin.Range.rangeSize a b c) c) :: news) → (∀ p ∈ news, p.1 < I) → Q (.ref I) { s with heap := h' }) : wpAny (model prog w) A (pyIter (.ref r)) Q E s :=
  wpAny_pyIter_range (N _ hm).1 hsmall (h _ _ (F.push _) (N.push F _) fun p hp => Heap.lt_size (N p hp).1)
theorem next_range {x left step : Int} {Q : Option Value → Shared → Prop} (F : Fr h₀ L s.heap m) (N : News h₀ L s.heap ((I, rangeIt x left step) :: news)) (hI : ∀ p ∈ news, p.1 ≠ I) (hl : 0 < left)
    (h : ∀ t h' tk, Fr h₀ L h' m → News h₀ L h' ((I, rangeIt (x + step) (left - 1) step) :: news) → Q (some (.int x t)) { s with heap := h', toks := tk }) : wpAny (model prog w) A (pyNext (.ref I)) Q E s := by
  have z := N _ (.head _)
  refine wpAny_pyNext_range_item z.1 hl fun h' hit hs => ?_
  exact h _ h' _ (F.change hs z.2.1 z.2.2) (News.chg N hI hs hit)
theorem next_range_end {x left step : Int} {Q : Option Value → Shared → Prop} (hh : A.handled = none) (F : Fr h₀ L s.heap m) (N : News h₀ L s.heap ((I, rangeIt x left step) :: news)) (hI : ∀ p ∈ news, p.1 ≠ I) (hl : left ≤ 0)
    (h : ∀ h', Fr h₀ L h' m → News h₀ L h' news → Q none { s with heap := h' }) : wpAny (model prog w) A (pyNext (.ref I)) Q E s := by
  have z := N _ (.head _)
  refine wpAny_pyNext_range_end hh z.1 hl fun h' hs => ?_
  exact h h' (Fr.extb F hs z.2.1 z.2.2) (News.extb (fun p hp => N p (.tail _ hp)) hs hI)
end
end Mine

namespace Mine
open PyProof.Rows
namespace RevF
theorem sub_ri_reversed : isSubtype (.type "range_iterator") (.type "reversed") = pure false := by rw [isSubtype_type]; kernel_rfl
end RevF
section
variable {prog : Program} {w : World} {A : Around} {E : Value → Shared → Prop} {s : Shared} {h₀ : Heap} {L l : Addr} {m : Str → Option Value} {news : List (Addr × Obj)}

theorem range_rev (r : Addr) (a b c : Int) (t u v : Tok) (hc0 : ¬(!(Builtin.Range.rangeFitsLong a && Builtin.Range.rangeFitsLong b && Builtin.Range.rangeFitsLong c && Builtin.Range.rangeFitsLong (-c) && Builtin.Range.rangeFitsLong (a - c) && Builtin.Range.rangeFitsLong (Builtin.Range.rangeSize a b c))) = true) :
    Meets (Builtin.«range.__reversed__» ⟨[.ref r], []⟩) (fun _ R s => s.heap.get? r = some { cls := .type "range", dict := none, data := .fields #[.int a t, .int b u, .int c v], slots := #[] } ∧ R (.ok (.ret (Value.ref s.heap.objs.size))) { s with heap := s.heap.push { cls := Value.type (if (Builtin.Range.rangeFitsLong a && Builtin.Range.rangeFitsLong b && Builtin.Range.rangeFitsLong c && Builtin.Range.rangeFitsLong (-c) && Builtin.Range.rangeFitsLong (a - c) && Builtin.Range.rangeFitsLong (Builtin.Range.rangeSize a b c)) = true then "range_iterator" else "longrange_iterator"), data := Data.fields #[rawInt (a + (Builtin.Range.rangeSize a b c - 1) * c), rawInt (Builtin.Range.rangeSize a b c), rawInt (-c)] }, toks := s.toks }) :=
  .of_wp fun prog w A R s h => by obtain ⟨hp, g, d, tk, os⟩ := s; obtain ⟨hl, h⟩ := h; wp_walk; exact ⟨_, rfl, h⟩

theorem call_range_reversed {r : Addr} {n : Nat} {t u v : Tok} {Q : Value → Shared → Prop} (hr : s.heap.get? r = some (rangeOb 0 n 1 t u v)) (hn : n < 2 ^ 60)
    (h : Q (.ref s.heap.objs.size) { s with heap := s.heap.push (rangeIt ((n : Int) - 1) n (-1)) }) : wpAny (model prog w) A (call (.builtin "range.__reversed__") [.ref r]) Q E s := by
  have hT : s.TypeIs (.ref r) "range" := ⟨_, hr, rfl⟩
  have hsz : Builtin.Range.rangeSize 0 n 1 = n := by
    unfold Builtin.Range.rangeSize
    simp only [show (1 : Int) > 0 by decide, if_true, Int.ediv_one]
    split <;> omega
  have hf : (Builtin.Range.rangeFitsLong 0 && Builtin.Range.rangeFitsLong n && Builtin.Range.rangeFitsLong 1 && Builtin.Range.rangeFitsLong (-1) && Builtin.Range.rangeFitsLong (0 - 1) && Builtin.Range.rangeFitsLong (Builtin.Range.rangeSize 0 n 1)) = true := by
    rw [hsz]
    unfold Builtin.Range.rangeFitsLong
    simp
    omega
  refine call_meets F.slot_range_reversed hT F.entry_range_reversed (F.args_range_reversed_1 _) (range_rev r 0 n 1 t u v (by rw [hf]; decide)) ⟨hr, ?_⟩
  rw [hf, hsz]
  have e : (0 : Int) + ((n : Int) - 1) * 1 = (n : Int) - 1 := by omega
  rw [e]
  exact h

theorem code_reversed_range {r : Addr} {n : Nat} {t u v : Tok} {Q₁ : Value → Shared → Prop} (hr : s.heap.get? r = some (rangeOb 0 n 1 t u v)) (hn : n < 2 ^ 60)
    (h : Q₁ (.ref s.heap.objs.size) { s with heap := s.heap.push (rangeIt ((n : Int) - 1) n (-1)) }) :
    codeAny (model prog w) A (.call (.builtin "reversed.__new__") ⟨[.type "reversed", .ref r], []⟩) (wants Q₁ E) s := by
  have hT : s.TypeIs (.ref r) "range" := ⟨_, hr, rfl⟩
  refine codeAny_of_tree ?_
  show wpAny _ A.in1 (do checkBuiltinCall "reversed.__new__" ⟨[.type "reversed", .ref r], []⟩; again (.builtin "reversed.__new__" ⟨[.type "reversed", .ref r], []⟩)) _ _ s
  refine wpAny_bind (wpAny_of_eq (F.newCall_reversed_1 _) (wpAny_pure ⟨plainId_quiet F.plain_reversed_new _, codeAny_builtin F.entry_reversed_new ?_⟩))
  rw [Around.under_plainId F.plain_reversed_new _]
  unfold Builtin.«reversed.__new__»
  refine wpAny_bind (wpAny_of_eq (newClass_reversed _) ?_)
  try dsimp only
  refine wpAny_bind (wpAny_of_eq (a := ()) (by first | rfl | kernel_rfl) ?_)
  refine wpAny_bind (wpAny_of_eq (a := ()) (by first | rfl | kernel_rfl) ?_)
  try dsimp only
  refine wpAny_bind (wpAny_specialOf hT F.slot_range_reversed.lookup ?_)
  try dsimp only
  refine wpAny_bind (wpAny_of_eq (F.slot_range_reversed.bind _) ?_)
  try dsimp only
  first
  | rw [if_neg (show ¬ ((Value.builtin "range.__reversed__" == Value.none) = true) from Bool.false_ne_true)]
  | (show wpAny _ _ (if (Value.builtin "range.__reversed__" == Value.none) = true then _ else _) _ _ _; rw [if_neg (show ¬ ((Value.builtin "range.__reversed__" == Value.none) = true) from Bool.false_ne_true)])
  refine wpAny_bind (wpAny_rule ?_)
  refine wpAny_bind (m := runValue (.call (.builtin "range.__reversed__") ⟨[.ref r], []⟩)) (show wpAny _ _ (call (.builtin "range.__reversed__") [.ref r]) _ _ _ from call_range_reversed hr hn ?_)
  first
  | exact wpAny_pure h
  | exact wpAny_bind (wpAny_pure (wpAny_pure h))

theorem reversed_range {r : Addr} {k : Int} {n : Nat} {t u v : Tok} {Q : Value → Shared → Prop} (Fm : Fr h₀ L s.heap m) (N : News h₀ L s.heap news) (hm : (r, rangeOb 0 k 1 t u v) ∈ news) (hk : k = n) (hn : n < 2 ^ 60)
    (h : ∀ I h', Fr h₀ L h' m → News h₀ L h' ((I, rangeIt ((n : Int) - 1) n (-1)) :: news) → (∀ p ∈ news, p.1 < I) → Q (.ref I) { s with heap := h' }) : wpAny (model prog w) A (call (.type "reversed") [.ref r]) Q E s := by
  subst hk
  refine callType_other (U := "range_iterator") (Q₁ := fun obj s₁ => obj = .ref s.heap.objs.size ∧ s₁ = { s with heap := s.heap.push (rangeIt ((n : Int) - 1) n (-1)) }) (by decide +kernel) F.create_reversed ⟨_, _, F.mro_reversed⟩ F.made_reversed RevF.sub_ri_reversed (F.typeCall_reversed_1 _) (code_reversed_range (N _ hm).1 hn ⟨rfl, rfl⟩) ?_
  rintro obj s₁ ⟨rfl, rfl⟩
  exact ⟨⟨_, Heap.get?_push_size _ rfl, rfl⟩, h _ _ (Fm.push _) (N.push Fm _) fun p hp => Heap.lt_size (N p hp).1⟩

theorem range1 {k : Int} {t : Tok} {Q : Value → Shared → Prop} (Fm : Fr h₀ L s.heap m) (N : News h₀ L s.heap news)
    (h : ∀ r h' tk t1 t2, Fr h₀ L h' m → News h₀ L h' ((r, rangeOb 0 k 1 t1 t t2) :: news) → (∀ p ∈ news, p.1 < r) → Q (.ref r) { s with heap := h', toks := tk }) : wpAny (model prog w) A (call (.type "range") [.int k t]) Q E s :=
  call_range_1 (h _ _ _ _ _ (Fm.push _) (N.push Fm _) fun p hp => Heap.lt_size (N p hp).1)
theorem range2 {a b : Int} {t u : Tok} {Q : Value → Shared → Prop} (Fm : Fr h₀ L s.heap m) (N : News h₀ L s.heap news)
    (h : ∀ r h' tk t2, Fr h₀ L h' m → News h₀ L h' ((r, rangeOb a b 1 t u t2) :: news) → (∀ p ∈ news, p.1 < r) → Q (.ref r) { s with heap := h', toks := tk }) : wpAny (model prog w) A (call (.type "range") [.int a t, .int b u]) Q E s :=
  call_range_2 (h _ _ _ _ (Fm.push _) (N.push Fm _) fun p hp => Heap.lt_size (N p hp).1)

theorem iter_rangeIt {I : Addr} {x left step : Int} {Q : Value → Shared → Prop} (N : News h₀ L s.heap news) (hm : (I, rangeIt x left step) ∈ news) (h : Q (.ref I) s) : wpAny (model prog w) A (pyIter (.ref I)) Q E s :=
  wpAny_pyIter_rangeiter (N _ hm).1 h
end
end Mine

namespace Mine
def kle (k l : Int × Int) : Prop := k.1 < l.1 ∨ (k.1 = l.1 ∧ k.2 ≤ l.2)
theorem kle_refl (k : Int × Int) : kle k k := .inr ⟨rfl, Int.le_refl _⟩
theorem kle_trans {a b c : Int × Int} (h : kle a b) (h' : kle b c) : kle a c := by unfold kle at *; omega
theorem klt_true {k l : Int × Int} (h : klt k l = true) : kle k l := by unfold klt at h; have := of_decide_eq_true h; unfold kle; omega
theorem klt_false {k l : Int × Int} (h : klt k l = false) : kle l k := by unfold klt at h; have := of_decide_eq_false h; unfold kle; omega
theorem kle_anti {k l : Int × Int} (h : kle k l) (h' : kle l k) : k = l := by
  unfold kle at *
  exact Prod.ext (by omega) (by omega)

theorem getD_set {us : List Value} {p i : Nat} {v : Value} (hp : p < us.length) : (us.set p v).getD i .none = if i = p then v else us.getD i .none := by
  rw [List.getD_eq_getElem?_getD, List.getD_eq_getElem?_getD, List.getElem?_set]
  by_cases h : p = i
  · subst h
    simp [hp]
  · rw [if_neg h, if_neg fun e => h e.symm]

def HeapFrom (κ : Value → Int × Int) (us : List Value) (s : Nat) : Prop := ∀ i, 0 < i → i < us.length → s ≤ (i - 1) / 2 → kle (κ (us.getD ((i - 1) / 2) .none)) (κ (us.getD i .none))
inductive Desc (s : Nat) : Nat → Prop
  | refl : Desc s s
  | step {p : Nat} : Desc s ((p - 1) / 2) → 0 < p → Desc s p
theorem Desc.le {s p : Nat} (h : Desc s p) : s ≤ p := by
  induction h with
  | refl => exact Nat.le_refl _
  | step _ h ih => omega
theorem Desc.up {s p : Nat} (h : Desc s p) (hn : s < p) : Desc s ((p - 1) / 2) := by
  cases h with
  | refl => exact absurd hn (Nat.lt_irrefl _)
  | step h _ => exact h
theorem Desc.zero : ∀ p, Desc 0 p := by
  intro p
  induction p using Nat.strongRecOn with
  | ind p ih =>
    rcases Nat.eq_zero_or_pos p with rfl | h
    · exact .refl
    · exact .step (ih _ (by omega)) h

def HoleA (κ : Value → Int × Int) (us : List Value) (s pos : Nat) : Prop := ∀ i, 0 < i → i < us.length → s ≤ (i - 1) / 2 → i ≠ pos → (i - 1) / 2 ≠ pos → kle (κ (us.getD ((i - 1) / 2) .none)) (κ (us.getD i .none))
def HoleC (κ : Value → Int × Int) (us : List Value) (s pos : Nat) : Prop := s < pos → ∀ i, 0 < i → i < us.length → (i - 1) / 2 = pos → kle (κ (us.getD ((pos - 1) / 2) .none)) (κ (us.getD i .none))
def HoleB (κ : Value → Int × Int) (us : List Value) (x : Value) (pos : Nat) : Prop := ∀ i, 0 < i → i < us.length → (i - 1) / 2 = pos → kle (κ x) (κ (us.getD i .none))

theorem sdn_heap {κ : Value → Int × Int} {x : Value} {s : Nat} : ∀ (pos : Nat) (us : List Value), pos < us.length → Desc s pos → HoleA κ us s pos → HoleB κ us x pos → HoleC κ us s pos → HeapFrom κ (sdn κ us x s pos) s := by
  intro pos
  induction pos using Nat.strongRecOn with
  | ind pos ih =>
    intro us hp hd a b c
    by_cases hs : s < pos
    · cases hc : klt (κ x) (κ (us.getD ((pos - 1) / 2) .none)) with
      | true =>
        rw [sdn_up hs hc]
        have hq : (pos - 1) / 2 < pos := by omega
        have hdq := hd.up hs
        have hsq := hdq.le
        refine ih _ hq _ (by rw [List.length_set]; omega) hdq ?_ ?_ ?_
        · intro i h0 hi h1 h2 h3
          rw [List.length_set] at hi
          rw [getD_set hp, getD_set hp]
          by_cases h4 : (i - 1) / 2 = pos
          · rw [if_pos h4, if_neg (by omega)]
            exact c hs i h0 hi h4
          · rw [if_neg h4, if_neg (by rintro rfl; exact h3 rfl)]
            exact a i h0 hi h1 (by rintro rfl; exact h3 rfl) h4
        · intro i h0 hi h1
          rw [List.length_set] at hi
          rw [getD_set hp]
          by_cases h4 : i = pos
          · rw [if_pos h4]; exact klt_true hc
          · rw [if_neg h4]
            have := a i h0 hi (by omega) h4 (by omega)
            rw [h1] at this
            exact kle_trans (klt_true hc) this
        · intro hsq' i h0 hi h1
          rw [List.length_set] at hi
          have hd2 := (hdq.up hsq').le
          have h5 := a ((pos - 1) / 2) (by omega) (by omega) hd2 (by omega) (by omega)
          rw [getD_set hp, getD_set hp, if_neg (by omega)]
          by_cases h4 : i = pos
          · rw [if_pos h4]; exact h5
          · rw [if_neg h4]
            have := a i h0 hi (by omega) h4 (by omega)
            rw [h1] at this
            exact kle_trans h5 this
      | false =>
        rw [sdn_stay hc]
        intro i h0 hi h1
        rw [List.length_set] at hi
        rw [getD_set hp, getD_set hp]
        by_cases h4 : i = pos
        · subst h4
          rw [if_pos rfl, if_neg (by omega)]
          exact klt_false hc
        · rw [if_neg h4]
          by_cases h5 : (i - 1) / 2 = pos
          · rw [if_pos h5]; exact b i h0 hi h5
          · rw [if_neg h5]; exact a i h0 hi h1 h4 h5
    · rw [sdn_end hs]
      have : pos = s := by have := hd.le; omega
      intro i h0 hi h1
      rw [List.length_set] at hi
      rw [getD_set hp, getD_set hp, if_neg (show ¬ i = pos by omega)]
      by_cases h5 : (i - 1) / 2 = pos
      · rw [if_pos h5]; exact b i h0 hi h5
      · rw [if_neg h5]; exact a i h0 hi h1 (by omega) h5

theorem kid_le {κ : Value → Int × Int} {us : List Value} {pos i : Nat} (hi : i < us.length) (h0 : 0 < i) (h : (i - 1) / 2 = pos) : kle (κ (us.getD (kid κ us pos) .none)) (κ (us.getD i .none)) := by
  have h2 : i = 2 * pos + 1 ∨ i = 2 * pos + 2 := by omega
  unfold kid
  split
  · rename_i hk
    rcases h2 with rfl | rfl
    · exact klt_false hk.2
    · exact kle_refl _
  · rename_i hk
    rcases h2 with rfl | rfl
    · exact kle_refl _
    · cases hc : klt (κ (us.getD (2 * pos + 1) .none)) (κ (us.getD (2 * pos + 2) .none)) with
      | true => exact klt_true hc
      | false => exact absurd ⟨hi, hc⟩ hk
theorem kid_par {κ : Value → Int × Int} {us : List Value} {pos : Nat} : (kid κ us pos - 1) / 2 = pos := by unfold kid; split <;> omega

theorem sup_heap {κ : Value → Int × Int} {s : Nat} : ∀ (k : Nat) (us : List Value) (pos : Nat), us.length - pos = k → pos < us.length → Desc s pos → HoleA κ us s pos → HoleC κ us s pos →
    Desc s (sup κ us pos).2 ∧ HoleA κ (sup κ us pos).1 s (sup κ us pos).2 ∧ HoleC κ (sup κ us pos).1 s (sup κ us pos).2 ∧ ∀ i, 0 < i → i < us.length → (i - 1) / 2 ≠ (sup κ us pos).2 := by
  intro k
  induction k using Nat.strongRecOn with
  | ind k ih =>
    intro us pos hk hp hd a c
    by_cases h : 2 * pos + 1 < us.length
    · rw [sup_down h]
      have h1 := kid_gt (κ := κ) (us := us) (pos := pos)
      have h2 := kid_lt (κ := κ) h
      have h3 := kid_par (κ := κ) (us := us) (pos := pos)
      have := ih (us.length - kid κ us pos) (by omega) (us.set pos (us.getD (kid κ us pos) .none)) (kid κ us pos) (by rw [List.length_set]) (by rw [List.length_set]; exact h2) (.step (by rw [h3]; exact hd) (by omega)) ?_ ?_
      · rw [List.length_set] at this; exact this
      · intro i h0 hi g1 g2 g3
        rw [List.length_set] at hi
        rw [getD_set hp, getD_set hp]
        by_cases h4 : i = pos
        · subst h4
          rw [if_pos rfl, if_neg (by omega)]
          exact c (by omega) _ (by omega) h2 h3
        · rw [if_neg h4]
          by_cases h5 : (i - 1) / 2 = pos
          · rw [if_pos h5]; exact kid_le hi h0 h5
          · rw [if_neg h5]; exact a i h0 hi g1 h4 h5
      · intro _ i h0 hi g1
        rw [List.length_set] at hi
        rw [getD_set hp, getD_set hp, h3, if_pos rfl, if_neg (by omega)]
        have := a i h0 hi (by have := hd.le; omega) (by omega) (by omega)
        rw [g1] at this
        exact this
    · rw [sup_end h]
      exact ⟨hd, a, c, fun i h0 hi => by show (i - 1) / 2 ≠ pos; omega⟩

theorem siftupL_heap {κ : Value → Int × Int} {us : List Value} {pos : Nat} (hp : pos < us.length) (h : HeapFrom κ us (pos + 1)) : HeapFrom κ (siftupL κ us pos) pos := by
  obtain ⟨a, b, c⟩ := sup_spec (κ := κ) (us.getD pos .none) _ us pos rfl hp
  obtain ⟨d, e, f, g⟩ := sup_heap (κ := κ) (s := pos) _ us pos rfl hp .refl (fun i h0 hi h1 h2 h3 => h i h0 hi (by omega)) (fun hh => absurd hh (Nat.lt_irrefl _))
  unfold siftupL
  have hl : ((sup κ us pos).1.set (sup κ us pos).2 (us.getD pos .none)).length = us.length := by rw [List.length_set, a]
  have hb : (sup κ us pos).2 < (sup κ us pos).1.length := by rw [a]; exact b
  refine sdn_heap _ _ (by rw [hl]; exact b) d ?_ ?_ ?_
  · intro i h0 hi h1 h2 h3
    rw [hl] at hi
    rw [getD_set hb, getD_set hb, if_neg h2, if_neg h3]
    exact e i h0 (by rw [a]; exact hi) h1 h2 h3
  · intro i h0 hi h1
    rw [hl] at hi
    exact absurd h1 (g i h0 hi)
  · intro _ i h0 hi h1
    rw [hl] at hi
    exact absurd h1 (g i h0 hi)

theorem hfy_heap {κ : Value → Int × Int} : ∀ (k : Nat) (us : List Value), k ≤ us.length → HeapFrom κ us k → HeapFrom κ (hfy κ us k) 0
  | 0, _, _, h => h
  | k + 1, us, hk, h => hfy_heap k _ (by rw [siftupL_length hk]; omega) (siftupL_heap hk h)
theorem heap_trivial {κ : Value → Int × Int} {us : List Value} : HeapFrom κ us (us.length / 2) := fun i h0 hi h1 => by omega
theorem heap_set {κ : Value → Int × Int} {us : List Value} {v : Value} (h : HeapFrom κ us 0) : HeapFrom κ (us.set 0 v) 1 := fun i h0 hi h1 => by
  rw [List.length_set] at hi
  rw [getD_set (by omega), getD_set (by omega), if_neg (by omega), if_neg (by omega)]
  exact h i h0 hi (Nat.zero_le _)
theorem getD_dropLast {us : List Value} {i : Nat} (h : i < us.length - 1) : us.dropLast.getD i .none = us.getD i .none := by
  rw [getD_lt (by rw [List.length_dropLast]; exact h), getD_lt (by omega), List.getElem_dropLast]
theorem heap_dropLast {κ : Value → Int × Int} {us : List Value} (h : HeapFrom κ us 0) : HeapFrom κ us.dropLast 0 := fun i h0 hi _ => by
  rw [List.length_dropLast] at hi
  rw [getD_dropLast (by omega), getD_dropLast (by omega)]
  exact h i h0 (by omega) (Nat.zero_le _)
theorem getD_append_lt {us vs : List Value} {i : Nat} (h : i < us.length) : (us ++ vs).getD i .none = us.getD i .none := by
  rw [getD_lt h, getD_lt (by rw [List.length_append]; omega), List.getElem_append_left h]
theorem push_heap {κ : Value → Int × Int} {us : List Value} {v : Value} (h : HeapFrom κ us 0) : HeapFrom κ (sdn κ (us ++ [v]) v 0 us.length) 0 := by
  refine sdn_heap _ _ (by simp) (.zero _) (fun i h0 hi h1 h2 h3 => ?_) (fun i h0 hi h1 => ?_) (fun _ i h0 hi h1 => ?_)
  · simp only [List.length_append, List.length_cons, List.length_nil] at hi
    rw [getD_append_lt (by omega), getD_append_lt (by omega)]
    exact h i h0 (by omega) (Nat.zero_le _)
  · simp only [List.length_append, List.length_cons, List.length_nil] at hi
    omega
  · simp only [List.length_append, List.length_cons, List.length_nil] at hi
    omega

theorem heap_min {κ : Value → Int × Int} {us : List Value} (h : HeapFrom κ us 0) : ∀ i, i < us.length → kle (κ (us.getD 0 .none)) (κ (us.getD i .none)) := by
  intro i
  induction i using Nat.strongRecOn with
  | ind i ih =>
    intro hi
    rcases Nat.eq_zero_or_pos i with rfl | h0
    · exact kle_refl _
    · exact kle_trans (ih ((i - 1) / 2) (by omega) (by omega)) (h i h0 hi (Nat.zero_le _))
theorem heap_min_mem {κ : Value → Int × Int} {us : List Value} (h : HeapFrom κ us 0) : ∀ v ∈ us, kle (κ (us.getD 0 .none)) (κ v) := fun v hv => by
  obtain ⟨i, hi, rfl⟩ := List.getElem_of_mem hv
  have := heap_min h i hi
  rw [getD_lt hi] at this
  exact this
end Mine

namespace Mine
/-- the object holds the names m -/
def NsO (o : Obj) (m : Str → Option Value) : Prop := ∃ es ep, o.data = .dict es ep ∧ StrKeys es ∧ ∀ name, nsFind es name = m name
theorem NsO.ns {h : Heap} {C : Addr} {o : Obj} {m : Str → Option Value} (x : NsO o m) (ho : h.get? C = some o) : h.Ns C m := let ⟨es, ep, a, b, c⟩ := x; ⟨o, es, ep, ho, a, b, c⟩
theorem NsO.of {h : Heap} {C : Addr} {m : Str → Option Value} (x : h.Ns C m) : ∃ o, h.get? C = some o ∧ NsO o m := let ⟨o, es, ep, ho, a, b, c⟩ := x; ⟨o, ho, es, ep, a, b, c⟩

section
variable {prog : Program} {w : World} {A : Around} {E : Value → Shared → Prop} {R : Result → Shared → Prop} {s : Shared} {env : Env} {elt target iter : PySem.Expr} {scope : Scope} {pos : Pos} {it acc : Value}

theorem compLoop_any (I : Nat → Shared → Prop)
    (turn : ∀ n s, I n s → wpAny (model prog w) A (pyNext it) (fun r s₁ => match r with
      | none => R (.ok .next) s₁
      | some v => wpAny (model prog w) A (letOwnedTupleGo target it v) (fun _ s₁' => wpAny (model prog w) A (assign target env v) (fun _ s₂ => wpAny (model prog w) A (eval elt env) (fun x s₃ =>
          wpAny (model prog w) A (call (.builtin "list.append") [acc, x]) (fun _ s₄ => ∃ m, m < n ∧ I m s₄) (notedBy (model prog w) A env fun e s' => R (.error e) s') s₃)
          (notedBy (model prog w) A env fun e s' => R (.error e) s') s₂) (notedBy (model prog w) A env fun e s' => R (.error e) s') s₁') (notedBy (model prog w) A env fun e s' => R (.error e) s') s₁) (notedBy (model prog w) A env fun e s' => R (.error e) s') s)
    (n : Nat) (h : I n s) :
    codeAny (model prog w) A (.compLoop (.ListComp elt [⟨target, iter, [], 0⟩] scope pos) 0 it acc env) R s := by
  refine codeAny_loop rfl I (fun n s hI => ?_) n h
  show wpAny _ _ ((compTurn (.ListComp elt [⟨target, iter, [], 0⟩] scope pos) 0 it acc env).onRaise (fun x => do noteFrame x env; theTreesLotGoes x)) _ _ s
  refine wpAny_noted ?_
  rw [compTurn_list1]
  refine wpAny_bind (wpAny_standAt (wpAny_bind (wpAny_mono (turn n s hI) (fun r s₁ h₁ => ?_) fun _ _ h' => h')))
  cases r with
  | none => exact wpAny_pure h₁
  | some v =>
    refine wpAny_bind (wpAny_mono h₁ (fun _ s₁' h₁' => ?_) fun _ _ h' => h')
    exact wpAny_bind (wpAny_mono h₁' (fun _ s₂ h₂ => wpAny_bind (wpAny_bind (wpAny_mono h₂ (fun x s₃ h₃ => wpAny_bind (wpAny_mono h₃
      (fun _ s₄ h₄ => wpAny_pure (wpAny_pure ⟨rfl, h₄⟩)) fun _ _ h' => h')) fun _ _ h' => h'))) fun _ _ h' => h')
end

section
variable {prog : Program} {w : World} {A : Around} {E : Value → Shared → Prop} {s : Shared} {env : Env} {elt target iter : PySem.Expr} {scope : Scope} {cl : List (Str × Addr)} {pos : Pos} {h₀ : Heap} {m : Str → Option Value} {news : List (Addr × Obj)}

def Off (news : List (Addr × Obj)) (D C : Addr) : Prop := ∀ p ∈ news, p.1 ≠ D ∧ p.1 ≠ C
/-- the comp's state: the list D so far, its own names at C -/
def CompIs (h₀ : Heap) (L : Addr) (m : Str → Option Value) (s₀ : Shared) (D C : Addr) (acc : List Value) (n : Nat) (mC : Str → Option Value) (news : List (Addr × Obj)) (s : Shared) : Prop :=
  ∃ h tk oC, s = { s₀ with heap := h, toks := tk } ∧ Fr h₀ L h m ∧ News h₀ L h ((D, listOf acc.toArray n) :: (C, oC) :: news) ∧ NsO oC mC ∧ Off news D C ∧ D ≠ C

/-- what one turn is asked -/
def CompTurn (prog : Program) (w : World) (A : Around) (env : Env) (E : Value → Shared → Prop) (target elt : PySem.Expr) (it : Value) (h₀ : Heap) (m : Str → Option Value) (s₀ : Shared) (cenv : Env) (J : Nat → List Value → List (Addr × Obj) → Prop) (Fin : List Value → List (Addr × Obj) → Prop) (D : Addr) : Prop :=
  ∀ k acc news n mC s, J k acc news → CompIs h₀ env.locals m s₀ D cenv.locals acc n mC news s →
    wpAny (model prog w) A (pyNext it) (fun r s₁ => match r with
      | none => ∃ news' mC', CompIs h₀ env.locals m s₀ D cenv.locals acc n mC' news' s₁ ∧ Fin acc news'
      | some v => wpAny (model prog w) A (letOwnedTupleGo target it v) (fun _ s₁' => wpAny (model prog w) A (assign target cenv v) (fun _ s₂ => wpAny (model prog w) A (eval elt cenv) (fun x s₃ =>
          ∃ k' news' mC', k' < k ∧ CompIs h₀ env.locals m s₀ D cenv.locals acc n mC' news' s₃ ∧ acc.length ≤ 10000 ∧ J k' (acc ++ [x]) news') (fun _ _ => False) s₂) (fun _ _ => False) s₁') (fun _ _ => False) s₁) (fun _ _ => False) s

def CompAt (prog : Program) (w : World) (A : Around) (env : Env) (target elt : PySem.Expr) (scope : Scope) (cl : List (Str × Addr)) (Done : Value → Addr → Shared → Prop) (it : Value) (s₂ : Shared) : Prop :=
  ∃ (h₀ : Heap) (m : Str → Option Value) (news : List (Addr × Obj)) (J : Nat → List Value → List (Addr × Obj) → Prop) (Fin : List Value → List (Addr × Obj) → Prop) (k : Nat),
    Fr h₀ env.locals s₂.heap m ∧ News h₀ env.locals s₂.heap news ∧ J k [] news ∧
    (∀ (s' : Shared) (Q' : Value → Shared → Prop) (E' : Value → Shared → Prop), News h₀ env.locals s'.heap news → Q' it s' → wpAny (model prog w) A (pyIter it) Q' E' s') ∧
    (∀ D C, D < C → (∀ p ∈ news, p.1 < D) → CompTurn prog w A env (fun _ _ => False) target elt it h₀ m s₂ (compEnvC scope cl C env) J Fin D) ∧
    (∀ acc news' n mC D C s', CompIs h₀ env.locals m s₂ D C acc n mC news' s' → Fin acc news' → Done (.ref D) C s')

theorem comp_block (hcell : ∀ y ∈ scope.names, y.2 ≠ .cell) (hkind : scope.kind = .function) {RR : Value → Addr → Result → Shared → Prop} {s₂ : Shared}
    (hc : CompAt prog w A env target elt scope cl (fun v C s' => RR v C (.ok .next) s') it s₂) :
    wpAny (model prog w) A (newList []) (fun acc s₃ => wpAny (model prog w) A (newFunctionEnv scope env.globals cl [] env.qual none .none (some env)) (fun cenv s₄ =>
      codeAny (model prog w) A (.compStart (.ListComp elt [⟨target, iter, [], 0⟩] scope pos) 0 it acc { cenv with scope := relabel scope env }) (RR acc cenv.locals) s₄) E s₃) E s₂ := by
  obtain ⟨h₀, m, news, J, Fin, k, F, N, hJ, hself, hturn, hfin⟩ := hc
  refine wpAny_newObj_type (wpAny_newFunctionEnv hcell (by intro y hy; simp at hy) (fun h₁ hns₁ hsb₁ => ?_) hkind)
  dsimp only at hns₁ hsb₁ ⊢
  have F1 : Fr h₀ env.locals (s₂.heap.push (listOf ([] : List Value).toArray 0)) m := F.push _
  have N1 : News h₀ env.locals (s₂.heap.push (listOf ([] : List Value).toArray 0)) ((s₂.heap.objs.size, listOf ([] : List Value).toArray 0) :: news) := N.push F _
  have hD1 : ∀ p ∈ news, p.1 < s₂.heap.objs.size := fun p hp => Heap.lt_size (N p hp).1
  have hL : env.locals < s₂.heap.objs.size := F.ns.lt
  have hsz : (s₂.heap.push (listOf ([] : List Value).toArray 0)).objs.size = s₂.heap.objs.size + 1 := Heap.size_push ..
  have hCeq : (s₂.heap.push { cls := .type "list", dict := none, data := .seq ([] : List Value).toArray }).objs.size = s₂.heap.objs.size + 1 := Heap.size_push ..
  rw [hCeq] at hns₁ hsb₁ ⊢
  generalize hDn : s₂.heap.objs.size = D at *
  have hgo : ∀ b o, (s₂.heap.push (listOf ([] : List Value).toArray 0)).get? b = some o → h₁.get? b = some o := fun b o e => by
    have hlt := Heap.lt_size e
    rw [hsz] at hlt
    exact hsb₁.extBut b o (Nat.ne_of_lt hlt) (Heap.get?_push_of_some _ e)
  obtain ⟨oC, hoC, hNO⟩ := NsO.of hns₁
  have F2 : Fr h₀ env.locals h₁ m := Fr.kept F1 hgo
  have hC0 : h₀.get? (D + 1) = none := by
    cases e : h₀.get? (D + 1) with
    | none => rfl
    | some o => exact absurd (Nat.lt_of_lt_of_le (Heap.lt_size e) F.above) (Nat.not_lt.mpr (Nat.le_succ_of_le (Nat.le_of_lt hL)))
  have N2 : News h₀ env.locals h₁ ((D, listOf ([] : List Value).toArray 0) :: (D + 1, oC) :: news) := fun p hp => by
    rcases List.mem_cons.mp hp with rfl | hp
    · exact ⟨hgo _ _ (N1 _ (.head _)).1, (N1 _ (.head _)).2⟩
    · rcases List.mem_cons.mp hp with rfl | hp
      · exact ⟨hoC, Nat.ne_of_gt (Nat.lt_succ_of_lt hL), hC0⟩
      · exact ⟨hgo _ _ (N1 _ (.tail _ hp)).1, (N1 _ (.tail _ hp)).2⟩
  have hoff : Off news D (D + 1) := fun p hp => ⟨Nat.ne_of_lt (hD1 p hp), Nat.ne_of_lt (Nat.lt_succ_of_lt (hD1 p hp))⟩
  have start : CompIs h₀ env.locals m s₂ D (D + 1) [] 0 (fun x => List.lookup x ([] : List (Str × Value)).reverse) news { s₂ with heap := h₁, toks := s₂.toks + ([] : List (Str × Value)).length } :=
    ⟨h₁, _, oC, rfl, F2, N2, hNO, hoff, Nat.ne_of_lt (Nat.lt_succ_self _)⟩
  have loop : ∀ s₃ : Shared, CompIs h₀ env.locals m s₂ D (D + 1) [] 0 (fun x => List.lookup x ([] : List (Str × Value)).reverse) news s₃ →
      codeAny (model prog w) A (.compLoop (.ListComp elt [⟨target, iter, [], 0⟩] scope pos) 0 it (.ref D) (compEnvC scope cl (D + 1) env)) (RR (.ref D) (D + 1)) s₃ := by
    intro s₃ h3
    refine compLoop_any (fun k s' => ∃ acc n mC news', J k acc news' ∧ CompIs h₀ env.locals m s₂ D (D + 1) acc n mC news' s') ?_ k ⟨[], 0, _, news, hJ, h3⟩
    rintro k s' ⟨acc, n, mC, news', hJ', hI⟩
    refine wpAny_mono (hturn D (D + 1) (Nat.lt_succ_self _) hD1 k acc news' n mC s' hJ' hI) (fun r s₁ h₁ => ?_) fun _ _ e => e.elim
    cases r with
    | none =>
      obtain ⟨news₂, mC', hI', hf⟩ := h₁
      exact hfin _ _ _ _ _ _ _ hI' hf
    | some v =>
      refine wpAny_mono h₁ (fun _ s₁' h₂ => wpAny_mono h₂ (fun _ s₂' h₃ => wpAny_mono h₃ (fun x s₃' h₄ => ?_) fun _ _ e => e.elim) fun _ _ e => e.elim) fun _ _ e => e.elim
      obtain ⟨k', news₂, mC', hk, ⟨h, tk, oC', rfl, F', N', hNO', hoff', hDC⟩, hlen, hJ2⟩ := h₄
      refine append_hd F' N' (fun p hp => ?_) hlen fun h'' F'' N'' => ⟨k', hk, acc ++ [x], n + 1, mC', news₂, hJ2, h'', tk, oC', rfl, F'', N'', hNO', hoff', hDC⟩
      rcases List.mem_cons.mp hp with rfl | hp
      · exact hDC.symm
      · exact (hoff' p hp).1
  refine codeAny_compStart_list (loop _ start) (hself _ _ _ ?_ (loop _ start))
  exact fun p hp => N2 p (.tail _ (.tail _ hp))

theorem listcomp_eval {Q : Value → Shared → Prop} (hclos : closureFor scope env = pure cl) (hcell : ∀ y ∈ scope.names, y.2 ≠ .cell) (hkind : scope.kind = .function)
    (hnames : ∀ y ∈ scope.names, y.2 = .local → scope.names.lookup y.1 = some .local)
    (h : wpAny (model prog w) A (eval iter env) (fun xv s₁ => wpAny (model prog w) A (pyIter xv) (CompAt prog w A env target elt scope cl (fun v C s' => ∃ m, s'.heap.Ns C m ∧ ∀ h', Heap.SameBut C s'.heap h' → Q v { s' with heap := h' })) E s₁) E s)
    (hs : ∀ x, foldedSetIterable iter env x = pure x := by intro _; rfl) :
    wpAny (model prog w) A (eval (.ListComp elt [⟨target, iter, [], 0⟩] scope pos) env) Q E s := by
  rw [eval_ListComp]
  refine wpAny_comprehension_free (use := none) rfl hs hclos hkind hnames (wpAny_mono h (fun xv s₁ h₁ => wpAny_mono h₁ (fun it s₂ h₂ => ?_) fun _ _ e => e) fun _ _ e => e)
  exact comp_block (RR := fun acc C => compPost (model prog w) A E none Q acc C) hcell hkind h₂

theorem listcomp_assign {Q : Flow → Shared → Prop} {y : Str} {py spos : Pos}
    (hsw : swapsWith (.ListComp elt [⟨target, iter, [], 0⟩] scope pos) (some (.Name y py)) spos.line env = pure true)
    (hclos : closureFor scope env = pure cl) (hcell : ∀ y ∈ scope.names, y.2 ≠ .cell) (hkind : scope.kind = .function)
    (hnames : ∀ y ∈ scope.names, y.2 = .local → scope.names.lookup y.1 = some .local)
    (h : wpAny (model prog w) A (eval iter env) (fun xv s₁ => wpAny (model prog w) A (pyIter xv) (CompAt prog w A env target elt scope cl
      (fun v C s' => wpAny (model prog w) A (storeName env y v) (fun _ s'' => ∃ m, s''.heap.Ns C m ∧ ∀ h', Heap.SameBut C s''.heap h' → Q .next { s'' with heap := h' }) E s')) E s₁) E s)
    (hs : ∀ x, foldedSetIterable iter env x = pure x := by intro _; rfl) :
    wpAny (model prog w) A (exec (.Assign [.Name y py] (.ListComp elt [⟨target, iter, [], 0⟩] scope pos) spos) env) Q E s := by
  rw [exec_Assign_Name_used _ _ _ _ hsw]
  refine wpAny_bind (wpAny_standAt (wpAny_bind ?_))
  show wpAny _ A (do let _ ← comprehension (.ListComp elt [⟨target, iter, [], 0⟩] scope pos) scope env _ (newList []) false (eval iter env) (some (assign (.Name y py) env))) _ _ s
  refine wpAny_bind (wpAny_mono (wpAny_comprehension_free (use := some (assign (.Name y py) env)) (Q := fun _ s' => Q .next s') rfl hs hclos hkind hnames
    (wpAny_mono h (fun xv s₁ h₁ => wpAny_mono h₁ (fun it s₂ h₂ => ?_) fun _ _ e => e) fun _ _ e => e)) (fun _ s' hq => wpAny_pure (wpAny_pure hq)) fun _ _ e => e)
  refine comp_block (RR := fun acc C => compPost (model prog w) A E (some (assign (.Name y py) env)) (fun _ s' => Q .next s') acc C) hcell hkind ?_
  obtain ⟨h₀, m, news, J, Fin, k, F, N, hJ, hself, hturn, hfin⟩ := h₂
  exact ⟨h₀, m, news, J, Fin, k, F, N, hJ, hself, hturn, fun acc news' n mC D C s' hI hf => wpAny_assign_Name (hfin acc news' n mC D C s' hI hf)⟩
end

/-- the comp's end: its own names are let go, the list stands -/
theorem comp_done {h₀ : Heap} {L D C : Addr} {m : Str → Option Value} {s₀ s' : Shared} {acc : List Value} {n : Nat} {mC : Str → Option Value} {news : List (Addr × Obj)} {Q : Value → Shared → Prop}
    (h : CompIs h₀ L m s₀ D C acc n mC news s') (k : ∀ h' tk, Fr h₀ L h' m → News h₀ L h' ((D, listOf acc.toArray n) :: news) → (∀ p ∈ news, p.1 ≠ D) → Q (.ref D) { s₀ with heap := h', toks := tk }) :
    ∃ m, s'.heap.Ns C m ∧ ∀ h', Heap.SameBut C s'.heap h' → Q (.ref D) { s' with heap := h' } := by
  obtain ⟨h, tk, oC, rfl, F, N, hNO, hoff, hDC⟩ := h
  have zC := N _ (.tail _ (.head _))
  refine ⟨mC, hNO.ns zC.1, fun h' hs => k h' tk (F.change hs zC.2.1 zC.2.2) (fun p hp => ?_) fun p hp => (hoff p hp).1⟩
  rcases List.mem_cons.mp hp with rfl | hp
  · have z := N _ (.head _)
    exact ⟨(hs.2 D hDC).trans z.1, z.2⟩
  · have z := N _ (.tail _ (.tail _ hp))
    exact ⟨(hs.2 _ (hoff p hp).2).trans z.1, z.2⟩
end Mine

namespace Mine
open PyProof.Rows
/-- what a tree of questions answers, when each question is within n -/
def treeB {α : Type} (n : Nat) (ask : Nat → Nat → Bool) : KasT α → Option α
  | .ret a => some a
  | .ask i j k => if i < n ∧ j < n ∧ i ≠ j then treeB n ask (k (ask i j)) else none

theorem treeB_bind {α β : Type} {n : Nat} {ask : Nat → Nat → Bool} {f : α → KasT β} : ∀ {t : KasT α} {a : α}, treeB n ask t = some a → treeB n ask (t.bind f) = treeB n ask (f a)
  | .ret a, b, h => by
    injection h with h
    subst h; rfl
  | .ask i j k, b, h => by
    unfold treeB at h
    split at h
    · next hc =>
      show (if i < n ∧ j < n ∧ i ≠ j then treeB n ask ((k (ask i j)).bind f) else none) = _
      rw [if_pos hc]
      exact treeB_bind h
    · cases h

theorem treeB_run {α : Type} {n : Nat} {ask : Nat → Nat → Bool} {cmp : Nat → Nat → (Bool → Shared → Prop) → Shared → Prop} {Q : α → Shared → Prop} {s : Shared} (hc : ∀ i j C, i < n → j < n → i ≠ j → C (ask i j) s → cmp i j C s) :
    ∀ (t : KasT α) (a : α), treeB n ask t = some a → Q a s → t.kasWp cmp Q s
  | .ret a, b, h, hq => by
    injection h with h
    subst h; exact hq
  | .ask i j k, b, h, hq => by
    unfold treeB at h
    split at h
    · next hb => exact hc i j _ hb.1 hb.2.1 hb.2.2 (treeB_run hc _ b h hq)
    · cases h

section
variable {n : Nat} {ask : Nat → Nat → Bool}
abbrev gN (p : Array Nat) (i : Nat) : Nat := p.getD i 0
def UpTo (ask : Nat → Nat → Bool) (p : Array Nat) (k : Nat) : Prop := ∀ i j, i < j → j < k → ask (gN p i) (gN p j) = true
def DownTo (ask : Nat → Nat → Bool) (p : Array Nat) (k : Nat) : Prop := ∀ i j, i < j → j < k → ask (gN p j) (gN p i) = true
/-- the order is strict and whole below n -/
structure Ord (n : Nat) (ask : Nat → Nat → Bool) : Prop where
  tot : ∀ i j, i < n → j < n → i ≠ j → ask i j = !ask j i
  trans : ∀ i j k, i < n → j < n → k < n → ask i j = true → ask j k = true → ask i k = true

def Places (n : Nat) (p : Array Nat) : Prop := p.toList.Perm (List.range n)
theorem Places.size {p : Array Nat} (h : Places n p) : p.size = n := by
  have := h.length_eq
  simpa using this
theorem Places.lt {p : Array Nat} (h : Places n p) {i : Nat} (hi : i < n) : gN p i < n := by
  have hs := h.size
  have hm : p[i]'(by omega) ∈ p.toList := by simp
  have := h.mem_iff.mp hm
  rw [List.mem_range] at this
  have e : gN p i = p[i]'(by omega) := by simp [gN, Array.getD, hs, hi]
  rw [e]; exact this
theorem Places.ne {p : Array Nat} (h : Places n p) {i j : Nat} (hi : i < n) (hj : j < n) (hij : i ≠ j) : gN p i ≠ gN p j := by
  have hs := h.size
  have hn : p.toList.Nodup := h.nodup_iff.mpr List.nodup_range
  have e1 : gN p i = p.toList[i]'(by simp; omega) := by simp [gN, Array.getD, hs, hi]
  have e2 : gN p j = p.toList[j]'(by simp; omega) := by simp [gN, Array.getD, hs, hj]
  rw [e1, e2]
  exact nodup_ne _ _ hn hij
theorem gN_of {p q : Array Nat} {i j : Nat} (h : p[i]? = q[j]?) : gN p i = gN q j := by
  unfold gN
  rw [Array.getD_eq_getD_getElem?, Array.getD_eq_getD_getElem?, h]

theorem asc_ok (O : Ord n ask) {p : Array Nat} (hp : Places n p) : ∀ (f k : Nat), 1 ≤ k → k + f ≤ n → UpTo ask p k →
    ∃ m, treeB n ask (kas_asc p f k) = some m ∧ k ≤ m ∧ m ≤ k + f ∧ UpTo ask p m ∧ (m < k + f → ask (gN p m) (gN p (m - 1)) = true)
  | 0, k, h1, hf, hu => ⟨k, rfl, Nat.le_refl _, Nat.le_refl _, hu, fun h => absurd h (Nat.lt_irrefl _)⟩
  | f + 1, k, h1, hf, hu => by
    have b1 := hp.lt (i := k) (by omega)
    have b2 := hp.lt (i := k - 1) (by omega)
    unfold kas_asc treeB
    rw [if_pos ⟨b1, b2, hp.ne (by omega) (by omega) (by omega)⟩]
    cases hc : ask (gN p k) (gN p (k - 1)) with
    | true =>
      refine ⟨k, ?_, Nat.le_refl _, by omega, hu, fun _ => hc⟩
      dsimp only
      rw [if_pos rfl]; rfl
    | false =>
      have hup : UpTo ask p (k + 1) := by
        have hlast : ask (gN p (k - 1)) (gN p k) = true := by
          rw [O.tot _ _ b2 b1 (hp.ne (by omega) (by omega) (by omega)), hc]; rfl
        intro i j hij hj
        by_cases hjk : j < k
        · exact hu i j hij hjk
        · have : j = k := by omega
          subst this
          by_cases hi : i = j - 1
          · rw [hi]; exact hlast
          · exact O.trans _ _ _ (hp.lt (by omega)) b2 b1 (hu i (j - 1) (by omega) (by omega)) hlast
      obtain ⟨m, e1, e2, e3, e4, e5⟩ := asc_ok O hp f (k + 1) (by omega) (by omega) hup
      refine ⟨m, ?_, by omega, by omega, e4, fun h => e5 (by omega)⟩
      dsimp only
      rw [if_neg Bool.false_ne_true]
      exact e1

theorem desc_ok (O : Ord n ask) {p : Array Nat} (hp : Places n p) : ∀ (f k : Nat), 1 ≤ k → k + f ≤ n → DownTo ask p k →
    ∃ m, treeB n ask (kas_desc f p k 0) = some (p, m, 0) ∧ k ≤ m ∧ m ≤ k + f ∧ DownTo ask p m
  | 0, k, h1, hf, hu => ⟨k, rfl, Nat.le_refl _, Nat.le_refl _, hu⟩
  | f + 1, k, h1, hf, hu => by
    have b1 := hp.lt (i := k) (by omega)
    have b2 := hp.lt (i := k - 1) (by omega)
    unfold kas_desc treeB
    rw [if_pos ⟨b1, b2, hp.ne (by omega) (by omega) (by omega)⟩]
    cases hc : ask (gN p k) (gN p (k - 1)) with
    | true =>
      have hup : DownTo ask p (k + 1) := by
        intro i j hij hj
        by_cases hjk : j < k
        · exact hu i j hij hjk
        · have : j = k := by omega
          subst this
          by_cases hi : i = j - 1
          · rw [hi]; exact hc
          · exact O.trans _ _ _ b1 b2 (hp.lt (by omega)) hc (hu i (j - 1) (by omega) (by omega))
      obtain ⟨m, e1, e2, e3, e4⟩ := desc_ok O hp f (k + 1) (by omega) (by omega) hup
      refine ⟨m, ?_, by omega, by omega, e4⟩
      dsimp only
      rw [if_pos rfl, if_neg (by omega)]
      exact e1
    | false =>
      refine ⟨k, ?_, Nat.le_refl _, by omega, hu⟩
      dsimp only
      rw [if_neg Bool.false_ne_true]
      unfold treeB
      rw [if_pos ⟨b2, b1, hp.ne (by omega) (by omega) (by omega)⟩]
      have hd : ask (gN p (k - 1)) (gN p k) = true := by
        rw [O.tot _ _ b2 b1 (hp.ne (by omega) (by omega) (by omega)), hc]; rfl
      dsimp only
      rw [if_pos hd]; rfl

theorem rev_places {p : Array Nat} (hp : Places n p) (i j : Nat) : Places n (kas_rev p i j) :=
  (Array.perm_iff_toList_perm.mp (mirror_perm p i j _)).trans hp
theorem rev_up {p : Array Nat} (hp : Places n p) {k : Nat} (hk : k ≤ n) (h : DownTo ask p k) : UpTo ask (kas_rev p 0 k) k := by
  intro i j hij hj
  have hs := hp.size
  have g : ∀ x, x < k → gN (kas_rev p 0 k) x = gN p (k - 1 - x) := fun x hx => by
    have := getElem?_mirror_all (xs := p) (i := 0) (j := k) (by omega) x
    rw [if_pos ⟨Nat.zero_le _, hx⟩] at this
    refine (gN_of this).trans ?_
    congr 1; omega
  rw [g i (by omega), g j (by omega)]
  exact h _ _ (by omega) (by omega)

theorem tail3_ok (O : Ord n ask) {p : Array Nat} (hp : Places n p) {k : Nat} (h1 : 1 ≤ k) (hk : k ≤ n) (h : DownTo ask p k) :
    ∃ m q, treeB n ask (kas_tail3 k n p) = some (m, q) ∧ Places n q ∧ 1 ≤ m ∧ m ≤ n ∧ UpTo ask q m := by
  obtain ⟨m, e1, e2, e3, e4, _⟩ := asc_ok O (rev_places hp 0 k) (n - k) k h1 (by omega) (rev_up hp hk h)
  refine ⟨m, kas_rev p 0 k, ?_, rev_places hp 0 k, by omega, by omega, e4⟩
  unfold kas_tail3
  rw [treeB_bind e1]; rfl

theorem count_ok (O : Ord n ask) {p : Array Nat} (hp : Places n p) (h1 : 1 ≤ n) :
    ∃ m q, treeB n ask (kas_count n p) = some (m, q) ∧ Places n q ∧ 1 ≤ m ∧ m ≤ n ∧ UpTo ask q m := by
  obtain ⟨m, e1, e2, e3, e4, e5⟩ := asc_ok O hp (n - 1) 1 (Nat.le_refl _) (by omega) (fun i j hij hj => absurd hj (by omega))
  unfold kas_count
  rw [treeB_bind e1]
  by_cases hm : (m == n) = true
  · rw [if_pos hm]
    exact ⟨m, p, rfl, hp, by omega, by omega, e4⟩
  · rw [if_neg hm]
    have hlt : m < n := by
      have : m ≠ n := fun q => hm (by rw [q]; exact beq_self_eq_true _)
      omega
    by_cases h2 : m > 1
    · rw [if_pos h2]
      refine ⟨m, p, ?_, hp, by omega, by omega, e4⟩
      unfold treeB
      rw [if_pos ⟨hp.lt (by omega), hp.lt (by omega), hp.ne (by omega) (by omega) (by omega)⟩]
      dsimp only
      rw [if_pos (e4 0 (m - 1) (by omega) (by omega))]; rfl
    · rw [if_neg h2]
      obtain rfl : m = 1 := by omega
      have hd := e5 (by omega)
      obtain ⟨k, d1, d2, d3, d4⟩ := desc_ok O hp (n - 2) 2 (by omega) (by omega) (fun i j hij hj => by
        obtain rfl : i = 0 := by omega
        obtain rfl : j = 1 := by omega
        exact hd)
      obtain ⟨m, q, t1, t2, t3, t4, t5⟩ := tail3_ok O hp (k := k) (by omega) (by omega) d4
      refine ⟨m, q, ?_, t2, t3, t4, t5⟩
      unfold kas_descPart
      rw [treeB_bind d1]
      dsimp only
      rw [if_neg (by omega)]
      exact t1

theorem place_ok (O : Ord n ask) {p : Array Nat} (hp : Places n p) {k : Nat} (hk : k < n) (hu : UpTo ask p k) : ∀ (f l r : Nat), l ≤ r → r ≤ k → r - l ≤ f →
    (∀ i, i < l → ask (gN p i) (gN p k) = true) → (∀ i, r ≤ i → i < k → ask (gN p k) (gN p i) = true) →
    ∃ z, treeB n ask (kas_place p k f l r) = some z ∧ z ≤ k ∧ (∀ i, i < z → ask (gN p i) (gN p k) = true) ∧ (∀ i, z ≤ i → i < k → ask (gN p k) (gN p i) = true)
  | 0, l, r, hlr, hr, hf, h1, h2 => ⟨l, rfl, by omega, h1, fun i hi => h2 i (by omega)⟩
  | f + 1, l, r, hlr, hr, hf, h1, h2 => by
    unfold kas_place
    by_cases hge : l ≥ r
    · rw [if_pos hge]
      exact ⟨l, rfl, by omega, h1, fun i hi => h2 i (by omega)⟩
    · rw [if_neg hge]
      have b1 := hp.lt (i := k) hk
      have b2 := hp.lt (i := (l + r) / 2) (by omega)
      unfold treeB
      rw [if_pos ⟨b1, b2, hp.ne (by omega) (by omega) (by omega)⟩]
      dsimp only
      cases hc : ask (gN p k) (gN p ((l + r) / 2)) with
      | true =>
        rw [if_pos rfl]
        refine place_ok O hp hk hu f l ((l + r) / 2) (by omega) (by omega) (by omega) h1 fun i hi hik => ?_
        by_cases e : i = (l + r) / 2
        · rw [e]; exact hc
        · exact O.trans _ _ _ b1 b2 (hp.lt (by omega)) hc (hu _ _ (by omega) hik)
      | false =>
        rw [if_neg Bool.false_ne_true]
        have hd : ask (gN p ((l + r) / 2)) (gN p k) = true := by
          rw [O.tot _ _ b2 b1 (hp.ne (by omega) (by omega) (by omega)), hc]; rfl
        refine place_ok O hp hk hu f ((l + r) / 2 + 1) r (by omega) (by omega) (by omega) (fun i hi => ?_) h2
        by_cases e : i = (l + r) / 2
        · rw [e]; exact hd
        · exact O.trans _ _ _ (hp.lt (by omega)) b2 b1 (hu _ _ (by omega) (by omega)) hd

theorem bubble_places {p : Array Nat} (hp : Places n p) (k d : Nat) : Places n (bubble p k d) :=
  (Array.perm_iff_toList_perm.mp (bubble_perm p k d)).trans hp

theorem bin_ok (O : Ord n ask) : ∀ (f : Nat) (p : Array Nat) (k : Nat), Places n p → k + f = n → UpTo ask p k →
    ∃ q, treeB n ask (kas_bin f p k) = some q ∧ Places n q ∧ UpTo ask q n
  | 0, p, k, hp, hk, hu => ⟨p, rfl, hp, by rw [← hk]; exact hu⟩
  | f + 1, p, k, hp, hk, hu => by
    obtain ⟨z, e1, e2, e3, e4⟩ := place_ok O hp (k := k) (by omega) hu k 0 k (Nat.zero_le _) (Nat.le_refl _) (by omega) (fun i hi => absurd hi (by omega)) (fun i h1 h2 => absurd h2 (by omega))
    unfold kas_bin
    rw [treeB_bind e1]
    refine bin_ok O f _ (k + 1) (bubble_places hp k _) (by omega) ?_
    have hs := hp.size
    have g : ∀ x, gN (bubble p k (k - z)) x = gN p (if x = z then k else if z < x ∧ x ≤ k then x - 1 else x) := fun x => by
      have := getElem?_bubble (xs := p) (src := k) (by omega) (k - z) (by omega) x
      rw [show k - (k - z) = z by omega] at this
      by_cases c1 : x = z
      · rw [if_pos c1] at this ⊢; exact gN_of this
      · rw [if_neg c1] at this ⊢
        by_cases c2 : z < x ∧ x ≤ k
        · rw [if_pos c2] at this ⊢; exact gN_of this
        · rw [if_neg c2] at this ⊢; exact gN_of this
    intro i j hij hj
    rw [g i, g j]
    by_cases ci : i = z
    · rw [if_pos ci, if_neg (by omega), if_pos ⟨by omega, by omega⟩]
      exact e4 _ (by omega) (by omega)
    · rw [if_neg ci]
      by_cases cj : j = z
      · rw [if_pos cj, if_neg (by omega)]
        exact e3 _ (by omega)
      · rw [if_neg cj]
        by_cases c1 : z < i ∧ i ≤ k
        · rw [if_pos c1, if_pos ⟨by omega, by omega⟩]
          exact hu _ _ (by omega) (by omega)
        · rw [if_neg c1]
          by_cases c2 : z < j ∧ j ≤ k
          · rw [if_pos c2]
            by_cases c3 : i = j - 1
            · omega
            · exact hu _ _ (by omega) (by omega)
          · rw [if_neg c2]
            exact hu _ _ (by omega) (by omega)

theorem sort_ok (O : Ord n ask) (h1 : 1 ≤ n) : ∃ q, treeB n ask (kas_sort n) = some q ∧ Places n q ∧ UpTo ask q n := by
  have hp : Places n (List.toArray (List.range n)) := by unfold Places; exact List.Perm.refl _
  obtain ⟨m, q, e1, e2, e3, e4, e5⟩ := count_ok O hp h1
  unfold kas_sort
  rw [treeB_bind e1]
  dsimp only
  by_cases hm : m < n
  · rw [if_pos hm, show max m 1 = m by omega]
    exact bin_ok O (n - m) q m e2 (by omega) e5
  · rw [if_neg hm]
    obtain rfl : m = n := by omega
    exact ⟨q, rfl, e2, e5⟩
end
end Mine

namespace Mine
open PyProof.Rows
theorem klt_tot {k l : Int × Int} (h : k ≠ l) : klt k l = !klt l k := by
  obtain ⟨k1, k2⟩ := k
  obtain ⟨l1, l2⟩ := l
  have h' : ¬ (k1 = l1 ∧ k2 = l2) := fun q => h (by rw [q.1, q.2])
  unfold klt
  rw [← decide_not]
  refine decide_eq_decide.mpr ?_
  dsimp only
  omega
theorem klt_trans {k l j : Int × Int} (h1 : klt k l = true) (h2 : klt l j = true) : klt k j = true := by
  unfold klt at *
  rw [decide_eq_true_eq] at *
  omega

section
variable {prog : Program} {w : World} {A : Around} {E : Value → Shared → Prop} {s : Shared} {h₀ : Heap} {L l : Addr} {m : Str → Option Value} {news : List (Addr × Obj)} {us : List Value} {n : Nat} {κ : Value → Int × Int}

theorem tups_T2 {h : Heap} : ∀ {us : List Value}, (∀ u ∈ us, T2 h u (κ u)) → ∃ fs, KatTups h us fs ∧ fs.length = us.length ∧ ∀ f ∈ fs, ∃ k t, f = Value.int k t
  | [], _ => ⟨[], KatTups.nil, rfl, fun _ h => nomatch h⟩
  | u :: us, hk => by
    obtain ⟨fs, e1, e2, e3⟩ := tups_T2 (us := us) fun v hv => hk v (.tail _ hv)
    obtain ⟨a, n, t1, t2, x, rfl, ha⟩ := hk _ (.head _)
    refine ⟨.int (κ (.ref a)).1 t1 :: fs, KatTups.cons ha rfl rfl rfl e1, by simp [e2], fun f hf => ?_⟩
    rcases List.mem_cons.mp hf with rfl | hf
    · exact ⟨_, _, rfl⟩
    · exact e3 f hf

theorem kind_T2 {Q : SortKind → Shared → Prop} (h0 : 0 < us.length) (hk : ∀ u ∈ us, T2 s.heap u (κ u)) (h : Q (tuples' true) s) : wpAny (model prog w) A (keyKind' us.toArray) Q E s := by
  obtain ⟨fs, e1, e2, e3⟩ := tups_T2 hk
  refine kat_kind (T := .type "int") e1 (by omega) (fun f hf => ?_) rfl h
  obtain ⟨k, t, rfl⟩ := e3 f hf
  exact Looks.of_pure rfl

theorem less_T2 {u v : Value} {k k' : Int × Int} {Q : Bool → Shared → Prop} (hx : T2 s.heap u k) (hy : T2 s.heap v k') (hne : k ≠ k') (h : Q (klt k k') s) :
    wpAny (model prog w) A (keyLt' (tuples' true) u v) Q E s := by
  obtain ⟨a, n, t1, t2, x, rfl, ha⟩ := hx
  obtain ⟨b, m, u1, u2, y, rfl, hb⟩ := hy
  obtain ⟨k1, k2⟩ := k
  obtain ⟨l1, l2⟩ := k'
  refine kat_lt ha rfl hb rfl ?_
  show KatLex _ _ _ _ _ _ [(.int k1 t1, .int l1 u1), (.int k2 t2, .int l2 u2), (x, y)] 0 s
  refine kat_cons (wpAny_eqBool_int ?_)
  by_cases h1 : k1 = l1
  · have e1 : (k1 == l1) = true := by simp [h1]
    rw [e1]
    refine kat_yes (kat_cons (wpAny_eqBool_int ?_))
    have h2 : k2 ≠ l2 := fun q => hne (by rw [h1, q])
    have e2 : (k2 == l2) = false := by simp [h2]
    rw [e2]
    refine kat_no ?_
    have e3 : klt (k1, k2) (l1, l2) = decide (k2 < l2) := by simp [klt, h1]
    rw [e3] at h
    exact kat_one _ _ (lt_int h)
  · have e1 : (k1 == l1) = false := by simp [h1]
    rw [e1]
    refine kat_no ?_
    have e3 : klt (k1, k2) (l1, l2) = decide (k1 < l1) := by simp [klt, h1]
    rw [e3] at h
    exact oneLt_int h

/-- sorted by the key, rising -/
def Rises (κ : Value → Int × Int) (us : List Value) : Prop := us.Pairwise fun u v => klt (κ u) (κ v) = true

theorem kwp_T2 {Q : Array Nat → Shared → Prop} (h0 : 0 < us.length) (hk : ∀ u ∈ us, T2 s.heap u (κ u)) (hnd : (us.map κ).Nodup)
    (h : ∀ p : Array Nat, ((p.toList.map fun i => us.getD i .none).Perm us) → Rises κ (p.toList.map fun i => us.getD i .none) → Q p s) :
    (kas_sort us.length).kasWp (kas_ask prog w A (tuples' true) us) Q s := by
  have hne : ∀ i j, i < us.length → j < us.length → i ≠ j → κ (us.getD i .none) ≠ κ (us.getD j .none) := fun i j hi hj hij => by
    have := nodup_ne (i := i) (j := j) (by simpa using hi) (by simpa using hj) hnd hij
    simp only [List.getElem_map] at this
    rw [getD_lt hi, getD_lt hj]
    exact this
  have O : Ord us.length (fun i j => klt (κ (us.getD i .none)) (κ (us.getD j .none))) :=
    ⟨fun i j hi hj hij => klt_tot (hne i j hi hj hij), fun i j k hi hj hk h1 h2 => klt_trans h1 h2⟩
  have hp0 : Places us.length (List.toArray (List.range us.length)) := by unfold Places; exact List.Perm.refl _
  obtain ⟨q, e1, e2, e3⟩ := sort_ok O h0
  refine treeB_run (n := us.length) (ask := fun i j => klt (κ (us.getD i .none)) (κ (us.getD j .none))) (fun i j C hi hj hij hC => ?_) _ _ e1 (h q ?_ ?_)
  · exact less_T2 (hk _ (getD_mem' hi)) (hk _ (getD_mem' hj)) (hne i j hi hj hij) hC
  · have := e2.map (fun i => us.getD i .none)
    refine this.trans ?_
    have e : (List.range us.length).map (fun i => us.getD i .none) = us := by
      apply List.ext_getElem
      · simp
      · intro i h1 h2
        simp [h2]
    rw [e]
  · unfold Rises
    rw [List.pairwise_iff_getElem]
    intro i j hi hj hij
    have hs := e2.size
    simp only [List.length_map, Array.length_toList] at hi hj
    have := e3 i j hij (by omega)
    have g : ∀ x (hx : x < q.size), gN q x = q.toList[x]'(by simpa using hx) := fun x hx => by simp [gN, Array.getD, hx]
    rw [List.getElem_map, List.getElem_map, ← g i hi, ← g j hj]
    exact this

theorem call_sorted {Q : Value → Shared → Prop} (F : Fr h₀ L s.heap m) (N : News h₀ L s.heap news) (hl : (l, listOf us.toArray n) ∈ news) (h2 : 2 ≤ us.length) (h64 : us.length < 64) (hκ : ∀ u ∈ us, T2s news u (κ u)) (hnd : (us.map κ).Nodup)
    (h : ∀ D us' c h', us'.Perm us → Rises κ us' → Fr h₀ L h' m → News h₀ L h' ((D, listOf us'.toArray c) :: news) → (∀ q ∈ news, q.1 < D) → Q (.ref D) { s with heap := h' }) :
    wpAny (model prog w) A (call (.builtin "sorted") [.ref l]) Q E s := by
  have hls : s.heap.IsList l us.toArray := ⟨_, (N _ hl).1, rfl, n, rfl⟩
  refine kat_sorted F N hls h2 h64 fun D e1 h' F' N' hD => ?_
  have hk : ∀ u ∈ us, T2 h' u (κ u) := fun u hu => T2s.at N' ((hκ u hu).more fun p hp => .tail _ hp)
  refine kind_T2 (by omega) hk (kwp_T2 (by omega) hk hnd fun p hp hr => ?_)
  refine KasFin.intro F' N' (.head fun q hq => Nat.ne_of_lt (hD q hq)) fun h2 c F2 N2 => h D _ c h2 hp hr F2 N2 hD

theorem list_sort_back {vs : List Value} {a : Addr} {n : Nat} {P : PySem.Fin → Shared → Prop} (F : Fr h₀ L s.heap m) (N : News h₀ L s.heap ((a, seqObj "list" vs.toArray n) :: news)) (hna : ∀ p ∈ news, p.1 ≠ a)
    (h2 : 2 ≤ vs.length) (h64 : vs.length < 64)
    (h : ∀ e1 h', Fr h₀ L h' m → News h₀ L h' ((a, seqObj "list" #[] e1) :: news) →
      wpAny (model prog w) A (keyKind' vs.toArray) (fun κ s' => (kas_sort vs.length).kasWp (kas_ask prog w A κ vs.reverse) (fun p s'' => KasFin h₀ L m a e1 (p.toList.map fun i => vs.reverse.getD i Value.none).reverse (fun s3 => P (.done (.ret .none)) s3) s'') s') (fun _ _ => False) { s with heap := h' }) :
    wpAny (model prog w) A (Builtin.«list.sort» ⟨[.ref a], [(Str.ofString "reverse", .bool true)]⟩) P E s := by
  have z0 := N _ (.head _)
  have ho := z0.1
  have N₀ : News h₀ L s.heap news := fun p hp => N p (.tail _ hp)
  have haL := z0.2.1
  have ha0 := z0.2.2
  have s1 := Heap.SameBut.update s.heap a (Obj.mapSeq fun _ => (#[] : Array Value))
  obtain ⟨e1, ho1⟩ : ∃ e1, (s.heap.update a (Obj.mapSeq fun _ => (#[] : Array Value))).get? a = some (seqObj "list" #[] e1) := ⟨_, get?_update_seq ho fun _ => #[]⟩
  have F3 : Fr h₀ L (((s.heap.update a (Obj.mapSeq fun _ => (#[] : Array Value))).push (seqObj "tuple" vs.toArray 0)).push (seqObj "list" #[] 0)) m := ((kas_fr F s1 haL ha0).push _).push _
  have N2 : News h₀ L (((s.heap.update a (Obj.mapSeq fun _ => (#[] : Array Value))).push (seqObj "tuple" vs.toArray 0)).push (seqObj "list" #[] 0)) news :=
    (kas_news N₀ s1 hna).grown fun b x e => Heap.get?_push_of_some _ (Heap.get?_push_of_some _ e)
  have N3 : News h₀ L (((s.heap.update a (Obj.mapSeq fun _ => (#[] : Array Value))).push (seqObj "tuple" vs.toArray 0)).push (seqObj "list" #[] 0)) ((a, seqObj "list" #[] e1) :: news) := fun p hp => by
    rcases List.mem_cons.mp hp with rfl | hp
    · exact ⟨Heap.get?_push_of_some _ (Heap.get?_push_of_some _ ho1), haL, ha0⟩
    · exact N2 p hp
  have ask := h e1 _ F3 N3
  rw [list_sort_rev]
  refine wpAny_bind (listItems_at ho rfl ?_)
  refine wpAny_bind (listUpdate_at ho rfl ?_ (by rw [List.size_toArray, sizeLine_eq]; omega) (Nat.zero_le _))
  refine wpAny_bind (seqEpoch_at ho1 rfl ?_)
  refine wpAny_bind (wpAny_newTuple ?_ (by show vs.length ≤ _; rw [sizeLine_eq]; omega))
  refine wpAny_bind (wpAny_newList ?_ (Nat.zero_le _))
  refine wpAny_holding ?_
  show wpAny (model prog w) A _ P E { s with heap := ((s.heap.update a (Obj.mapSeq fun _ => (#[] : Array Value))).push (seqObj "tuple" vs.toArray 0)).push (seqObj "list" #[] 0) }
  dsimp only
  have hn2 : ¬ vs.toArray.size < 2 := by rw [List.size_toArray]; omega
  rw [if_pos rfl, if_neg hn2, if_neg hn2]
  refine wpAny_bind (wpAny_rule ?_)
  refine wpAny_bind (wpAny_mono ask (fun κ s0 hk => ?_) fun _ _ x => x.elim)
  have hpr : (if true = true then (vs.toArray.zip vs.toArray).reverse else vs.toArray.zip vs.toArray) = (List.toArray vs.reverse).zip (List.toArray vs.reverse) := kat_pairs true rfl
  rw [hpr]
  have hk' : (kas_sort vs.reverse.length).kasWp (kas_ask prog w A κ vs.reverse) (fun p s'' => KasFin h₀ L m a e1 (p.toList.map fun i => vs.reverse.getD i Value.none).reverse (fun s3 => P (.done (.ret .none)) s3) s'') s0 := by
    rw [List.length_reverse]; exact hk
  refine wpAny_bind (wpAny_mono (kat_run (ks := vs.reverse) (vs := vs.reverse) (Q := fun st' s' => ∃ p : Array Nat, p.size = vs.reverse.length ∧ arrOf st' = p.map (kas_item (vs.reverse.toArray.zip vs.reverse.toArray)) ∧ failedOf st' = none ∧ KasFin h₀ L m a e1 (p.toList.map fun i => vs.reverse.getD i Value.none).reverse (fun s'' => P (.done (.ret .none)) s'') s')
    rfl (by rw [List.length_reverse]; exact h2) (by rw [List.length_reverse]; exact h64) (fun p' st' s' a1 a2 a3 a4 => ⟨p', a1, a2, a3, a4⟩) hk') ?_ fun _ _ e => e)
  rintro ⟨⟨⟩, st'⟩ s' ⟨p, hp, har, hf, news', g, F', N', U, k⟩
  dsimp only
  obtain ⟨pre, post, e0, hg, x1, x2⟩ := U.split
  rw [e0] at N'
  have na := N' (a, seqObj "list" #[] e1) (List.mem_append_right _ (.head _))
  have hout := kat_snds rfl har
  have hrv : (List.toArray (p.toList.map fun i => vs.reverse.getD i Value.none)).reverse = List.toArray (p.toList.map fun i => vs.reverse.getD i Value.none).reverse := by simp
  have hsz : (List.toArray (p.toList.map fun i => vs.reverse.getD i Value.none).reverse).size = vs.length := by rw [List.size_toArray, List.length_reverse, List.length_map, Array.length_toList, hp, List.length_reverse]
  rw [hout]
  try rw [if_pos rfl]
  rw [hrv]
  have s2 := Heap.SameBut.update s'.heap a (Obj.mapSeq fun _ => List.toArray (p.toList.map fun i => vs.reverse.getD i Value.none).reverse)
  obtain ⟨c2, hc2⟩ : ∃ c2, (s'.heap.update a (Obj.mapSeq fun _ => List.toArray (p.toList.map fun i => vs.reverse.getD i Value.none).reverse)).get? a = some (seqObj "list" (List.toArray (p.toList.map fun i => vs.reverse.getD i Value.none).reverse) c2) := ⟨_, get?_update_seq na.1 fun _ => List.toArray (p.toList.map fun i => vs.reverse.getD i Value.none).reverse⟩
  refine wpAny_bind (seqEpoch_at na.1 rfl ?_)
  refine wpAny_bind (listUpdate_at na.1 rfl ?_ (Nat.zero_le _) (Nat.le_trans (Nat.le_of_eq hsz) (by rw [sizeLine_eq]; omega)))
  rw [hf]
  simp only [bne_self_eq_false, Bool.false_eq_true, if_false]
  refine wpAny_pure (k _ c2 (kas_fr F' s2 na.2.1 na.2.2) ?_)
  rw [hg]
  exact news_set N' x1 x2 s2 hc2

theorem call_sort_back {Q : Value → Shared → Prop} (F : Fr h₀ L s.heap m) (N : News h₀ L s.heap ((l, listOf us.toArray n) :: news)) (hr : ∀ p ∈ news, p.1 ≠ l) (h2 : 2 ≤ us.length) (h64 : us.length < 64) (hκ : ∀ u ∈ us, T2s news u (κ u)) (hnd : (us.map κ).Nodup)
    (h : ∀ (us' : List Value) c h', us'.Perm us → Rises κ us'.reverse → Fr h₀ L h' m → News h₀ L h' ((l, listOf us'.toArray c) :: news) → Q .none { s with heap := h' }) :
    wpAny (model prog w) A (call (.builtin "list.sort") [.ref l] [(Str.ofString "reverse", .bool true)]) Q E s := by
  refine wpAny_call_entry_kw slot_list_sort ⟨_, (N _ (.head _)).1, rfl⟩ entry_list_sort (list_sort_back F N hr h2 h64 fun e1 h' F' N' => ?_) (args_list_sort_rev _ _)
  have hk : ∀ u ∈ us, T2 h' u (κ u) := fun u hu => T2s.at N' ((hκ u hu).more fun p hp => .tail _ hp)
  have hkr : ∀ u ∈ us.reverse, T2 h' u (κ u) := fun u hu => hk u (List.mem_reverse.mp hu)
  have hnr : (us.reverse.map κ).Nodup := by
    rw [List.map_reverse]
    exact (List.reverse_perm _).nodup_iff.mpr hnd
  refine kind_T2 (by omega) hk ?_
  have := kwp_T2 (prog := prog) (w := w) (A := A.in1) (s := { s with heap := h' }) (us := us.reverse) (Q := fun p s'' => KasFin h₀ L m l e1 (p.toList.map fun i => us.reverse.getD i Value.none).reverse (fun s3 => ∃ r, PySem.Fin.done (.ret .none) = .done (.ret r) ∧ Q r s3) s'') (by simp; omega) hkr hnr fun p hp hrr =>
    KasFin.intro F' N' (.head hr) fun h2 c F2 N2 => ⟨_, rfl, h _ c h2 ((List.reverse_perm _).trans (hp.trans (List.reverse_perm _))) (by rw [List.reverse_reverse]; exact hrr) F2 N2⟩
  rw [List.length_reverse] at this
  exact this
end
end Mine

namespace Mine
open PyProof.Rows
theorem kle_of_not {k l : Int × Int} (h : klt k l = false) : kle l k := klt_false h
section
variable {prog : Program} {w : World} {A : Around} {E : Value → Shared → Prop} {h₀ : Heap} {L l : Addr} {m : Str → Option Value} {news : List (Addr × Obj)} {us : List Value} {n : Nat} {κ : Value → Int × Int}

theorem upd_hd {h : Heap} {S : Addr} {its : Array Value} {c : Nat} (f : Array Value → Array Value) (Fm : Fr h₀ L h m) (N : News h₀ L h ((S, listOf its c) :: news)) (hS : ∀ p ∈ news, p.1 ≠ S) :
    ∃ c', Fr h₀ L (h.update S (Obj.mapSeq f)) m ∧ News h₀ L (h.update S (Obj.mapSeq f)) ((S, listOf (f its) c') :: news) := by
  have z := N _ (.head _)
  refine ⟨_, Fm.change (Heap.SameBut.update ..) z.2.1 z.2.2, News.chg N hS (Heap.SameBut.update ..) (PySem.IsL.update z.1 f)⟩

theorem min_loop {I S : Addr} {R : Result → Shared → Prop} (hu : A.units + 8 < cLine) (hh : A.handled = none) (hl : (l, listOf us.toArray n) ∈ news) (hκ : ∀ u ∈ us, T2s news u (κ u)) (hnd : (us.map κ).Nodup)
    (hI : ∀ p ∈ news, p.1 ≠ I) (hS : ∀ p ∈ news, p.1 ≠ S) (hIS : I ≠ S) :
    ∀ (k j : Nat) (s : Shared) (b c : Nat) (o : Obj), us.length - (j + 1) = k → j + 1 ≤ us.length → Fr h₀ L s.heap m → News h₀ L s.heap ((S, listOf #[us.getD b .none, us.getD b .none] c) :: (I, o) :: news) → ListIt o l (j + 1) →
      b ≤ j → (∀ i, i ≤ j → kle (κ (us.getD b .none)) (κ (us.getD i .none))) →
      (∀ b h' tk, b < us.length → (∀ i, i < us.length → kle (κ (us.getD b .none)) (κ (us.getD i .none))) → Fr h₀ L h' m → News h₀ L h' news → R (.ok (.ret (us.getD b .none))) { s with heap := h', toks := tk }) →
      codeAny (model prog w) A (.builtin "min.loop" ⟨[.ref I, .none, .ref S], []⟩) R s := by
  have hname : (toString "min" ++ toString ".loop" : String) = "min.loop" := by decide
  have hu1 : A.in1.units < cLine := by show A.units + 1 < cLine; omega
  have hSI : ∀ p ∈ (I, (default : Obj)) :: news, p.1 ≠ S := fun p hp => by
    rcases List.mem_cons.mp hp with rfl | hp
    · exact hIS
    · exact hS p hp
  have hIS' : ∀ (x : Obj), ∀ p ∈ (S, x) :: news, p.1 ≠ I := fun x p hp => by
    rcases List.mem_cons.mp hp with rfl | hp
    · exact hIS.symm
    · exact hI p hp
  intro k
  induction k with
  | zero =>
    intro j s b c o hk hj Fm N it hb hmin hR
    have zS := N _ (.head _)
    have hls : s.heap.IsList l us.toArray := ⟨_, (N _ (.tail _ (.tail _ hl))).1, rfl, n, rfl⟩
    refine codeAny_builtin F.entry_min_loop ?_
    rw [Around.under_plainId F.plain_min_loop _]
    show wpAny _ A.in1 (seqItems? (.ref S) >>= _) _ _ s
    refine wpAny_bind (wpAny_seqItems zS.1 rfl ?_)
    show wpAny _ A.in1 (tryCatch (pyNext (.ref I)) _ >>= _) _ _ s
    refine wpAny_bind (wpAny_tryCatch (next_list_end hh Fm (News.swap N) (hIS' _) it hls (by omega) fun h' F' N' => ?_))
    have z' := N' _ (.head _)
    show wpAny _ A.in1 (updateSeq S (fun _ => #[]) >>= _) _ _ _
    refine wpAny_bind ?_
    refine wpAny_updateSeq z'.1 rfl (wpAny_bind (wpAny_letGo (wpAny_pure ?_)))
    obtain ⟨c', F2, N2⟩ := upd_hd (fun _ => (#[] : Array Value)) F' N' hS
    exact hR b _ _ (by omega) (fun i hi => hmin i (by omega)) F2 fun p hp => N2 p (.tail _ hp)
  | succ k ih =>
    intro j s b c o hk hj Fm N it hb hmin hR
    have zS := N _ (.head _)
    have hlt : j + 1 < us.length := by omega
    have hls : s.heap.IsList l us.toArray := ⟨_, (N _ (.tail _ (.tail _ hl))).1, rfl, n, rfl⟩
    refine codeAny_builtin F.entry_min_loop ?_
    rw [Around.under_plainId F.plain_min_loop _]
    show wpAny _ A.in1 (seqItems? (.ref S) >>= _) _ _ s
    refine wpAny_bind (wpAny_seqItems zS.1 rfl ?_)
    show wpAny _ A.in1 (tryCatch (pyNext (.ref I)) _ >>= _) _ _ s
    refine wpAny_bind (wpAny_tryCatch (next_list Fm (News.swap N) (hIS' _) it hls hlt fun o' h' F' N' it' => ?_))
    have N'' := News.swap N'
    show wpAny _ A.in1 (tryCatch (holding [us.getD (j + 1) .none, us.getD (j + 1) .none] (richCompare .Lt (us.getD (j + 1) .none) (us.getD b .none) >>= _)) _ >>= _) _ _ _
    have hne : κ (us.getD (j + 1) .none) ≠ κ (us.getD b .none) := by
      have := nodup_ne (i := j + 1) (j := b) (by simpa using hlt) (by simp; omega) hnd (by omega)
      simp only [List.getElem_map] at this
      rw [getD_lt hlt, getD_lt (by omega)]
      exact this
    have hk1 : ∀ i, i < us.length → T2 h' (us.getD i .none) (κ (us.getD i .none)) := fun i hi => T2s.at N'' ((hκ _ (getD_mem' hi)).more fun p hp => .tail _ (.tail _ hp))
    refine wpAny_bind (wpAny_tryCatch (wpAny_holding (wpAny_bind (lt_T2 hu1 (hk1 _ hlt) (hk1 _ (by omega)) hne ?_))))
    refine wpAny_bind (wpAny_holding (wpAny_truthy_bool ?_))
    refine wpAny_bind (wpAny_letGo (wpAny_pure ?_))
    have hSo : ∀ p ∈ (I, o') :: news, p.1 ≠ S := fun p hp => by
      rcases List.mem_cons.mp hp with rfl | hp
      · exact hIS
      · exact hS p hp
    cases hc : klt (κ (us.getD (j + 1) .none)) (κ (us.getD b .none)) with
    | true =>
      simp only [if_true]
      refine wpAny_bind ?_
      refine wpAny_updateSeq (N'' _ (.head _)).1 rfl (wpAny_bind (wpAny_letGo ?_))
      rw [hname]
      obtain ⟨c', F2, N2⟩ := upd_hd (fun _ => (#[us.getD (j + 1) .none, us.getD (j + 1) .none] : Array Value)) F' N'' hSo
      refine wpAny_pure ⟨plainId_quiet F.plain_min_loop _, ih (j + 1) _ (j + 1) c' o' (by omega) hlt F2 N2 it' (Nat.le_refl _) (fun i hi => ?_) fun b' h'' tk'' hb' hm' F3 N3 => hR b' h'' tk'' hb' hm' F3 N3⟩
      rcases Nat.lt_or_ge i (j + 1) with h1 | h1
      · exact kle_trans (klt_true hc) (hmin i (by omega))
      · have : i = j + 1 := by omega
        rw [this]; exact kle_refl _
    | false =>
      simp only [Bool.false_eq_true, if_false]
      refine wpAny_bind (wpAny_letGo ?_)
      rw [hname]
      refine wpAny_pure ⟨plainId_quiet F.plain_min_loop _, ih (j + 1) _ b c o' (by omega) hlt F' N'' it' (by omega) (fun i hi => ?_) fun b' h'' tk'' hb' hm' F3 N3 => hR b' h'' tk'' hb' hm' F3 N3⟩
      rcases Nat.lt_or_ge i (j + 1) with h1 | h1
      · exact hmin i (by omega)
      · have : i = j + 1 := by omega
        rw [this]; exact klt_false hc

theorem call_min {s : Shared} {Q : Value → Shared → Prop} (hu : A.units + 9 < cLine) (hh : A.handled = none) (Fm : Fr h₀ L s.heap m) (N : News h₀ L s.heap news) (hl : (l, listOf us.toArray n) ∈ news) (h0 : 0 < us.length) (hκ : ∀ u ∈ us, T2s news u (κ u)) (hnd : (us.map κ).Nodup)
    (h : ∀ b h' tk, b < us.length → (∀ i, i < us.length → kle (κ (us.getD b .none)) (κ (us.getD i .none))) → Fr h₀ L h' m → News h₀ L h' news → Q (us.getD b .none) { s with heap := h', toks := tk }) :
    wpAny (model prog w) A (call (.builtin "min") [.ref l]) Q E s := by
  have hname : (toString "min" ++ toString ".loop" : String) = "min.loop" := by decide
  refine call_function_tree F.kind_min F.plain_min F.entry_min (F.args_min1 _) ?_
  show wpAny _ A.in1 (Builtin.Builtins.bindParams "min" ["key", "default"] 0 ⟨[], []⟩ >>= _) _ _ s
  refine wpAny_bind (wpAny_of_eq (show Builtin.Builtins.bindParams "min" ["key", "default"] 0 ⟨[], []⟩ = pure [none, none] from rfl) ?_)
  refine wpAny_bind (wpAny_pure ?_)
  have hls : s.heap.IsList l us.toArray := ⟨_, (N _ hl).1, rfl, n, rfl⟩
  refine wpAny_bind (iter_list Fm N hls fun I o h1 F1 N1 it1 hI1 hIl => ?_)
  refine wpAny_bind (wpAny_newObj_type ?_)
  rw [hname]
  have F2 := F1.push (listOf ([] : List Value).toArray 0)
  have N2 := N1.push F1 (listOf ([] : List Value).toArray 0)
  have hlt : ∀ p ∈ (I, o) :: news, p.1 < h1.objs.size := fun p hp => Heap.lt_size (N1 p hp).1
  have hI : ∀ p ∈ news, p.1 ≠ I := fun p hp => Nat.ne_of_lt (hI1 p hp)
  have hS : ∀ p ∈ news, p.1 ≠ h1.objs.size := fun p hp => Nat.ne_of_lt (hlt p (.tail _ hp))
  have hIS : I ≠ h1.objs.size := Nat.ne_of_lt (hlt _ (.head _))
  refine wpAny_pure ⟨plainId_quiet F.plain_min_loop _, ?_⟩
  have zS := N2 _ (.head _)
  have hSI : ∀ p ∈ (h1.objs.size, listOf ([] : List Value).toArray 0) :: news, p.1 ≠ I := fun p hp => by
    rcases List.mem_cons.mp hp with rfl | hp
    · exact hIS.symm
    · exact hI p hp
  refine codeAny_builtin F.entry_min_loop ?_
  rw [Around.under_plainId F.plain_min_loop _]
  have hls2 : (h1.push (listOf ([] : List Value).toArray 0)).IsList l us.toArray := ⟨_, (N2 _ (.tail _ (.tail _ hl))).1, rfl, n, rfl⟩
  show wpAny _ A.in1 (seqItems? (.ref h1.objs.size) >>= _) _ _ _
  refine wpAny_bind (wpAny_seqItems zS.1 rfl ?_)
  show wpAny _ A.in1 (tryCatch (pyNext (.ref I)) _ >>= _) _ _ _
  refine wpAny_bind (wpAny_tryCatch (next_list F2 (News.swap N2) hSI it1 hls2 h0 fun o' h' F' N' it' => ?_))
  have N'' := News.swap N'
  show wpAny _ A.in1 (updateSeq h1.objs.size (fun _ => #[us.getD 0 .none, us.getD 0 .none]) >>= _) _ _ _
  refine wpAny_bind ?_
  refine wpAny_updateSeq (N'' _ (.head _)).1 rfl ?_
  rw [hname]
  have hSo : ∀ p ∈ (I, o') :: news, p.1 ≠ h1.objs.size := fun p hp => by
    rcases List.mem_cons.mp hp with rfl | hp
    · exact hIS
    · exact hS p hp
  obtain ⟨c', F3, N3⟩ := upd_hd (fun _ => (#[us.getD 0 .none, us.getD 0 .none] : Array Value)) F' N'' hSo
  refine wpAny_pure ⟨plainId_quiet F.plain_min_loop _, min_loop (A := A) (by omega) hh hl hκ hnd hI hS hIS _ 0 _ 0 c' o' rfl h0 F3 N3 it' (Nat.le_refl _) (fun i hi => ?_) fun b' h'' tk'' hb' hm' F4 N4 => h b' h'' tk'' hb' hm' F4 N4⟩
  have : i = 0 := by omega
  rw [this]; exact kle_refl _
end
end Mine

namespace Mine
open PyProof.Rows
section
variable {prog : Program} {w : World} {A : Around} {E : Value → Shared → Prop} {s : Shared} {h₀ : Heap} {L l : Addr} {m : Str → Option Value} {news : List (Addr × Obj)} {us : List Value} {n : Nat} {κ : Value → Int × Int}

theorem eq_T2_ne {u v : Value} {k k' : Int × Int} {Q : Value → Shared → Prop} (hu : A.units < cLine) (hx : T2 s.heap u k) (hy : T2 s.heap v k') (hne : k ≠ k') (h : Q (.bool false) s) :
    wpAny (model prog w) A (richCompare .Eq u v) Q E s := by
  obtain ⟨a, n, t1, t2, x, rfl, ha⟩ := hx
  obtain ⟨b, m, u1, u2, y, rfl, hb⟩ := hy
  obtain ⟨k1, k2⟩ := k
  obtain ⟨l1, l2⟩ := k'
  refine wpAny_richCompare_same_room (op := .Eq) ⟨_, ha, rfl⟩ ⟨_, hb, rfl⟩ slot_tuple_eq (wpAny_call_entry slot_tuple_eq ⟨_, ha, rfl⟩ entry_tuple_eq ?_ (args_tuple_eq _ _)) hu
  show wpAny _ _ (isInstance (.ref b) (.type "tuple") >>= _) _ _ s
  refine wpAny_bind (wpAny_isInstance ⟨_, hb, rfl⟩ isSubtype_tuple_tuple ?_)
  simp only [Bool.not_true, Bool.false_eq_true, if_false]
  refine wpAny_bind (wpAny_tupleItemsOf ha rfl ?_)
  refine wpAny_bind (wpAny_tupleItemsOf hb rfl ?_)
  simp only [List.zip_cons_cons, List.zip_nil_right]
  refine wpAny_bind ?_
  rw [List.forIn_cons]
  refine wpAny_bind (wpAny_bind (wpAny_eqBool_int ?_))
  by_cases h1 : k1 = l1
  · have e1 : (k1 == l1) = true := by simp [h1]
    rw [e1]
    simp only [Bool.not_true, Bool.false_eq_true, if_false]
    refine wpAny_pure ?_
    dsimp only
    rw [List.forIn_cons]
    refine wpAny_bind (wpAny_bind (wpAny_eqBool_int ?_))
    have h2 : k2 ≠ l2 := fun q => hne (by rw [h1, q])
    have e2 : (k2 == l2) = false := by simp [h2]
    rw [e2]
    simp only [Bool.not_false, if_true]
    exact wpAny_bind (wpAny_pure (wpAny_pure (wpAny_pure (wpAny_pure ⟨_, rfl, (fun e => nomatch e), h⟩))))
  · have e1 : (k1 == l1) = false := by simp [h1]
    rw [e1]
    simp only [Bool.not_false, if_true]
    exact wpAny_bind (wpAny_pure (wpAny_pure (wpAny_pure (wpAny_pure ⟨_, rfl, (fun e => nomatch e), h⟩))))

theorem eqBool_T2_ne {u v : Value} {k k' : Int × Int} {Q : Bool → Shared → Prop} (hu : A.units < cLine) (hx : T2 s.heap u k) (hy : T2 s.heap v k') (hne : k ≠ k') (h : Q false s) :
    wpAny (model prog w) A (eqBool u v) Q E s := by
  have huv : u ≠ v := by
    rintro rfl
    obtain ⟨a, n, t1, t2, x, rfl, ha⟩ := hx
    obtain ⟨b, m, u1, u2, y, e, hb⟩ := hy
    cases e
    rw [ha] at hb
    injection hb with hb
    injection hb with _ _ hb _
    injection hb with hb _
    have hb := congrArg Array.toList hb
    simp at hb
    exact hne (Prod.ext hb.1.1 hb.2.1.1)
  have hab : (u == v) = false := by simpa using huv
  obtain ⟨a, n, t1, t2, x, rfl, ha⟩ := id hx
  obtain ⟨b, m', u1, u2, y, rfl, hb⟩ := id hy
  unfold eqBool
  try with_reducible refine wpAny_holding ?_
  show wpAny _ _ (if (Value.ref a == Value.ref b) = true then _ else _) Q E s
  rw [if_neg (by rw [hab]; exact Bool.false_ne_true)]
  exact wpAny_bind (eq_T2_ne hu hx hy hne (wpAny_truthy_bool h))

theorem eqBool_same {u : Value} {Q : Bool → Shared → Prop} (h : Q true s) : wpAny (model prog w) A (eqBool u u) Q E s := by
  unfold eqBool
  try with_reducible refine wpAny_holding ?_
  show wpAny _ _ (if (u == u) = true then _ else _) Q E s
  rw [if_pos (beq_self_eq_true u)]
  exact wpAny_bind (wpAny_rule (wpAny_pure h))

/-- the two are told apart over the ledger -/
def Apart (prog : Program) (w : World) (A : Around) (h₀ : Heap) (L : Addr) (news : List (Addr × Obj)) (u v : Value) : Prop :=
  ∀ (s : Shared) (Q : Bool → Shared → Prop) (E : Value → Shared → Prop), News h₀ L s.heap news → Q false s → wpAny (model prog w) A (eqBool u v) Q E s
theorem apart_T2 {u v : Value} {k k' : Int × Int} (hu : A.units < cLine) (hx : T2s news u k) (hy : T2s news v k') (hne : k ≠ k') : Apart prog w A h₀ L news u v :=
  fun _ _ _ N h => eqBool_T2_ne hu (T2s.at N hx) (T2s.at N hy) hne h

theorem remove_loop {R : Result → Shared → Prop} {v : Value} {j : Nat} (hj : j < us.length) (hz : us.length ≤ 10000) (hit : us.getD j .none = v) (hr : ∀ p ∈ news, p.1 ≠ l)
    (hne : ∀ i, i < j → Apart prog w A.in1 h₀ L ((l, listOf us.toArray n) :: news) (us.getD i .none) v) :
    ∀ (k i : Nat) (s : Shared), j - i = k → i ≤ j → Fr h₀ L s.heap m → News h₀ L s.heap ((l, listOf us.toArray n) :: news) →
      (∀ h' n', Fr h₀ L h' m → News h₀ L h' ((l, listOf (us.eraseIdx j).toArray n') :: news) → R (.ok (.ret .none)) { s with heap := h' }) →
      codeAny (model prog w) A (.builtin "list.remove.loop" ⟨[.ref l, v, rawInt i], []⟩) R s := by
  intro k
  induction k with
  | zero =>
    intro i s hk hij Fm N hR
    have hij' : i = j := by omega
    subst hij'
    have z := N _ (.head _)
    refine codeAny_builtin PySem.MeetsSeq.entry_remove_loop ?_
    rw [Around.under_plainId PySem.MeetsSeq.plain_remove_loop _]
    show wpAny _ _ (Builtin.List.listItems (.ref l) >>= _) _ _ s
    refine wpAny_bind (listItems_at z.1 rfl ?_)
    have hi : us.toArray[((i : Nat) : Int).toNat]? = some v := by rw [← hit, getD_lt hj]; simp [hj]
    rw [hi]
    refine wpAny_bind (eqBool_same ?_)
    simp only [if_true]
    have hf : us.toArray.eraseIdxIfInBounds i = (us.eraseIdx i).toArray := by
      unfold Array.eraseIdxIfInBounds
      rw [dif_pos (by simpa using hj)]
      apply Array.toList_inj.mp
      simp
    obtain ⟨c', F2, N2⟩ := upd_hd (fun xs => xs.eraseIdxIfInBounds i) Fm N hr
    rw [hf] at N2
    refine wpAny_bind ?_
    show wpAny _ _ (updateSeq l (fun xs => xs.eraseIdxIfInBounds ((i : Nat) : Int).toNat)) _ _ s
    refine wpAny_updateSeq z.1 rfl (wpAny_pure (hR _ c' F2 N2)) (by rw [List.size_toArray, sizeLine_eq]; omega) ?_
    show (us.toArray.eraseIdxIfInBounds i).size ≤ _
    rw [hf, List.size_toArray, List.length_eraseIdx, sizeLine_eq]
    split <;> omega
  | succ k ih =>
    intro i s hk hij Fm N hR
    have z := N _ (.head _)
    have hlt : i < us.length := by omega
    refine codeAny_builtin PySem.MeetsSeq.entry_remove_loop ?_
    rw [Around.under_plainId PySem.MeetsSeq.plain_remove_loop _]
    show wpAny _ _ (Builtin.List.listItems (.ref l) >>= _) _ _ s
    refine wpAny_bind (listItems_at z.1 rfl ?_)
    have hi : us.toArray[((i : Nat) : Int).toNat]? = some (us.getD i .none) := by rw [getD_lt hlt]; simp [hlt]
    rw [hi]
    refine wpAny_bind (hne i (by omega) _ _ _ N ?_)
    simp only [Bool.false_eq_true, if_false]
    have hc : ((i : Int) + 1) = ((i + 1 : Nat) : Int) := by push_cast; rfl
    show wpAny _ _ (again (.builtin "list.remove.loop" ⟨[.ref l, v, rawInt ((i : Int) + 1)], []⟩)) _ _ s
    rw [hc]
    exact wpAny_pure ⟨plainId_quiet PySem.MeetsSeq.plain_remove_loop _, ih (i + 1) s (by omega) (by omega) Fm N hR⟩

theorem call_remove {v : Value} {j : Nat} {Q : Value → Shared → Prop} (Fm : Fr h₀ L s.heap m) (N : News h₀ L s.heap ((l, listOf us.toArray n) :: news)) (hr : ∀ p ∈ news, p.1 ≠ l) (hj : j < us.length) (hz : us.length ≤ 10000) (hit : us.getD j .none = v)
    (hne : ∀ i, i < j → Apart prog w A.in1 h₀ L ((l, listOf us.toArray n) :: news) (us.getD i .none) v)
    (h : ∀ h' n', Fr h₀ L h' m → News h₀ L h' ((l, listOf (us.eraseIdx j).toArray n') :: news) → Q .none { s with heap := h' }) :
    wpAny (model prog w) A (call (.builtin "list.remove") [.ref l, v]) Q E s := by
  have z := N _ (.head _)
  refine wpAny_call (codeAny_call_builtin F.slot_list_remove.plain F.entry_list_remove (F.slot_list_remove.check _ _ _ _ _ _ _ _ ⟨_, z.1, rfl⟩ (F.args_list_remove_2 _ _) ?_))
  unfold Builtin.«list.remove»
  refine wpAny_bind (wpAny_of_eq (a := (Value.ref l, v)) rfl ?_)
  exact wpAny_pure ⟨plainId_quiet PySem.MeetsSeq.plain_remove_loop _, remove_loop hj hz hit hr hne _ 0 s rfl (Nat.zero_le _) Fm N h⟩
theorem getm_remove {pl : Sem Bool} {Q : Value × List Value → Shared → Prop} (N : News h₀ L s.heap news) (hm : (l, listOf us.toArray n) ∈ news)
    (h : Q (.builtin "list.remove", [.ref l]) s) : wpAny (model prog w) A (getMethod (.ref l) "remove" pl) Q E s := kl_method N hm F.slot_list_remove F.type_list_remove h
end
end Mine

namespace Mine
open PyProof.Rows
theorem rises_one {κ : Value → Int × Int} {us vs : List Value} (hp : us.Perm vs) (h1 : Rises κ us) (h2 : Rises κ vs) : us = vs := by
  refine List.Perm.eq_of_pairwise (le := fun u v => klt (κ u) (κ v) = true) (fun a b _ _ h1 h2 => ?_) h1 h2 hp
  have h3 := klt_trans h1 h2
  unfold klt at h3
  rw [decide_eq_true_eq] at h3
  omega

section
variable {prog : Program} {w : World} {A : Around} {E : Value → Shared → Prop} {s : Shared} {h₀ : Heap} {L l l' : Addr} {m : Str → Option Value} {news : List (Addr × Obj)} {us vs : List Value} {n n' : Nat} {κ : Value → Int × Int} {Q : Value → Shared → Prop}

theorem eqAt_same (A : Around) (s : Shared) (v : Value) : SeqAt.EqAt A s v v true := fun _ _ _ _ h => eqBool_same h

theorem all_true (n : Nat) : (List.range n).all (fun _ => true) = true := by simp

theorem ne_lists_same (N : News h₀ L s.heap news) (h1 : (l, listOf us.toArray n) ∈ news) (h2 : (l', listOf us.toArray n') ∈ news) (hu : A.units < cLine) (h : Q (.bool false) s) :
    wpAny (model prog w) A (compareOp .NotEq (.ref l) (.ref l')) Q E s := by
  have z1 : s.heap.IsList l us.toArray := ⟨_, (N _ h1).1, rfl, n, rfl⟩
  have z2 : s.heap.IsList l' us.toArray := ⟨_, (N _ h2).1, rfl, n', rfl⟩
  refine SeqAt.RcNeAt.lists (e := fun _ => true) z1 z2 rfl hu (fun j _ _ => eqAt_same _ _ _) prog w E Q ?_
  rw [all_true]
  exact h

theorem ne_lists_len (N : News h₀ L s.heap news) (h1 : (l, listOf us.toArray n) ∈ news) (h2 : (l', listOf vs.toArray n') ∈ news) (hl : us.length ≠ vs.length) (hu : A.units < cLine) (h : Q (.bool true) s) :
    wpAny (model prog w) A (compareOp .NotEq (.ref l) (.ref l')) Q E s := by
  have z1 : s.heap.IsList l us.toArray := ⟨_, (N _ h1).1, rfl, n, rfl⟩
  have z2 : s.heap.IsList l' vs.toArray := ⟨_, (N _ h2).1, rfl, n', rfl⟩
  exact SeqAt.RcNeAt.lists_lengths z1 z2 (by simpa using hl) hu prog w E Q h

theorem ne_T2_same {u : Value} {k : Int × Int} (hx : T2 s.heap u k) (hu : A.units < cLine) (h : Q (.bool false) s) :
    wpAny (model prog w) A (compareOp .NotEq u u) Q E s := by
  obtain ⟨a, n, t1, t2, x, rfl, ha⟩ := hx
  have z : s.heap.IsTuple a [.int k.1 t1, .int k.2 t2, x].toArray := ⟨_, ha, rfl, n, rfl⟩
  refine SeqAt.RcNeAt.tuples (e := fun _ => true) z z hu (fun j _ _ => eqAt_same _ _ _) prog w E Q ?_
  rw [all_true]
  simpa using h
end
end Mine

namespace Mine
open PyProof.Rows
/-- a tuple of three ints -/
def T3s (news : List (Addr × Obj)) (v : Value) (k : Int × Int × Int) : Prop := ∃ a n t1 t2 t3, v = .ref a ∧ (a, tupOf [.int k.1 t1, .int k.2.1 t2, .int k.2.2 t3] n) ∈ news
theorem T3s.more {news news' : List (Addr × Obj)} {v : Value} {k : Int × Int × Int} (x : T3s news v k) (hs : ∀ p ∈ news, p ∈ news') : T3s news' v k := by
  obtain ⟨a, n, t1, t2, t3, e, ho⟩ := x
  exact ⟨a, n, t1, t2, t3, e, hs _ ho⟩
theorem T3s.tail {p : Addr × Obj} {news : List (Addr × Obj)} {v : Value} {k : Int × Int × Int} (x : T3s news v k) : T3s (p :: news) v k := x.more fun _ h => .tail _ h
theorem T3s.two {news : List (Addr × Obj)} {v : Value} {k : Int × Int × Int} (x : T3s news v k) : T2s news v (k.1, k.2.1) := by
  obtain ⟨a, n, t1, t2, t3, e, ho⟩ := x
  exact ⟨a, n, t1, t2, _, e, ho⟩
theorem allLt_mem {d : Addr} : ∀ {l : List (Addr × Obj)} {p : Addr × Obj}, AllLt d l → p ∈ l → p.1 < d
  | [], _, _, hp => nomatch hp
  | _ :: _, _, ⟨h1, h2⟩, hp => by
    rcases List.mem_cons.mp hp with rfl | hp
    · exact h1
    · exact allLt_mem h2 hp
theorem rangeSize0 (n : Nat) : Builtin.Range.rangeSize 0 n 1 = n := by
  unfold Builtin.Range.rangeSize
  simp only [show (1 : Int) > 0 by decide, if_true, Int.ediv_one]
  split <;> omega
section
variable {prog : Program} {w : World} {A : Around} {E : Value → Shared → Prop} {s : Shared} {h₀ : Heap} {L C D : Addr} {m mC : Str → Option Value} {news : List (Addr × Obj)} {oC : Obj} {env : Env} {y : Str} {pos : Pos}

theorem comp_load {v : Value} {Q : Value → Shared → Prop} (N : News h₀ L s.heap news) (hO : NsO oC mC) (hv : mC y = some v) (hm : (env.locals, oC) ∈ news) (hk : env.scope.kind = .function) (hl : env.kindOf y = some .local)
    (h : Q v s) (hd : (y == ("__debug__" : Str)) = false := by decide) : wpAny (model prog w) A (eval (.Name y pos) env) Q E s :=
  wpAny_Name (wpAny_loadName_local hk hl (hO.ns (N _ hm).1) hv h) hd

theorem comp_store {x : Addr × Obj} {v : Value} {Q : Unit → Shared → Prop} (F : Fr h₀ L s.heap m) (N : News h₀ L s.heap (x :: (C, oC) :: news)) (hO : NsO oC mC) (hx : x.1 ≠ C) (hoff : ∀ p ∈ news, p.1 ≠ C) (hl : env.kindOf y = some .local) (he : env.locals = C)
    (h : ∀ h' tk oC', Fr h₀ L h' m → News h₀ L h' (x :: (C, oC') :: news) → NsO oC' (fun z => if z = y then some v else mC z) → Q () { s with heap := h', toks := tk })
    (hp : (env.scope.kind == .class || (env.scope.kind == .module && env.locals != env.globals)) = false := by rfl) : wpAny (model prog w) A (assign (.Name y pos) env v) Q E s := by
  have z := N _ (.tail _ (.head _))
  subst he
  refine wpAny_assign_Name (wpAny_storeName_local hl (hO.ns z.1) (fun h' hn hs => ?_) hp)
  obtain ⟨o', ho', hO'⟩ := NsO.of hn
  refine h h' _ o' (F.change hs z.2.1 z.2.2) (fun p hp => ?_) hO'
  rcases List.mem_cons.mp hp with rfl | hp
  · exact ⟨(hs.2 _ hx).trans (N _ (.head _)).1, (N _ (.head _)).2⟩
  · rcases List.mem_cons.mp hp with rfl | hp
    · exact ⟨ho', z.2⟩
    · exact ⟨(hs.2 _ (hoff p hp)).trans (N _ (.tail _ (.tail _ hp))).1, (N _ (.tail _ (.tail _ hp))).2⟩
/-- the comp's end: its own names are let go, the list stands -/
theorem comp_end {acc : List Value} {n : Nat} {Q : Shared → Prop} (F : Fr h₀ L s.heap m) (N : News h₀ L s.heap ((D, listOf acc.toArray n) :: (C, oC) :: news)) (hO : NsO oC mC) (hoff : Off news D C) (hne : D ≠ C)
    (k : ∀ h', Fr h₀ L h' m → News h₀ L h' ((D, listOf acc.toArray n) :: news) → (∀ p ∈ news, p.1 ≠ D) → Q { s with heap := h' }) :
    ∃ m, s.heap.Ns C m ∧ ∀ h', Heap.SameBut C s.heap h' → Q { s with heap := h' } := by
  have zC := N _ (.tail _ (.head _))
  refine ⟨mC, hO.ns zC.1, fun h' hs => k h' (F.change hs zC.2.1 zC.2.2) (fun p hp => ?_) fun p hp => (hoff p hp).1⟩
  rcases List.mem_cons.mp hp with rfl | hp
  · have z := N _ (.head _)
    exact ⟨(hs.2 D hne).trans z.1, z.2⟩
  · have z := N _ (.tail _ (.tail _ hp))
    exact ⟨(hs.2 _ (hoff p hp).2).trans z.1, z.2⟩
theorem tup_at {value slice : PySem.Expr} {a : Addr} {xs : List Value} {n : Nat} {k : Int} {u : Tok} (i : Nat) {Q : Value → Shared → Prop} (N : News h₀ L s.heap news) (hm : (a, tupOf xs n) ∈ news) (e : k = i) (hi : i < xs.length) (hz : xs.length < 2 ^ 62)
    (h : Q (xs.getD i .none) s)
    (hs : subscripted slice false (.ref a) (.int k u) = operate [.ref a, .int k u] (getItem (.ref a) (.int k u)) := by with_unfolding_all rfl) (hg : ∀ r, letTemporaryGo value (.ref a) r = pure () := by intro _; with_unfolding_all rfl) :
    wpAny (model prog w) A (subscriptTail value slice (.ref a) (.int k u)) Q E s := by
  subst e
  refine item_tupleL ⟨_, (N _ hm).1, rfl, n, rfl⟩ (by omega) (by omega) (j := i) ?_ (x := xs.getD i .none) (by rw [getD_lt hi]; simp [hi]) h hs hg
  unfold seqIndex?
  simp
  omega
theorem ints_at {vs : List Value} {ns : List Int} (hI : IntsAre vs ns) {i : Nat} (hi : i < ns.length) : ∃ t, vs.getD i .none = .int (ns.getD i 0) t := by
  obtain ⟨t, e⟩ := hI.get i (ns.getD i 0) (by rw [getD_lt hi]; simp [hi])
  refine ⟨t, ?_⟩
  rw [List.getD_eq_getElem?_getD, e]; rfl
theorem tup3_0 {value slice : PySem.Expr} {a : Addr} {x y z : Value} {n : Nat} {u : Tok} {Q : Value → Shared → Prop} (N : News h₀ L s.heap news) (hm : (a, tupOf [x, y, z] n) ∈ news) (h : Q x s)
    (hs : subscripted slice false (.ref a) (.int 0 u) = operate [.ref a, .int 0 u] (getItem (.ref a) (.int 0 u)) := by with_unfolding_all rfl) (hg : ∀ r, letTemporaryGo value (.ref a) r = pure () := by intro _; with_unfolding_all rfl) :
    wpAny (model prog w) A (subscriptTail value slice (.ref a) (.int 0 u)) Q E s := tup_at (xs := [x, y, z]) 0 N hm rfl (by simp) (by simp) h hs hg
theorem tup3_1 {value slice : PySem.Expr} {a : Addr} {x y z : Value} {n : Nat} {u : Tok} {Q : Value → Shared → Prop} (N : News h₀ L s.heap news) (hm : (a, tupOf [x, y, z] n) ∈ news) (h : Q y s)
    (hs : subscripted slice false (.ref a) (.int 1 u) = operate [.ref a, .int 1 u] (getItem (.ref a) (.int 1 u)) := by with_unfolding_all rfl) (hg : ∀ r, letTemporaryGo value (.ref a) r = pure () := by intro _; with_unfolding_all rfl) :
    wpAny (model prog w) A (subscriptTail value slice (.ref a) (.int 1 u)) Q E s := tup_at (xs := [x, y, z]) 1 N hm rfl (by simp) (by simp) h hs hg
theorem tup3_2 {value slice : PySem.Expr} {a : Addr} {x y z : Value} {n : Nat} {u : Tok} {Q : Value → Shared → Prop} (N : News h₀ L s.heap news) (hm : (a, tupOf [x, y, z] n) ∈ news) (h : Q z s)
    (hs : subscripted slice false (.ref a) (.int 2 u) = operate [.ref a, .int 2 u] (getItem (.ref a) (.int 2 u)) := by with_unfolding_all rfl) (hg : ∀ r, letTemporaryGo value (.ref a) r = pure () := by intro _; with_unfolding_all rfl) :
    wpAny (model prog w) A (subscriptTail value slice (.ref a) (.int 2 u)) Q E s := tup_at (xs := [x, y, z]) 2 N hm rfl (by simp) (by simp) h hs hg
end
end Mine

namespace Mine
open PyProof.Rows
abbrev Tri := Int × Int × Int
abbrev Tri.key (x : Tri) : Int × Int := (x.1, x.2.1)
abbrev z3 : Tri := (0, 0, 0)
/-- one work of length t goes to the hand that is free first -/
def Step (t : Int) (ps qs : List Tri) : Prop := ∃ b, b < ps.length ∧ (∀ i, i < ps.length → kle (ps.getD b z3).key (ps.getD i z3).key) ∧ qs = ps.eraseIdx b ++ [((ps.getD b z3).1 + t, (ps.getD b z3).2.1, (ps.getD b z3).2.2 + 1)]
def Run : List Int → List Tri → List Tri → Prop
  | [], ps, qs => qs = ps
  | t :: ts, ps, qs => ∃ rs, Step t ps rs ∧ Run ts rs qs
theorem Run.snoc {t : Int} : ∀ {ts : List Int} {ps qs rs : List Tri}, Run ts ps qs → Step t qs rs → Run (ts ++ [t]) ps rs
  | [], ps, qs, rs, h, hs => by
    have h : qs = ps := h
    subst h
    exact ⟨rs, hs, rfl⟩
  | _ :: ts, ps, qs, rs, ⟨q, h1, h2⟩, hs => ⟨q, h1, Run.snoc h2 hs⟩
/-- the hands at the start -/
def start (hands : Nat) : List Tri := (List.range hands).map fun i : Nat => ((0, (i : Int), 0) : Tri)

/-- the three ints of a tuple, read off the heap -/
def triH (h : Heap) (v : Value) : Tri := match v with
  | .ref a => match h.get? a with
    | some o => match o.data with
      | .seq xs _ => (numOf (xs.getD 0 .none), numOf (xs.getD 1 .none), numOf (xs.getD 2 .none))
      | _ => z3
    | none => z3
  | _ => z3
theorem triH_eq {h₀ h : Heap} {L : Addr} {news : List (Addr × Obj)} {v : Value} {k : Tri} (N : News h₀ L h news) (x : T3s news v k) : triH h v = k := by
  obtain ⟨a, n, t1, t2, t3, rfl, hm⟩ := x
  have e : h.get? a = some (tupOf [Value.int k.1 t1, Value.int k.2.1 t2, Value.int k.2.2 t3] n) := (N _ hm).1
  unfold triH
  dsimp only
  rw [e]
  rfl

theorem key_inj {us : List Value} {κ : Value → Int × Int} (hnd : (us.map κ).Nodup) {u v : Value} (hu : u ∈ us) (hv : v ∈ us) (h : κ u = κ v) : u = v := by
  obtain ⟨i, hi, rfl⟩ := List.getElem_of_mem hu
  obtain ⟨j, hj, rfl⟩ := List.getElem_of_mem hv
  by_cases hij : i = j
  · subst hij; rfl
  · exact absurd (show (us.map κ)[i]'(by simpa using hi) = (us.map κ)[j]'(by simpa using hj) by rw [List.getElem_map, List.getElem_map]; exact h) (nodup_ne (i := i) (j := j) (by simpa using hi) (by simpa using hj) hnd hij)

theorem map_erase {α β : Type} {f : α → β} : ∀ {us : List α} {b : Nat}, (us.map f).eraseIdx b = (us.eraseIdx b).map f
  | [], b => by cases b <;> rfl
  | a :: us, 0 => rfl
  | a :: us, b + 1 => by
    show f a :: (us.map f).eraseIdx b = f a :: (us.eraseIdx b).map f
    rw [map_erase]
theorem erase_perm {α : Type} : ∀ {us : List α} {b : Nat} (hb : b < us.length), us.Perm (us[b] :: us.eraseIdx b)
  | [], b, hb => nomatch hb
  | a :: us, 0, hb => List.Perm.refl _
  | a :: us, b + 1, hb => by
    have := erase_perm (us := us) (b := b) (by simpa using hb)
    exact (List.Perm.cons a this).trans (List.Perm.swap _ _ _)
/-- the reading of the tuples, with a new one -/
def upd (τ : Value → Tri) (v : Value) (x : Tri) : Value → Tri := fun u => if u = v then x else τ u
theorem upd_self {τ : Value → Tri} {v : Value} {x : Tri} : upd τ v x v = x := if_pos rfl
theorem upd_ne {τ : Value → Tri} {u v : Value} {x : Tri} (h : u ≠ v) : upd τ v x u = τ u := if_neg h
/-- the list after the work was given: as values -/
theorem step_map {us : List Value} {τ : Value → Tri} {b : Nat} {v : Value} {x : Tri} (hv : v ∉ us) :
    (us.eraseIdx b ++ [v]).map (upd τ v x) = (us.map τ).eraseIdx b ++ [x] := by
  rw [List.map_append, map_erase]
  congr 1
  · refine List.map_congr_left fun u hu => ?_
    refine upd_ne ?_
    rintro rfl
    exact hv (List.mem_of_mem_eraseIdx hu)
  · rw [List.map_cons, upd_self]; rfl

theorem getD_map {us : List Value} {τ : Value → Tri} {i : Nat} (hi : i < us.length) : (us.map τ).getD i z3 = τ (us.getD i .none) := by
  rw [getD_lt (by simpa using hi), getD_lt hi, List.getElem_map]

/-- the hands' numbers stay apart -/
def Apart2 (τ : Value → Tri) (us : List Value) : Prop := (us.map fun u => (τ u).2.1).Nodup
theorem Apart2.key {τ : Value → Tri} {us : List Value} (h : Apart2 τ us) : (us.map fun u => (τ u).key).Nodup := by
  unfold Apart2 at h
  have e : (us.map fun u => (τ u).2.1) = (us.map fun u => (τ u).key).map Prod.snd := by rw [List.map_map]; rfl
  rw [e] at h
  exact List.Pairwise.of_map _ (fun a b hab e => hab (by rw [e])) h
theorem Apart2.step {τ : Value → Tri} {us : List Value} {b : Nat} {v : Value} {x : Tri} (h : Apart2 τ us) (hb : b < us.length) (hv : v ∉ us) (hx : x.2.1 = (τ (us.getD b .none)).2.1) :
    Apart2 (upd τ v x) (us.eraseIdx b ++ [v]) := by
  unfold Apart2 at *
  have e : (us.eraseIdx b ++ [v]).map (fun u => (upd τ v x u).2.1) = ((us.eraseIdx b ++ [v]).map (upd τ v x)).map (·.2.1) := by rw [List.map_map]; rfl
  rw [e, step_map hv, List.map_append]
  have p := (erase_perm hb).map fun u => (τ u).2.1
  have q : ((us.map τ).eraseIdx b).map (·.2.1) = (us.eraseIdx b).map fun u => (τ u).2.1 := by rw [map_erase, List.map_map]; rfl
  rw [q]
  have r : ((us.eraseIdx b).map (fun u => (τ u).2.1) ++ [x].map (·.2.1)).Perm (us.map fun u => (τ u).2.1) := by
    refine (List.perm_append_comm).trans ?_
    refine List.Perm.trans ?_ p.symm
    simp only [List.map_cons, List.map_nil, List.cons_append, List.nil_append]
    rw [hx, getD_lt hb]
  exact r.nodup_iff.mpr h
/-- the heap after the work was given holds what the list holds -/
theorem swap_perm {hs ps : List Value} {b : Nat} {v : Value} (hp : hs.Perm ps) (hb : b < ps.length) (h0 : 0 < hs.length) (he : hs.getD 0 .none = ps.getD b .none) : (hs.set 0 v).Perm (ps.eraseIdx b ++ [v]) := by
  cases hs with
  | nil => cases h0
  | cons a r =>
    have e : a = ps[b] := by rw [getD_lt hb] at he; simpa using he
    have h2 := hp.trans (erase_perm hb)
    rw [e] at h2
    have h3 := List.Perm.cons_inv h2
    simp only [List.set_cons_zero]
    exact (List.Perm.cons v h3).trans (List.perm_append_comm (l₁ := [v]))
end Mine

namespace Mine
open PyProof.Rows
section
variable {prog : Program} {w : World} {A : Around} {E : Value → Shared → Prop} {s : Shared} {h₀ : Heap} {L l l' : Addr} {news : List (Addr × Obj)} {us vs : List Value} {n n' : Nat} {Q : Value → Shared → Prop} {τ : Value → Tri}

theorem items_T3 {s : Shared} {a b c : Int} {t1 t2 t3 u1 u2 u3 : Tok} (A : Around) (j : Nat) (h1 : j < [Value.int a t1, .int b t2, .int c t3].toArray.size) (h2 : j < [Value.int a u1, .int b u2, .int c u3].toArray.size) :
    SeqAt.EqAt A s ([Value.int a t1, .int b t2, .int c t3].toArray[j]) ([Value.int a u1, .int b u2, .int c u3].toArray[j]) true := by
  have e : ∀ (x : Int) (t u : Tok), SeqAt.EqAt A s (.int x t) (.int x u) true := fun x t u => by
    have := SeqAt.EqAt.int_int (A := A) (s := s) x t x u
    rwa [beq_self_eq_true] at this
  match j, h1 with
  | 0, _ => exact e _ _ _
  | 1, _ => exact e _ _ _
  | 2, _ => exact e _ _ _

theorem ne_T3 {u v : Value} {k : Tri} (N : News h₀ L s.heap news) (hx : T3s news u k) (hy : T3s news v k) (hu : A.units < cLine) (h : Q (.bool false) s) :
    wpAny (model prog w) A (compareOp .NotEq u v) Q E s := by
  obtain ⟨a, n, t1, t2, t3, rfl, ha⟩ := hx
  obtain ⟨b, m, u1, u2, u3, rfl, hb⟩ := hy
  have z1 : s.heap.IsTuple a [.int k.1 t1, .int k.2.1 t2, .int k.2.2 t3].toArray := ⟨_, (N _ ha).1, rfl, n, rfl⟩
  have z2 : s.heap.IsTuple b [.int k.1 u1, .int k.2.1 u2, .int k.2.2 u3].toArray := ⟨_, (N _ hb).1, rfl, m, rfl⟩
  refine SeqAt.RcNeAt.tuples (e := fun _ => true) z1 z2 hu (fun j h1 h2 => items_T3 _ _ h1 h2) prog w E Q ?_
  rw [all_true]
  simpa using h
theorem eqAt_T3 {u v : Value} {k : Tri} (N : News h₀ L s.heap news) (hx : T3s news u k) (hy : T3s news v k) (hu : A.units < cLine) : SeqAt.EqAt A s u v true := by
  by_cases huv : u = v
  · subst huv; exact SeqAt.EqAt.same _
  · obtain ⟨a, n, t1, t2, t3, rfl, ha⟩ := hx
    obtain ⟨b, m, u1, u2, u3, rfl, hb⟩ := hy
    have z1 : s.heap.IsTuple a [.int k.1 t1, .int k.2.1 t2, .int k.2.2 t3].toArray := ⟨_, (N _ ha).1, rfl, n, rfl⟩
    have z2 : s.heap.IsTuple b [.int k.1 u1, .int k.2.1 u2, .int k.2.2 u3].toArray := ⟨_, (N _ hb).1, rfl, m, rfl⟩
    have := SeqAt.RcAt.tuples (A := A) (s := s) (e := fun _ => true) z1 z2 hu (fun j h1 h2 => items_T3 _ _ h1 h2)
    rw [all_true] at this
    exact SeqAt.EqAt.of_refs (fun q => huv (by rw [q])) (by simpa using this)

theorem ne_lists_T3 (N : News h₀ L s.heap news) (h1 : (l, listOf us.toArray n) ∈ news) (h2 : (l', listOf vs.toArray n') ∈ news) (hx : ∀ u ∈ us, T3s news u (τ u)) (hy : ∀ u ∈ vs, T3s news u (τ u)) (he : us.map τ = vs.map τ) (hu : A.units + 2 < cLine) (h : Q (.bool false) s) :
    wpAny (model prog w) A (compareOp .NotEq (.ref l) (.ref l')) Q E s := by
  have z1 : s.heap.IsList l us.toArray := ⟨_, (N _ h1).1, rfl, n, rfl⟩
  have z2 : s.heap.IsList l' vs.toArray := ⟨_, (N _ h2).1, rfl, n', rfl⟩
  have hl : us.length = vs.length := by simpa using congrArg List.length he
  refine SeqAt.RcNeAt.lists (e := fun _ => true) z1 z2 (by simpa using hl) (by omega) (fun j a1 a2 => ?_) prog w E Q ?_
  · have b1 : j < us.length := by simpa using a1
    have b2 : j < vs.length := by simpa using a2
    have et : τ us[j] = τ vs[j] := by
      have : (us.map τ)[j]'(by simpa using b1) = (vs.map τ)[j]'(by simpa using b2) := by
        congr 1
      simpa using this
    have x1 := hx us[j] (List.getElem_mem _)
    have x2 := hy vs[j] (List.getElem_mem _)
    rw [et] at x1
    have := eqAt_T3 (A := A.in1) N x1 x2 (by show A.units + 1 < cLine; omega)
    simpa using this
  · rw [all_true]
    exact h

theorem Apart2.of_map {hs ps : List Value} (hp : (hs.map τ).Perm (ps.map τ)) (h : Apart2 τ ps) : Apart2 τ hs := by
  unfold Apart2 at *
  have := hp.map (·.2.1)
  rw [List.map_map, List.map_map] at this
  exact this.nodup_iff.mpr h

theorem tri_inj {hs ps : List Value} (hp : (hs.map τ).Perm (ps.map τ)) (h : Apart2 τ ps) {u v : Value} (hu : u ∈ hs) (hv : v ∈ ps) (e : (τ u).key = (τ v).key) : τ u = τ v := by
  have : τ u ∈ ps.map τ := hp.mem_iff.mp (List.mem_map_of_mem hu)
  obtain ⟨x, hx, ex⟩ := List.mem_map.mp this
  have := key_inj h.key hx hv (by rw [ex]; exact e)
  rw [← ex, this]

theorem tri_head {hs ps : List Value} {b : Nat} (hp : (hs.map τ).Perm (ps.map τ)) (h : Apart2 τ ps) (hh : HeapFrom (fun u => (τ u).key) hs 0) (h0 : 0 < hs.length) (hb : b < ps.length) (hm : ∀ i, i < ps.length → kle (τ (ps.getD b .none)).key (τ (ps.getD i .none)).key) :
    τ (hs.getD 0 .none) = τ (ps.getD b .none) := by
  have m1 := getD_mem' (d := Value.none) h0
  have m2 := getD_mem' (d := Value.none) hb
  refine tri_inj hp h m1 m2 (kle_anti ?_ ?_)
  · have : τ (ps.getD b .none) ∈ hs.map τ := hp.mem_iff.mpr (List.mem_map_of_mem m2)
    obtain ⟨x, hx, ex⟩ := List.mem_map.mp this
    rw [← ex]
    exact heap_min_mem hh x hx
  · have : τ (hs.getD 0 .none) ∈ ps.map τ := hp.mem_iff.mp (List.mem_map_of_mem m1)
    obtain ⟨x, hx, ex⟩ := List.mem_map.mp this
    obtain ⟨i, hi, rfl⟩ := List.getElem_of_mem hx
    have := hm i hi
    rw [getD_lt hi] at this
    rw [← ex]
    exact this

theorem sorted_map_eq {hs ps us₁ us₂ : List Value} (hp : (hs.map τ).Perm (ps.map τ)) (p1 : us₁.Perm hs) (p2 : us₂.Perm ps) (r1 : Rises (fun u => (τ u).key) us₁) (r2 : Rises (fun u => (τ u).key) us₂) : us₁.map τ = us₂.map τ := by
  refine List.Perm.eq_of_pairwise (le := fun a b : Tri => klt a.key b.key = true) (fun a b _ _ h1 h2 => ?_) (List.pairwise_map.mpr r1) (List.pairwise_map.mpr r2) ((p1.map τ).trans (hp.trans (p2.map τ).symm))
  have h3 := klt_trans h1 h2
  unfold klt at h3
  rw [decide_eq_true_eq] at h3
  omega

/-- the heap without its top -/
theorem pop_perm {hs : List Value} (h : 1 < hs.length) : (hs.getD 0 .none :: hs.dropLast.set 0 (hs.getD (hs.length - 1) .none)).Perm hs := by
  cases hs with
  | nil => simp at h
  | cons a r =>
    have hr : 0 < r.length := by simp at h; omega
    obtain ⟨q, z, rfl⟩ : ∃ q z, r = q ++ [z] := ⟨r.dropLast, r.getLast (by intro e; simp [e] at hr), (List.dropLast_concat_getLast _).symm⟩
    have e1 : (a :: (q ++ [z])).getD ((a :: (q ++ [z])).length - 1) .none = z := by simp
    have e2 : (a :: (q ++ [z])).dropLast = a :: q := by
      rw [← List.cons_append, List.dropLast_concat]
    rw [e1, e2]
    simp only [List.set_cons_zero, List.getD_cons_zero]
    exact List.Perm.cons a (List.perm_append_comm (l₁ := [z]))

/-- the heap holds what the list holds, after a work was given -/
theorem give_map {hs hs' ps : List Value} {b : Nat} {v : Value} {x : Tri} (hp : (hs.map τ).Perm (ps.map τ)) (hb : b < ps.length) (hv : v ∉ ps) (hv' : v ∉ hs) (he : τ (hs.getD 0 .none) = τ (ps.getD b .none))
    (hq : (hs.getD 0 .none :: hs').Perm hs) : ((hs' ++ [v]).map (upd τ v x)).Perm ((ps.eraseIdx b ++ [v]).map (upd τ v x)) := by
  rw [step_map hv, List.map_append, map_erase]
  have e1 : hs'.map (upd τ v x) = hs'.map τ := List.map_congr_left fun u hu => upd_ne (by
    rintro rfl
    exact hv' (hq.mem_iff.mp (.tail _ hu)))
  rw [e1, List.map_cons, upd_self]
  refine List.Perm.append_right [x] ?_
  have h1 : (τ (hs.getD 0 .none) :: hs'.map τ).Perm (hs.map τ) := hq.map τ
  have h2 := h1.trans (hp.trans ((erase_perm hb).map τ))
  rw [List.map_cons, he, getD_lt hb] at h2
  exact List.Perm.cons_inv h2

theorem sdn_end_perm {κ : Value → Int × Int} {us : List Value} {v : Value} : (sdn κ (us ++ [v]) v 0 us.length).Perm (us ++ [v]) := by
  have := sdn_perm (κ := κ) (x := v) (start := 0) us.length (us ++ [v]) (by simp)
  have e : (us ++ [v]).set us.length v = us ++ [v] := by simp
  rw [e] at this
  exact this

theorem heap_upd {hs : List Value} {v : Value} {x : Tri} (hv : v ∉ hs) (h : HeapFrom (fun u => (τ u).key) hs 0) : HeapFrom (fun u => (upd τ v x u).key) hs 0 := fun i i0 hi i1 => by
  have e1 : hs.getD ((i - 1) / 2) .none ∈ hs := getD_mem' (by omega)
  have e2 : hs.getD i .none ∈ hs := getD_mem' hi
  dsimp only
  rw [upd_ne (by intro e; rw [e] at e1; exact hv e1), upd_ne (by intro e; rw [e] at e2; exact hv e2)]
  exact h i i0 hi i1
theorem heap_pop {κ : Value → Int × Int} {hs : List Value} {v : Value} (h1 : 1 < hs.length) (h : HeapFrom κ hs 0) : HeapFrom κ (siftupL κ (hs.dropLast.set 0 v) 0) 0 :=
  siftupL_heap (by rw [List.length_set, List.length_dropLast]; omega) (heap_set (heap_dropLast h))
theorem siftup_pop_perm {κ : Value → Int × Int} {hs : List Value} (h : 1 < hs.length) : (hs.getD 0 .none :: siftupL κ (hs.dropLast.set 0 (hs.getD (hs.length - 1) .none)) 0).Perm hs :=
  (List.Perm.cons _ (siftupL_perm (by rw [List.length_set, List.length_dropLast]; omega))).trans (pop_perm h)
theorem fresh_T3 {us : List Value} {D : Addr} (h : ∀ u ∈ us, T3s news u (τ u)) (hl : AllLt D news) : Value.ref D ∉ us := fun hm => by
  obtain ⟨a', n', t1, t2, t3, e', hm'⟩ := h _ hm
  injection e' with e'
  rw [e'] at hl
  exact Nat.lt_irrefl _ (allLt_mem hl hm')
theorem map_upd {us : List Value} {v : Value} {x : Tri} (hv : v ∉ us) : us.map (upd τ v x) = us.map τ :=
  List.map_congr_left fun u hu => upd_ne (by rintro rfl; exact hv hu)
theorem map_snoc {us : List Value} {v : Value} {x : Tri} (hv : v ∉ us) : (us ++ [v]).map (upd τ v x) = us.map τ ++ [x] := by
  rw [List.map_append, map_upd hv, List.map_cons, upd_self]; rfl
theorem T3s.upd_old {news' : List (Addr × Obj)} {us : List Value} {v : Value} {x : Tri} (h : ∀ u ∈ us, T3s news u (τ u)) (hv : v ∉ us) (hs : ∀ p ∈ news, p ∈ news') : ∀ u ∈ us, T3s news' u (upd τ v x u) := fun u hu => by
  rw [upd_ne (by rintro rfl; exact hv hu)]
  exact (h u hu).more hs
theorem start_apart (k : Nat) : ((start k).map (·.2.1)).Nodup := by
  unfold start
  rw [List.map_map]
  refine List.Pairwise.map _ (fun a b (hab : a ≠ b) e => hab ?_) List.nodup_range
  have e' : (a : Int) = (b : Int) := by simpa using e
  omega
theorem start_key (k : Nat) : ((start k).map Tri.key).Nodup := by
  have := start_apart k
  have e : (start k).map (·.2.1) = ((start k).map Tri.key).map Prod.snd := by rw [List.map_map]; rfl
  rw [e] at this
  exact List.Pairwise.of_map _ (fun a b hab e => hab (by rw [e])) this
end
end Mine

namespace Mine
open PyProof.Rows
/-- how an iterator at I hands its items on -/
structure ItRule (prog : Program) (w : World) (h₀ : Heap) (L I : Addr) (items : List Value) (base : List (Addr × Obj)) (It : Nat → Obj → Prop) : Prop where
  next : ∀ (A : Around) (E : Value → Shared → Prop) (m : Str → Option Value) (s : Shared) (nn : List (Addr × Obj)) (i : Nat) (o : Obj) (Q : Option Value → Shared → Prop), i < items.length → It i o → Fr h₀ L s.heap m → News h₀ L s.heap ((I, o) :: nn) → (∀ p ∈ nn, p.1 ≠ I) → (∀ p ∈ base, p ∈ nn) →
    (∀ o' h', Fr h₀ L h' m → News h₀ L h' ((I, o') :: nn) → It (i + 1) o' → Q (some (items.getD i .none)) { s with heap := h' }) → wpAny (model prog w) A (pyNext (.ref I)) Q E s
  fin : ∀ (A : Around) (E : Value → Shared → Prop) (m : Str → Option Value) (s : Shared) (nn : List (Addr × Obj)) (i : Nat) (o : Obj) (Q : Option Value → Shared → Prop), A.handled = none → items.length ≤ i → It i o → Fr h₀ L s.heap m → News h₀ L s.heap ((I, o) :: nn) → (∀ p ∈ nn, p.1 ≠ I) → (∀ p ∈ base, p ∈ nn) →
    (∀ h', Fr h₀ L h' m → News h₀ L h' nn → Q none { s with heap := h' }) → wpAny (model prog w) A (pyNext (.ref I)) Q E s
  self : ∀ (A : Around) (E : Value → Shared → Prop) (s : Shared) (i : Nat) (o : Obj) (Q : Value → Shared → Prop), It i o → s.heap.get? I = some o → Q (.ref I) s → wpAny (model prog w) A (pyIter (.ref I)) Q E s

theorem ints_of : ∀ {ns : List Int} {acc : List Value}, acc.length = ns.length → (∀ i, i < ns.length → ∃ t, acc.getD i .none = .int (ns.getD i 0) t) → IntsAre acc ns
  | [], [], _, _ => .nil
  | [], _ :: _, hl, _ => by simp at hl
  | _ :: _, [], hl, _ => by simp at hl
  | n :: ns, v :: acc, hl, h => by
    obtain ⟨t, e⟩ := h 0 (by simp)
    simp only [List.getD_cons_zero] at e
    rw [e]
    refine .cons n t (ints_of (by simpa using hl) fun i hi => ?_)
    obtain ⟨t, e⟩ := h (i + 1) (by simpa using hi)
    exact ⟨t, by simpa using e⟩
section
variable {prog : Program} {w : World} {A : Around} {E : Value → Shared → Prop} {s : Shared} {h₀ : Heap} {L C D I l : Addr} {m mC : Str → Option Value} {base : List (Addr × Obj)} {oC : Obj} {env : Env} {y : Str} {pos : Pos}

theorem ItRule.list {us : List Value} {n : Nat} (hl : (l, listOf us.toArray n) ∈ base) : ItRule prog w h₀ L I us base (fun i o => ListIt o l i) :=
  ⟨fun A E m s nn i o Q hi it F N hI hb h => next_list F N hI it (News.isList N (.tail _ (hb _ hl))) hi h,
   fun A E m s nn i o Q hh hi it F N hI hb h => next_list_end hh F N hI it (News.isList N (.tail _ (hb _ hl))) hi h,
   fun A E s i o Q it ho h => wpAny_pyIter_listiter (l := l) (i := i) ⟨o, ho, it.1, it.2⟩ h⟩

theorem comp_items {elt : PySem.Expr} {scope : Scope} {cl : List (Str × Addr)} {Done : Value → Addr → Shared → Prop} {items : List Value} {It : Nat → Obj → Prop} {o : Obj} (P : Nat → Value → Prop)
    (R : ItRule prog w h₀ env.locals I items base It) (F : Fr h₀ env.locals s.heap m) (N : News h₀ env.locals s.heap ((I, o) :: base)) (hI : ∀ p ∈ base, p.1 ≠ I) (it : It 0 o) (hh : A.handled = none) (hz : items.length ≤ 10000)
    (hk : ∀ C, (compEnvC scope cl C env).kindOf y = some .local)
    (helt : ∀ (i : Nat) (D C : Addr) (oD oC oI : Obj) (mC : Str → Option Value) (h : Heap) (tk : Nat) (Q : Value → Shared → Prop), i < items.length → Fr h₀ env.locals h m → News h₀ env.locals h ((D, oD) :: (C, oC) :: (I, oI) :: base) → NsO oC mC → mC y = some (items.getD i .none) →
      (∀ x h' tk', Fr h₀ env.locals h' m → News h₀ env.locals h' ((D, oD) :: (C, oC) :: (I, oI) :: base) → P i x → Q x { s with heap := h', toks := tk' }) →
      wpAny (model prog w) A (eval elt (compEnvC scope cl C env)) Q (fun _ _ => False) { s with heap := h, toks := tk })
    (done : ∀ (acc : List Value) (n : Nat) (mC : Str → Option Value) (D C : Addr) (oC : Obj) (h : Heap) (tk : Nat), Fr h₀ env.locals h m → News h₀ env.locals h ((D, listOf acc.toArray n) :: (C, oC) :: base) → NsO oC mC → Off base D C → D ≠ C → acc.length = items.length → (∀ i, i < items.length → P i (acc.getD i .none)) →
      Done (.ref D) C { s with heap := h, toks := tk })
    (hp : ∀ C, (((compEnvC scope cl C env).scope.kind == .class || ((compEnvC scope cl C env).scope.kind == .module && (compEnvC scope cl C env).locals != (compEnvC scope cl C env).globals)) = false) := by intro _; rfl)
    (ht : ∀ v, letOwnedTupleGo (.Name y pos) (.ref I) v = pure () := by intro _; rfl) :
    CompAt prog w A env (.Name y pos) elt scope cl Done (.ref I) s := by
  refine ⟨h₀, m, (I, o) :: base, fun k acc nw => k ≤ items.length ∧ ∃ oI, nw = (I, oI) :: base ∧ It (items.length - k) oI ∧ acc.length = items.length - k ∧ ∀ i, i < items.length - k → P i (acc.getD i .none),
    fun acc nw => nw = base ∧ acc.length = items.length ∧ ∀ i, i < items.length → P i (acc.getD i .none), items.length, F, N, ?_, ?_, ?_, ?_⟩
  · exact ⟨Nat.le_refl _, o, rfl, by rw [Nat.sub_self]; exact it, by simp, fun i hi => absurd hi (by omega)⟩
  · exact fun s' Q' E' N' hq => R.self A E' s' 0 o Q' it (N' _ (.head _)).1 hq
  · rintro D C hDC hlt k acc nw n mC s' ⟨hk', oI, rfl, itI, hlen, hP⟩ ⟨h5, tk5, oC, rfl, F5, N5, hO5, hoff, hne⟩
    change News h₀ env.locals h5 ((D, listOf acc.toArray n) :: (C, oC) :: (I, oI) :: base) at N5
    change Off _ D C at hoff
    change D ≠ C at hne
    have hI0 := hoff (I, oI) (.head _)
    have hoffb : Off base D C := fun p hp => hoff p (.tail _ hp)
    have hoffI : ∀ x, Off ((I, x) :: base) D C := fun x p hp => by
      rcases List.mem_cons.mp hp with rfl | hp
      · exact hI0
      · exact hoffb p hp
    have N5' : News h₀ env.locals h5 ((I, oI) :: (D, listOf acc.toArray n) :: (C, oC) :: base) := News.sub N5 (by simp +contextual)
    have hI5 : ∀ p ∈ (D, listOf acc.toArray n) :: (C, oC) :: base, p.1 ≠ I := List.forall_mem_cons.mpr ⟨Ne.symm hI0.1, List.forall_mem_cons.mpr ⟨Ne.symm hI0.2, hI⟩⟩
    have hb5 : ∀ p ∈ base, p ∈ (D, listOf acc.toArray n) :: (C, oC) :: base := fun p hp => .tail _ (.tail _ hp)
    cases k with
    | zero =>
      refine R.fin A _ m _ _ _ oI _ hh (by omega) itI F5 N5' hI5 hb5 ?_
      intro h6 F6 N6
      exact ⟨base, mC, ⟨h6, _, oC, rfl, F6, N6, hO5, hoffb, hne⟩, rfl, by omega, fun i hi => hP i (by omega)⟩
    | succ k =>
      refine R.next A _ m _ _ (items.length - (k + 1)) oI _ (by omega) itI F5 N5' hI5 hb5 ?_
      intro oI' h6 F6 N6 it6
      refine wpAny_of_eq (a := ()) (ht _) ?_
      dsimp only
      refine comp_store (C := C) (x := (D, listOf acc.toArray n)) (news := (I, oI') :: base) F6 (News.sub N6 (by simp +contextual)) hO5 hne (fun p hp => (hoffI _ p hp).2) (hk C) rfl ?_ (hp C)
      intro h7 tk7 oC7 F7 N7 hO7
      refine helt (items.length - (k + 1)) D C _ oC7 oI' _ h7 tk7 _ (by omega) F7 N7 hO7 (if_pos rfl) ?_
      intro x h8 tk8 F8 N8 hx
      refine ⟨k, (I, oI') :: base, _, by omega, ⟨h8, tk8, oC7, rfl, F8, N8, hO7, hoffI _, hne⟩, by omega, by omega, oI', rfl, by rw [show items.length - k = items.length - (k + 1) + 1 by omega]; exact it6, by rw [List.length_append, hlen]; simp; omega, ?_⟩
      intro i hi
      by_cases hc : i < items.length - (k + 1)
      · have : (acc ++ [x]).getD i .none = acc.getD i .none := by
          rw [getD_lt (by rw [List.length_append]; omega), getD_lt (by omega), List.getElem_append_left]
        rw [this]
        exact hP i hc
      · obtain rfl : i = items.length - (k + 1) := by omega
        have : (acc ++ [x]).getD (items.length - (k + 1)) .none = x := by
          rw [← hlen]; simp
        rw [this]
        exact hx
  · rintro acc nw n mC D C s' ⟨h5, tk5, oC, rfl, F5, N5, hO5, hoff, hne⟩ ⟨rfl, hlen, hP⟩
    exact done acc n mC D C oC h5 tk5 F5 N5 hO5 hoff hne hlen hP
end
end Mine

namespace Mine
open PyProof.Rows
/-- a row: a list of two ints -/
def L2s (news : List (Addr × Obj)) (v : Value) (k : Int × Int) : Prop := ∃ a n t1 t2, v = .ref a ∧ (a, listOf [Value.int k.1 t1, .int k.2 t2].toArray n) ∈ news
theorem L2s.more {news news' : List (Addr × Obj)} {v : Value} {k : Int × Int} (x : L2s news v k) (hs : ∀ p ∈ news, p ∈ news') : L2s news' v k := by
  obtain ⟨a, n, t1, t2, e, ho⟩ := x
  exact ⟨a, n, t1, t2, e, hs _ ho⟩
theorem L2s.tail {p : Addr × Obj} {news : List (Addr × Obj)} {v : Value} {k : Int × Int} (x : L2s news v k) : L2s (p :: news) v k := x.more fun _ h => .tail _ h
section
variable {prog : Program} {w : World} {A : Around} {E : Value → Shared → Prop} {s : Shared} {h₀ : Heap} {L l : Addr} {m : Str → Option Value} {news : List (Addr × Obj)}

theorem one_of (N : News h₀ L s.heap news) {x : Addr × Obj} (hm : x ∈ news) : News h₀ L s.heap [x] := fun p hp => by
  rw [List.mem_singleton.mp hp]; exact N _ hm
theorem lst2_0 {value slice : PySem.Expr} {a : Addr} {x y : Value} {n : Nat} {u : Tok} {Q : Value → Shared → Prop} (N : News h₀ L s.heap news) (hm : (a, listOf [x, y].toArray n) ∈ news) (h : Q x s)
    (hs : subscripted slice false (.ref a) (.int 0 u) = operate [.ref a, .int 0 u] (getItem (.ref a) (.int 0 u)) := by with_unfolding_all rfl) (hg : ∀ r, letTemporaryGo value (.ref a) r = pure () := by intro _; with_unfolding_all rfl) :
    wpAny (model prog w) A (subscriptTail value slice (.ref a) (.int 0 u)) Q E s := get_at (us := [x, y]) 0 (one_of N hm) rfl (by simp) (by simp) h hs hg

theorem apart_L2 {u v : Value} {k k' : Int × Int} (hu : A.units + 2 < cLine) (hx : L2s news u k) (hy : L2s news v k') (hne : k.2 ≠ k'.2) : Apart prog w A h₀ L news u v := fun s Q E N h => by
  obtain ⟨a, n, t1, t2, rfl, ha⟩ := hx
  obtain ⟨b, m, u1, u2, rfl, hb⟩ := hy
  have hab : a ≠ b := by
    rintro rfl
    have h1 := (N _ ha).1
    have h2 := (N _ hb).1
    dsimp only at h1 h2
    rw [h1] at h2
    injection h2 with h2
    injection h2 with _ _ h2 _
    injection h2 with h2 _
    have h2 := congrArg Array.toList h2
    simp at h2
    exact hne h2.2.1
  have z1 : s.heap.IsList a [Value.int k.1 t1, .int k.2 t2].toArray := ⟨_, (N _ ha).1, rfl, n, rfl⟩
  have z2 : s.heap.IsList b [Value.int k'.1 u1, .int k'.2 u2].toArray := ⟨_, (N _ hb).1, rfl, m, rfl⟩
  have := SeqAt.RcAt.lists (A := A) (s := s) (e := fun j => if j = 0 then k.1 == k'.1 else false) z1 z2 rfl (by omega) (fun j h1 h2 => by
    match j, h1 with
    | 0, _ => exact SeqAt.EqAt.int_int _ _ _ _
    | 1, _ =>
      have := SeqAt.EqAt.int_int (A := A.in1) (s := s) k.2 t2 k'.2 u2
      have e : (k.2 == k'.2) = false := by simpa using hne
      rw [e] at this
      exact this)
  have e : ((List.range [Value.int k.1 t1, Value.int k.2 t2].toArray.size).all fun j => if j = 0 then k.1 == k'.1 else false) = false := by
    simp [List.range_succ]
  rw [e] at this
  exact SeqAt.EqAt.of_refs hab this prog w E Q h
end

/-- the longest first, of like ones the earlier -/
def fkey (ρ : Value → Int × Int) (v : Value) : Int × Int := (-(ρ v).1, (ρ v).2)
theorem klt_of {k l : Int × Int} (h : kle k l) (hn : k ≠ l) : klt k l = true := by
  obtain ⟨k1, k2⟩ := k
  obtain ⟨l1, l2⟩ := l
  have h' : ¬ (k1 = l1 ∧ k2 = l2) := fun q => hn (by rw [q.1, q.2])
  unfold kle at h
  unfold klt
  rw [decide_eq_true_eq]
  dsimp only at *
  omega
theorem up_ne {ρ : Value → Int × Int} {us : List Value} (h : us.Pairwise fun u v => (ρ u).2 < (ρ v).2) {i j : Nat} (hi : i < us.length) (hj : j < us.length) (hij : i ≠ j) : (ρ us[i]).2 ≠ (ρ us[j]).2 := by
  have h' := List.pairwise_iff_getElem.mp h
  rcases Nat.lt_or_gt_of_ne hij with c | c
  · exact Int.ne_of_lt (h' i j hi hj c)
  · exact Int.ne_of_gt (h' j i hj hi c)
/-- one turn of the plain choosing -/
theorem fall_step {ρ : Value → Int × Int} {out left vs : List Value} {b : Nat} (hr : Rises (fkey ρ) out) (hol : ∀ x ∈ out, ∀ y ∈ left, klt (fkey ρ x) (fkey ρ y) = true) (hp : (out ++ left).Perm vs) (hup : left.Pairwise fun u v => (ρ u).2 < (ρ v).2)
    (hb : b < left.length) (hm : ∀ j, j < left.length → kle (fkey ρ (left.getD b .none)) (fkey ρ (left.getD j .none))) :
    Rises (fkey ρ) (out ++ [left.getD b .none]) ∧ (∀ x ∈ out ++ [left.getD b .none], ∀ y ∈ left.eraseIdx b, klt (fkey ρ x) (fkey ρ y) = true) ∧ ((out ++ [left.getD b .none]) ++ left.eraseIdx b).Perm vs ∧ (left.eraseIdx b).Pairwise fun u v => (ρ u).2 < (ρ v).2 := by
  have hbm := getD_mem' (d := Value.none) hb
  refine ⟨?_, ?_, ?_, hup.sublist (List.eraseIdx_sublist _ _)⟩
  · unfold Rises at *
    rw [List.pairwise_append]
    refine ⟨hr, List.pairwise_singleton .., fun x hx y hy => ?_⟩
    rw [List.mem_singleton.mp hy]
    exact hol x hx _ hbm
  · intro x hx y hy
    have hy' := List.mem_of_mem_eraseIdx hy
    rcases List.mem_append.mp hx with hx | hx
    · exact hol x hx y hy'
    · rw [List.mem_singleton.mp hx]
      obtain ⟨j, hj, rfl⟩ := List.getElem_of_mem hy'
      have h1 := hm j hj
      rw [getD_lt hj] at h1
      refine klt_of h1 fun e => ?_
      rw [getD_lt hb] at e
      by_cases hbj : b = j
      · subst hbj
        have hd : left.Nodup := by
          refine List.Pairwise.imp ?_ hup
          intro u v huv e
          rw [e] at huv
          omega
        obtain ⟨q, hq, eq⟩ := List.getElem_of_mem hy
        rw [List.getElem_eraseIdx] at eq
        have hq' : q < left.length - 1 := by rw [List.length_eraseIdx, if_pos hb] at hq; exact hq
        split at eq
        · exact nodup_ne (by omega) hb hd (by omega) eq
        · exact nodup_ne (by omega) hb hd (by omega) eq
      · exact up_ne hup hb hj hbj (by have := congrArg Prod.snd e; exact this)
  · rw [List.append_assoc]
    refine List.Perm.trans (List.Perm.append_left out ?_) hp
    rw [getD_lt hb]
    exact (erase_perm hb).symm
end Mine

namespace Mine
open PyProof.Rows
theorem lookup_it_len : typeLookup (.type "list_iterator") "__len__" = pure none := by rw [typeLookup_type, builtinLookup_eq_fast]; kernel_rfl

section
variable {prog : Program} {w : World} {A : Around} {E : Value → Shared → Prop} {s : Shared}
theorem len_no {I : Addr} {Q : Value → Shared → Prop} (hT : s.TypeIs (.ref I) "list_iterator") (hh : A.handled = none)
    (h : ∀ h' tk e, Heap.NewExc s.heap h' e "TypeError" → E (.ref e) { s with heap := h', toks := tk }) : wpAny (model prog w) A (call (.builtin "len") [.ref I]) Q E s := by
  refine Calls.call_function_entry kind_len plain_len entry_len (args_len1 _) ?_
  unfold Builtin.«len»
  refine wpAny_bind (wpAny_of_eq (a := Value.ref I) rfl ?_)
  unfold callSpecial?
  refine wpAny_bind (wpAny_bind (wpAny_specialOf hT lookup_it_len (wpAny_pure ?_)))
  refine wpAny_bind (wpAny_rule (wpAny_bind (wpAny_typeNameOf' hT (by decide) ?_)))
  refine wpAny_raiseErrorMade plainExc_TypeError hh (fun h' tk e hx => h h' tk e hx) ?_
  decide +kernel
end

section
variable {M : Model} {A : Around} {E : Value → Shared → Prop} {s : Shared}
theorem first_nested {base : Heap} {env : Env} {outer : List Env} {L e : Addr} {oe : Obj} {vs : Array Value} {a0 : Value} {Q : Unit → Shared → Prop}
    (hfr : A.frames = some (env :: outer)) (hl : s.heap.FunFrames base (env :: outer)) (hf : env.frame = some L)
    (he : s.heap.get? e = some oe) (hkb : base.StaysIn s.heap) (hen : base.get? e = none) (hd : oe.data = .fields vs) (h1 : vs[1]? = some .none) (h0 : vs[0]? = some a0)
    (h : ∀ h', Heap.LeftW base (env :: outer) e oe.cls a0 s.heap h' → Q () { s with heap := h' }) :
    wpAny M A (noteFrame (.ref e) env) (fun _ s' => wpAny M A (setFlight (.ref e) none) Q E s') E s := by
  unfold noteFrame
  simp only [hf]
  refine wpAny_bind (wpAny_field he hd h1 ?_)
  rw [if_neg (by decide)]
  exact wpAny_newEntryW hfr hl hf he hkb hen hd (Array.getElem?_eq_some_iff.mp h1).1 h0 h
end

section
variable {prog : Program} {w : World} {A₀ : Around} {E : Value → Shared → Prop} {s' : Shared} {base g h : Heap} {outer : List Env} {L a e : Addr} {m : Str → Option Value} {name : Str} {scope : Scope} {cd : Value} {cl : List (Str × Addr)}
  {news : List (Addr × Obj)} {K : Frag} {p : Program} {loose : List Str} {mean : ExcName → Option Value} {mg mb : Str → Option Value} {x1 x2 : Str} {X T1 T2 : String} {b₀ : Stmt} {suite : List Stmt} {pos tpos p1 p2 : Pos} {kk : Nat} {rest : List ExceptHandler} {Q : Flow → Shared → Prop}

/-- a builtin's exception, raised in the def itself and caught by a clause of two builtin classes -/
theorem caught_two (B : Below A₀ base outer g) (F : Fr g L h m) (N : News g L h news) (hx : Heap.NewExc h s'.heap e X) (XB : K.In base) (TB : Top p loose mean mg mb base)
    (e1 : nsIn K mainGlobals x1 = some none) (v1 : bootBuiltins x1 = some (.type T1)) (n1 : x1 ≠ "__name__") (e2 : nsIn K mainGlobals x2 = some none) (v2 : bootBuiltins x2 = some (.type T2)) (n2 : x2 ≠ "__name__")
    (hexc1 : isSubtype (.type T1) (.type "BaseException") = pure true) (hnt1 : isSubtype (.type ((Manifest.find? T1).elim "type" fun x => x.metatype)) (.type "tuple") = pure false)
    (hexc2 : isSubtype (.type T2) (.type "BaseException") = pure true) (hnt2 : isSubtype (.type ((Manifest.find? T2).elim "type" fun x => x.metatype)) (.type "tuple") = pure false)
    (hsub1 : isSubtype (.type X) (.type T1) = pure true) {c2 : Bool} (hsub2 : isSubtype (.type X) (.type T2) = pure c2)
    (k : ∀ h' g', KtsTurn (outer.filterMap (·.frame)) g g' → Fr g' L h' m → News g' L h' news → Below A₀ base outer g' → K.In g' → Top p loose mean mg mb g' →
      wpAny (model prog w) ((A₀.deeper (envX name scope L a cd cl)).mark (some (.ref e))) (execs (b₀ :: suite) (envX name scope L a cd cl)) Q E { s' with heap := h' })
    (hk : scope.kind = .function) (hx1 : (envX name scope L a cd cl).kindOf x1 = some .globalImplicit) (hx2 : (envX name scope L a cd cl).kindOf x2 = some .globalImplicit)
    (hd1 : (x1 == ("__debug__" : Str)) = false) (hd2 : (x2 == ("__debug__" : Str)) = false)
    (hE : PassesOwnAt (model prog w) ((A₀.deeper (envX name scope L a cd cl)).mark (some (.ref e))) (A₀.deeper (envX name scope L a cd cl)) (envX name scope L a cd cl) E) :
    wpAny (model prog w) (A₀.deeper (envX name scope L a cd cl)) (noteFrame (.ref e) (envX name scope L a cd cl))
      (fun _ s₂ => wpAny (model prog w) (A₀.deeper (envX name scope L a cd cl)) (setFlight (.ref e) none) (fun _ s₃ =>
        wpAny (model prog w) (A₀.deeper (envX name scope L a cd cl)) (handleBy (.ref e) (envX name scope L a cd cl) (.ExceptHandler (some (.Tuple [.Name x1 p1, .Name x2 p2] kk tpos)) none (b₀ :: suite) pos :: rest)) Q E s₃) E s₂) E s' := by
  have K' : Below (A₀.deeper (envX name scope L a cd cl)) base (envX name scope L a cd cl :: outer) h := pushX B F rfl hk
  have hin : ∀ env ∈ (envX name scope L a cd cl :: outer), ∀ b, env.frame = some b → b ∈ (envX name scope L a cd cl :: outer).filterMap (·.frame) := fun env he b hb => List.mem_filterMap.mpr ⟨env, he, hb⟩
  have st : base.StaysIn (hideAll h ((envX name scope L a cd cl :: outer).filterMap (·.frame))) := fun b o q => hideAll_get _ (K'.stays b o q) fun hm => by
    rw [(K'.frames.mem hm).1] at q; cases q
  have hBG : ∀ b o, h.get? b = some o → b ∉ (envX name scope L a cd cl :: outer).filterMap (·.frame) → (hideAll h ((envX name scope L a cd cl :: outer).filterMap (·.frame))).get? b = some o := fun b o q nm => hideAll_get _ q nm
  have hl : ∀ q ∈ news, (hideAll h ((envX name scope L a cd cl :: outer).filterMap (·.frame))).get? q.1 = some q.2 := fun q hq => by
    refine hideAll_get _ (N q hq).1 fun hm => ?_
    obtain ⟨env, he, hf⟩ := List.mem_filterMap.mp hm
    rcases List.mem_cons.mp he with rfl | he
    · exact (N q hq).2.1 (Option.some.inj hf).symm
    · obtain ⟨o, ho, _⟩ := (B.frames.mem (List.mem_filterMap.mpr ⟨env, he, hf⟩)).2
      rw [(N q hq).2.2] at ho; cases ho
  have hff : h.FunFrames (hideAll h ((envX name scope L a cd cl :: outer).filterMap (·.frame))) (envX name scope L a cd cl :: outer) := funFrames_hide K'.frames hin
  obtain ⟨oe, t0, hoe, hoc, hod⟩ := hx.there
  have hBn : (hideAll h ((envX name scope L a cd cl :: outer).filterMap (·.frame))).get? e = none := by
    cases q : (hideAll h ((envX name scope L a cd cl :: outer).filterMap (·.frame))).get? e with
    | none => rfl
    | some o => have := of_hideAll _ q; rw [hx.new] at this; cases this
  have hBs : (hideAll h ((envX name scope L a cd cl :: outer).filterMap (·.frame))).StaysIn s'.heap := fun b o q => hx.keeps b o (of_hideAll _ q)
  refine first_nested (a0 := t0) (Around.frames_deeper B.stack) (hff.of_keeps fun b o hb _ => ⟨o, hx.keeps b o hb, rfl⟩) rfl hoe hBs hBn hod rfl rfl fun h₄ hL => ?_
  obtain ⟨k1, k2, k3, k4⟩ := hL
  have hsm₄ : h.UpToSlots h₄ := (Heap.UpToSlots.of_keeps hx.keeps).trans k4
  obtain ⟨g₅, T₅, F₅, K₅⟩ := kts_ground (name := name) (scope := scope) (a := a) (cd := cd) B F hBG k1 hsm₄
  have X₅ : K.In g₅ := XB.keeps K₅.stays
  have P₅ : TopRead p loose mg mb g₅ := topRead_of (TB.keeps K₅.stays)
  obtain ⟨ob, vs, TB', oT, ts, q1, ⟨q2, q3⟩, q4, q5, q6, q7, q8, q9, q10⟩ := k3
  refine wpAny_handleBy_tup2 (T1 := T1) (T2 := T2) hexc1 hnt1 hexc2 hnt2 hsub1 hsub2 ?_
  refine Tuple_ (spliced_more (nameX_B F₅ X₅ P₅ e1 v1 n1 (spliced_more (nameX_B F₅ X₅ P₅ e2 v2 n2 (spliced_none ?_) hk hx2 hd2)) hk hx1 hd1))
  refine wpAny_newObj_type ⟨_, rfl, IsTup.new _ _, ⟨ob, Heap.get?_push_of_some _ q1, q2.trans hoc⟩, ?_⟩
  rw [if_pos (by simp)]
  have keepP : ∀ b o, h₄.get? b = some o → (h₄.push { cls := .type "tuple", dict := none, data := .seq [Value.type T1, .type T2].toArray }).get? b = some o := fun b o q => Heap.get?_push_of_some _ q
  refine wpAny_setFlight_noneW (base := hideAll h ((envX name scope L a cd cl :: outer).filterMap (·.frame))) (l := envX name scope L a cd cl :: outer) (cls := oe.cls) (a0 := t0) (fl := .none) (fun b o q => keepP _ _ (k1 b o q)) (k2.of_keeps fun b o hb _ => ⟨o, keepP _ _ hb, rfl⟩)
    ⟨ob, vs, TB', oT, ts, keepP _ _ q1, ⟨q2, q3⟩, q4, q5, q6, q7, keepP _ _ q8, q9, q10⟩ fun h₆ j1 j2 j3 j4 => ?_
  have hsm₆ : h.UpToSlots h₆ := hsm₄.trans ((Heap.UpToSlots.of_keeps keepP).trans fun b o hb hn => ⟨o.slots, j4 b o hb hn⟩)
  obtain ⟨g₆, T₆, F₆, K₆⟩ := kts_ground (name := name) (scope := scope) (a := a) (cd := cd) B F hBG j1 hsm₆
  have Nl : News g₆ L h₆ news := fun q hq => ⟨j1 _ _ (hl q hq), (N q hq).2.1, T₆.none_ _ (N q hq).2.2⟩
  exact wpAny_passesOwnAt hE (k h₆ g₆ T₆ F₆ Nl K₆ (XB.keeps K₆.stays) (TB.keeps K₆.stays))
end
end Mine

namespace Mine
open PyProof.Rows
section
variable {prog : Program} {w : World} {A₀ A : Around} {s : Shared} {base h₀ : Heap} {L a : Addr} {m : Str → Option Value} {cn : Str} {cs : Scope} {ccd : Value} {news : List (Addr × Obj)} {K : Frag} {p : Program} {loose : List Str} {mean : ExcName → Option Value} {mg mb : Str → Option Value}
    {R : Result → Shared → Prop} {name qual : Str} {params : Arguments} {body : List Stmt} {scope : Scope} {dV kV doc pm cdv ct oc : Value} {an od : Option Addr} {osl : Array (Option Value)} {f : Addr} {args : Args} {binds : List (Str × Value)}

/-- a def with cells, called from the one frame there is; what it catches may mark that frame -/
theorem code_defSC (B : Below A₀ base [] h₀) (F : Fr h₀ L s.heap m) (X₀ : K.In h₀) (N : News h₀ L s.heap news) (T : Top p loose mean mg mb h₀) (hA : A.frames = some [envX cn cs L a ccd []])
    (ho : K.lookup f = some ⟨oc, od, .func (fnOf name qual params body scope dV kV doc pm an cdv ct), osl⟩) (hcd : codeIn K cdv qual = true) (hroom : A.depth < recursionLimit)
    (hbind : BindsTo s (fnOf name qual params body scope dV kV doc pm an cdv ct) args binds) (hkind : (binds.all fun y => scope.names.lookup y.1 == some .local || scope.names.lookup y.1 == some .cell) = true)
    (hnd : ((cellsFrom 0 scope.names []).map (·.1)).Nodup)
    (h : ∀ g L' h₁ tk cells, Fr h₀ L g m → Fr g L' h₁ (bindL (envOfC qual scope L' f cdv).kindOf binds fun _ => none) → News g L' h₁ (cells ++ news) →
      CellsAre (bindC (envOfC qual scope L' f cdv).kindOf binds fun _ => none) (cellsFrom (L' + 1) scope.names []) cells → Below A base [envX cn cs L a ccd []] g → K.In g → Top p loose mean mg mb g → (∀ p ∈ news, p.1 < L') →
      wpAny (model prog w) (A.deeper (envOfC qual scope L' f cdv)) (execs body (envOfC qual scope L' f cdv))
        (fun fl s' => LeaveS0 ([envX cn cs L a ccd []].filterMap (·.frame)) h₀ L m g R (match fl with | .ret v => v | _ => .none) s')
        (fun e s' => wpAny (model prog w) (A.deeper (envOfC qual scope L' f cdv)) (leaving (envOfC qual scope L' f cdv) e) (fun _ s'' => R (.error e) s'') (fun e' s'' => R (.error e') s'') s')
        { s with heap := h₁, toks := tk })
    (hck : cs.kind = .function) (hco : scope.isCoroutine = false) (hgen : scope.isGenerator = false) (hk : scope.kind = .function) : codeAny (model prog w) A (.call (.ref f) args) R s := by
  have X := X₀.keeps F.keep
  obtain ⟨oL, es, ep, hLg, hLd, hN, hNs, st, B₂⟩ := kts_enter (cn := cn) (cs := cs) (a := a) (ccd := ccd) B F N hA hck
  refine codeAny_call_function (fd := fnOf name qual params body scope dV kV doc pm an cdv ct) hroom (X _ _ ho) rfl hco hgen rfl (codeRec_of X hcd) (hbind _ _ _ _ ?_)
  refine wpAny_newFunctionEnv_cells hk (kindsX hkind _) fun env' he s' x => ?_
  subst he
  refine ⟨(T.nolimit.keeps F.keep).keeps x.toInCall.keep, codeAny_func ?_⟩
  obtain ⟨h₁, tk, rfl, _⟩ := x.done
  have hk₁ := x.toInCall.keep
  obtain ⟨cells, NC, Y⟩ := Cl.news (h₀ := s.heap) (Nat.le_refl _) fun n c hm => ⟨x.cell n c (lookup_of_mem_nodup (cellsFrom_names scope.names 0 (s.heap.objs.size + 1) [] [] rfl ▸ hnd) hm), x.above n c hm⟩
  refine wpAny_mono (h _ s.heap.objs.size h₁ tk cells ⟨hN _ hLg, st, F.above⟩ ⟨x.toInCall.ns, fun b o e => hk₁ b o (of_hideAll _ e), Nat.le_of_eq (hideAll_size _ _)⟩ (fun p hp => ?_) Y B₂ (X₀.keeps st) (T.keeps st) (fun p hp => Heap.lt_size (N p hp).1)) (fun fl s' hl => ?_) fun _ _ y => y
  · rcases List.mem_append.mp hp with hp | hp
    · refine ⟨(NC p hp).1, (NC p hp).2.1, ?_⟩
      cases q : (hideAll s.heap (news.map (·.1))).get? p.1 with
      | none => rfl
      | some o => have := of_hideAll _ q; rw [(NC p hp).2.2] at this; cases this
    · exact ⟨hk₁ _ _ (N p hp).1, Nat.ne_of_lt (Heap.lt_size (N p hp).1), hideAll_none _ (List.mem_map_of_mem hp)⟩
  obtain ⟨g', L', m', news', T', F', N', k⟩ := hl
  have nL₀ : h₀.get? L = none := kts_self F
  obtain ⟨sl, hs⟩ := T'.up hLg
  refine k ⟨hNs sl _ (F'.keep _ _ hs), fun b o e => F'.keep b o (T'.other b o (st b o e) (fun q => by
    rcases kts_mem (name := cn) (scope := cs) (a := a) (cd := ccd) q with z | z
    · rw [z, nL₀] at e
      cases e
    · simp at z)), F.above⟩ fun p hp => ⟨(N' p hp).1, fun q => ?_, ?_⟩
  · have := (N' p hp).2.2; rw [q, hs] at this; cases this
  · cases q : h₀.get? p.1 with
    | none => rfl
    | some o =>
      obtain ⟨sl', hs'⟩ := T'.up (st _ _ q)
      have := (N' p hp).2.2
      rw [hs'] at this
      cases this
end
end Mine

namespace Mine
open PyProof.Rows
abbrev zipO (f : Value) (TI TO : Addr) : Obj := { cls := .type "zip", dict := none, data := .fields #[f, .bool false, .bool false, .ref TI, .ref TO], slots := #[] }
abbrev prO (a b : Value) : Obj := { cls := .type "tuple", data := .seq #[a, b] }

section
variable {prog : Program} {w : World} {A : Around} {E : Value → Shared → Prop} {s : Shared}

theorem call_iter_it {I l : Addr} {i : Nat} {o : Obj} {Q : Value → Shared → Prop} (ho : s.heap.get? I = some o) (it : ListIt o l i) (h : Q (.ref I) s) : wpAny (model prog w) A (call (.builtin "iter") [.ref I]) Q E s := by
  refine call_function_entry (by decide +kernel) (by decide +kernel) kdk_entry_iter (kdk_args_iter _) ?_
  unfold Builtin.«iter»
  refine wpAny_bind (m := someArgs "iter" 1 2 _) (wpAny_of_eq (a := [Value.ref I]) (by first | rfl | kernel_rfl!) ?_)
  show wpAny _ _ (pyIter (.ref I) >>= _) _ _ _
  refine wpAny_bind (wpAny_pyIter_listiter (l := l) (i := i) ⟨o, ho, it.1, it.2⟩ ?_)
  exact wpAny_pure ⟨_, rfl, h⟩

theorem nextOf_range {i1 : Addr} {x left step : Int} {Q : Value → Shared → Prop} (hit : s.heap.get? i1 = some (rangeIt x left step)) (hl : 0 < left)
    (hQ : ∀ h', h'.get? i1 = some (rangeIt (x + step) (left - 1) step) → Heap.SameBut i1 s.heap h' → Q (.int x s.toks) { s with heap := h', toks := s.toks + 1 }) :
    wpAny (model prog w) A (Builtin.SmallTypes.nextOf (.ref i1)) Q E s := by
  have hT : s.TypeIs (.ref i1) "range_iterator" := ⟨_, hit, rfl⟩
  unfold Builtin.SmallTypes.nextOf
  refine wpAny_bind (wpAny_callSpecial?_slot (name := Str.ofString "__next__") hT PySem.F.slot_range_iterator_next
    (call_meets PySem.F.slot_range_iterator_next hT PySem.F.entry_range_iterator_next (PySem.F.args_range_iterator_next_1 _) (AutoRange.range_iterator___next___range_iterator_1 i1 x left step (by omega)) ⟨hit, ?_⟩))
  exact wpAny_pure (hQ _ (Heap.get?_update_self _ (Heap.get?_update_self _ hit rfl) rfl) ((Heap.SameBut.update ..).trans (Heap.SameBut.update ..)))

theorem nextOf_range_end {i1 : Addr} {x left step : Int} {Q : Value → Shared → Prop} (hh : A.handled = none) (hit : s.heap.get? i1 = some (rangeIt x left step)) (hl : left ≤ 0)
    (hE : ∀ h' e, Heap.ExtBut i1 s.heap h' → (∃ o, h'.get? e = some o ∧ o.cls = .type "StopIteration") → E (.ref e) { s with heap := h' }) :
    wpAny (model prog w) A (Builtin.SmallTypes.nextOf (.ref i1)) Q E s := by
  have hT : s.TypeIs (.ref i1) "range_iterator" := ⟨_, hit, rfl⟩
  unfold Builtin.SmallTypes.nextOf
  refine wpAny_bind (wpAny_callSpecial?_slot (name := Str.ofString "__next__") hT PySem.F.slot_range_iterator_next
    (wpAny_call_entry PySem.F.slot_range_iterator_next hT PySem.F.entry_range_iterator_next ?_ (PySem.F.args_range_iterator_next_1 _)))
  show wpAny _ _ (field (.ref i1) 0 >>= _) _ _ s
  refine wpAny_bind (wpAny_field hit rfl (x := rawInt x) rfl ?_)
  show wpAny _ _ (field (.ref i1) 1 >>= _) _ _ s
  refine wpAny_bind (wpAny_field hit rfl (x := rawInt left) rfl ?_)
  show wpAny _ _ (field (.ref i1) 2 >>= _) _ _ s
  refine wpAny_bind (wpAny_field hit rfl (x := rawInt step) rfl ?_)
  show wpAny _ _ (if left ≤ 0 then _ else _) _ _ s
  rw [if_pos hl]
  refine wpAny_bind (wpAny_rule ?_)
  refine wpAny_bind ?_
  show wpAny _ _ (newExc (.type "StopIteration") [] >>= _) _ _ _
  refine wpAny_bind ?_
  simp only [newExc, newTuple]
  refine wpAny_bind (wpAny_newObj_type ?_ (by size_fits))
  refine wpAny_bind (m := firstArgMember _ _) (wpAny_of_eq (a := Value.none) (by first | rfl | (simp only [firstArgMember]; rfl)) ?_)
  refine wpAny_newObj_type ?_ (by size_fits)
  simp only [raiseNew]
  refine wpAny_bind (wpAny_handled ?_)
  first | rw [show A.in1.handled = none from hh] | rw [hh]
  refine wpAny_bind (wpAny_pure (wpAny_throw ?_))
  exact hE _ _ (((Heap.ExtBut.refl i1 s.heap).push _).push _) ⟨_, Heap.get?_push_size _ rfl, rfl⟩

/-- the places of a zip's parts -/
structure ZAp (z TI TO i1 i2 : Addr) : Prop where
  zTI : z ≠ TI
  zTO : z ≠ TO
  z1 : z ≠ i1
  z2 : z ≠ i2
  IO : TI ≠ TO
  I1 : TI ≠ i1
  I2 : TI ≠ i2
  O1 : TO ≠ i1
  O2 : TO ≠ i2
  n12 : i1 ≠ i2

theorem upd_pair {T : Addr} {a b x : Value} {k : Nat} {Q : Unit → Shared → Prop} (hT : s.heap.get? T = some (prO a b))
    (h : ∀ h', h'.get? T = some { cls := .type "tuple", data := .seq ((#[a, b] : Array Value).setIfInBounds k x) } → Heap.SameBut T s.heap h' → Q () { s with heap := h' }) :
    wpAny (model prog w) A (updateSeq T (·.setIfInBounds k x)) Q E s := wpAny_updateSeq_pair hT h

theorem zip_turn {z TI TO i1 i2 l : Addr} {a b : Value} {x left step : Int} {o2 : Obj} {k : Nat} {us : List Value} {Q : Option Value → Shared → Prop} (D : ZAp z TI TO i1 i2)
    (hz : s.heap.get? z = some (zipO .none TI TO)) (hTI : s.heap.get? TI = some (prO (.ref i1) (.ref i2))) (hTO : s.heap.get? TO = some (prO a b)) (h1 : s.heap.get? i1 = some (rangeIt x left step)) (h2 : s.heap.get? i2 = some o2)
    (it : ListIt o2 l k) (hl : s.heap.IsList l us.toArray) (hlz : l ≠ z ∧ l ≠ TO ∧ l ≠ i1) (hk : k < us.length) (hleft : 0 < left)
    (hQ : ∀ (h' : Heap) (t : Tok) (tk : Nat) (o2' : Obj), h'.get? z = some (zipO (rawInt s.heap.objs.size) TI TO) → h'.get? TO = some (prO (.int x t) (us.getD k .none)) → h'.get? i1 = some (rangeIt (x + step) (left - 1) step) → h'.get? i2 = some o2' → ListIt o2' l (k + 1) →
      h'.get? s.heap.objs.size = some (prO (.int x t) (us.getD k .none)) → h'.objs.size = s.heap.objs.size + 1 → (∀ c o, c ≠ z → c ≠ TO → c ≠ i1 → c ≠ i2 → s.heap.get? c = some o → h'.get? c = some o) → Q (some (.ref s.heap.objs.size)) { s with heap := h', toks := tk }) :
    wpAny (model prog w) A (pyNext (.ref z)) Q E s := by
  have hT : s.TypeIs (.ref z) "zip" := ⟨_, hz, rfl⟩
  unfold pyNext
  refine wpAny_bind (wpAny_attempt (wpAny_callSpecial?_slot (name := Str.ofString "__next__") hT PySem.F.slot_zip_next (wpAny_call_entry PySem.F.slot_zip_next hT PySem.F.entry_zip_next ?_ (PySem.F.args_zip_next_1 _))))
  show wpAny _ _ (field (.ref z) 2 >>= _) _ _ _
  refine wpAny_bind (wpAny_field hz rfl (x := .bool false) rfl ?_)
  show wpAny _ _ (field (.ref z) 3 >>= _) _ _ _
  refine wpAny_bind (wpAny_field hz rfl (x := .ref TI) rfl ?_)
  refine wpAny_bind (wpAny_seqItems hTI rfl ?_)
  show wpAny _ _ (Builtin.SmallTypes.ownedTupleIsFree (.ref z) >>= _) _ _ _
  refine wpAny_bind ?_
  unfold Builtin.SmallTypes.ownedTupleIsFree
  refine wpAny_bind (wpAny_field hz rfl (x := .none) rfl (wpAny_pure ?_))
  simp only [if_true]
  refine wpAny_bind (wpAny_rule ?_)
  refine wpAny_bind (wpAny_field hz rfl (x := .ref TO) rfl ?_)
  refine wpAny_bind (wpAny_setField_rec hz (by simp) fun q₁ hz₁ s₁ => ?_)
  replace hz₁ : q₁.get? z = some (zipO .ellipsis TI TO) := hz₁
  refine wpAny_bind ?_
  simp only [List.zipIdx_cons, List.zipIdx_nil, List.forIn_cons, List.forIn_nil]
  refine wpAny_bind (wpAny_bind (wpAny_onRaise ?_))
  show wpAny _ _ (Builtin.SmallTypes.nextOf (.ref i1) >>= _) _ _ _
  have h1₁ : q₁.get? i1 = some (rangeIt x left step) := s₁.extBut _ _ D.z1.symm h1
  refine wpAny_bind (nextOf_range h1₁ hleft fun q₂ h1₂ s₂ => wpAny_pure ?_)
  have hTO₂ : q₂.get? TO = some (prO a b) := s₂.extBut _ _ D.O1 (s₁.extBut _ _ D.zTO.symm hTO)
  refine wpAny_bind (wpAny_seqItems hTO₂ rfl ?_)
  refine wpAny_bind (upd_pair hTO₂ fun q₃ hTO₃ s₃ => ?_)
  replace hTO₃ : q₃.get? TO = some (prO (.int x s.toks) b) := hTO₃
  refine wpAny_bind (wpAny_letGo (wpAny_pure ?_))
  refine wpAny_bind (wpAny_bind (wpAny_onRaise ?_))
  show wpAny _ _ (Builtin.SmallTypes.nextOf (.ref i2) >>= _) _ _ _
  have h2₃ : q₃.get? i2 = some o2 := s₃.extBut _ _ D.O2.symm (s₂.extBut _ _ D.n12.symm (s₁.extBut _ _ D.z2.symm h2))
  have hl₃ : q₃.IsList l us.toArray := ((hl.extBut s₁.extBut hlz.1).extBut s₂.extBut hlz.2.2).extBut s₃.extBut hlz.2.1
  refine wpAny_bind (wpAny_nextOf_list_item (l := l) (i := k) (x := us.getD k .none) ⟨o2, h2₃, it.1, it.2⟩ hl₃ (by rw [getD_lt hk]; simp [hk]) fun q₄ h2₄ s₄ => wpAny_pure ?_)
  obtain ⟨o2', ho2', hc2', hd2'⟩ := h2₄
  have hTO₄ : q₄.get? TO = some (prO (.int x s.toks) b) := s₄.extBut _ _ D.O2 hTO₃
  refine wpAny_bind (wpAny_seqItems hTO₄ rfl ?_)
  refine wpAny_bind (upd_pair hTO₄ fun q₅ hTO₅ s₅ => ?_)
  replace hTO₅ : q₅.get? TO = some (prO (.int x s.toks) (us.getD k .none)) := hTO₅
  refine wpAny_bind (wpAny_letGo (wpAny_pure (wpAny_pure ?_)))
  refine wpAny_bind (wpAny_seqItems hTO₅ rfl ?_)
  refine wpAny_bind (wpAny_newTuple ?_)
  have hsz : q₅.objs.size = s.heap.objs.size := by rw [s₅.1, s₄.1, s₃.1, s₂.1, s₁.1]
  have hz₅ : q₅.get? z = some (zipO .ellipsis TI TO) := s₅.extBut _ _ D.zTO (s₄.extBut _ _ D.z2 (s₃.extBut _ _ D.zTO (s₂.extBut _ _ D.z1 hz₁)))
  have up₅ : ∀ c o, c ≠ z → c ≠ TO → c ≠ i1 → c ≠ i2 → s.heap.get? c = some o → q₅.get? c = some o := fun c o c1 c2 c3 c4 e =>
    s₅.extBut _ _ c2 (s₄.extBut _ _ c4 (s₃.extBut _ _ c2 (s₂.extBut _ _ c3 (s₁.extBut _ _ c1 e))))
  have h1₅ : q₅.get? i1 = some (rangeIt (x + step) (left - 1) step) := s₅.extBut _ _ D.O1.symm (s₄.extBut _ _ D.n12 (s₃.extBut _ _ D.O1.symm h1₂))
  have h2₅ : q₅.get? i2 = some o2' := s₅.extBut _ _ D.O2.symm ho2'
  have hzlt : z < q₅.objs.size := Heap.lt_size hz₅
  show wpAny _ _ (Builtin.SmallTypes.ownedTupleHandOut (.ref z) (.ref q₅.objs.size) >>= _) _ _ _
  refine wpAny_bind ?_
  unfold Builtin.SmallTypes.ownedTupleHandOut
  have hz₆ : (q₅.push (prO (.int x s.toks) (us.getD k .none))).get? z = some (zipO .ellipsis TI TO) := Heap.get?_push_of_some _ hz₅
  refine wpAny_bind (wpAny_setField_rec hz₆ (by simp) fun q₇ hz₇ s₇ => ?_)
  replace hz₇ : q₇.get? z = some (zipO (rawInt q₅.objs.size) TI TO) := hz₇
  refine wpAny_setField_rec hz₇ (by simp) fun q₈ hz₈ s₈ => ?_
  replace hz₈ : q₈.get? z = some (zipO (rawInt q₅.objs.size) TI TO) := hz₈
  have up : ∀ c o, c ≠ z → q₅.get? c = some o → q₈.get? c = some o := fun c o c1 e => s₈.extBut _ _ c1 (s₇.extBut _ _ c1 (Heap.get?_push_of_some _ e))
  have hT₈ : q₈.get? q₅.objs.size = some (prO (.int x s.toks) (us.getD k .none)) := s₈.extBut _ _ (Nat.ne_of_gt hzlt) (s₇.extBut _ _ (Nat.ne_of_gt hzlt) (Heap.get?_push_size _ rfl))
  have hz8 : q₈.objs.size = q₅.objs.size + 1 := by rw [s₈.1, s₇.1, Heap.size_push]
  rw [hsz] at hz₈ hT₈ hz8
  refine wpAny_pure ⟨_, rfl, wpAny_pure ?_⟩
  show Q (some (.ref q₅.objs.size)) _
  rw [hsz]
  exact hQ q₈ s.toks _ o2' hz₈ (up _ _ D.zTO.symm hTO₅) (up _ _ D.z1.symm h1₅) (up _ _ D.z2.symm h2₅) ⟨hc2', hd2'⟩ hT₈ hz8 fun c o c1 c2 c3 c4 e => up c o c1 (up₅ c o c1 c2 c3 c4 e)

theorem zip_stop {z TI TO i1 i2 : Addr} {a b : Value} {x left step : Int} {Q : Option Value → Shared → Prop} (hh : A.handled = none) (D : ZAp z TI TO i1 i2)
    (hz : s.heap.get? z = some (zipO .none TI TO)) (hTI : s.heap.get? TI = some (prO (.ref i1) (.ref i2))) (hTO : s.heap.get? TO = some (prO a b)) (h1 : s.heap.get? i1 = some (rangeIt x left step)) (hleft : left ≤ 0)
    (hQ : ∀ h', (∀ c o, c ≠ z → c ≠ i1 → s.heap.get? c = some o → h'.get? c = some o) → Q none { s with heap := h' }) :
    wpAny (model prog w) A (pyNext (.ref z)) Q E s := by
  have hT : s.TypeIs (.ref z) "zip" := ⟨_, hz, rfl⟩
  unfold pyNext
  refine wpAny_bind (wpAny_attempt (wpAny_callSpecial?_slot (name := Str.ofString "__next__") hT PySem.F.slot_zip_next (wpAny_call_entry PySem.F.slot_zip_next hT PySem.F.entry_zip_next ?_ (PySem.F.args_zip_next_1 _))))
  show wpAny _ _ (field (.ref z) 2 >>= _) _ _ _
  refine wpAny_bind (wpAny_field hz rfl (x := .bool false) rfl ?_)
  show wpAny _ _ (field (.ref z) 3 >>= _) _ _ _
  refine wpAny_bind (wpAny_field hz rfl (x := .ref TI) rfl ?_)
  refine wpAny_bind (wpAny_seqItems hTI rfl ?_)
  show wpAny _ _ (Builtin.SmallTypes.ownedTupleIsFree (.ref z) >>= _) _ _ _
  refine wpAny_bind ?_
  unfold Builtin.SmallTypes.ownedTupleIsFree
  refine wpAny_bind (wpAny_field hz rfl (x := .none) rfl (wpAny_pure ?_))
  simp only [if_true]
  refine wpAny_bind (wpAny_rule ?_)
  refine wpAny_bind (wpAny_field hz rfl (x := .ref TO) rfl ?_)
  refine wpAny_bind (wpAny_setField_rec hz (by simp) fun q₁ hz₁ s₁ => ?_)
  replace hz₁ : q₁.get? z = some (zipO .ellipsis TI TO) := hz₁
  refine wpAny_bind ?_
  simp only [List.zipIdx_cons, List.zipIdx_nil, List.forIn_cons, List.forIn_nil]
  refine wpAny_bind (wpAny_bind (wpAny_onRaise ?_))
  show wpAny _ _ (Builtin.SmallTypes.nextOf (.ref i1) >>= _) _ _ _
  have h1₁ : q₁.get? i1 = some (rangeIt x left step) := s₁.extBut _ _ D.z1.symm h1
  refine wpAny_bind (nextOf_range_end hh h1₁ hleft fun q₂ e s₂ he => ?_)
  obtain ⟨oe, hoe, hce⟩ := he
  have hz₂ : q₂.get? z = some (zipO .ellipsis TI TO) := s₂ _ _ D.z1 hz₁
  have hez : e ≠ z := fun x => by subst x; rw [hz₂] at hoe; cases hoe; simp at hce
  refine wpAny_setField_rec hz₂ (by simp) fun q₃ _ s₃ => ?_
  refine wpAny_bind (wpAny_isInstance (T := "StopIteration") (b := true) ⟨oe, s₃.extBut _ _ hez hoe, hce⟩ isSubtype_stop ?_)
  exact wpAny_pure (hQ _ fun c o c1 c3 x => s₃.extBut _ _ c1 (s₂ _ _ c3 (s₁.extBut _ _ c1 x)))

theorem zip_made (r I l : Addr) (a b c : Int) (t u v : Tok) (k : Nat) (hsm : Builtin.Range.small a b c = true) :
    Meets (Builtin.«zip.__new__» ⟨[.type "zip", .ref r, .ref I], []⟩) (fun _ R s => s.heap.get? r = some (rangeOb a b c t u v) ∧ s.heap.IsListIter I l k ∧
      R (.ok (.ret (.ref (s.heap.objs.size + 3)))) { s with heap := (((s.heap.push (rangeIt a (Builtin.Range.rangeSize a b c) c)).push (prO (.ref s.heap.objs.size) (.ref I))).push (prO .none .none)).push (zipO .none (s.heap.objs.size + 1) (s.heap.objs.size + 2)) }) :=
  .of_wp fun prog w A R s h => by
    obtain ⟨hp, g, d, tk, os⟩ := s; obtain ⟨hl1, hl2, h⟩ := h
    have hsub := sub_zip
    have hL2 : Heap.IsListIter (Shared.heap ⟨hp.push (rangeIt a (Builtin.Range.rangeSize a b c) c), g, d, tk, os⟩) I l k := hl2.at fun o e => Heap.get?_push_of_some _ e
    have hL1 : (Shared.heap ⟨hp, g, d, tk, os⟩).get? r = some (rangeOb a b c t u v) := hl1
    wp_walk using wpAny_pyIter_range hL1 hsm, wpAny_pyIter_listiter hL2
    refine ⟨_, rfl, ?_⟩
    simp only [Heap.size_push]
    exact h

theorem call_zip_ri {r I l : Addr} {a b c : Int} {t u v : Tok} {k : Nat} {Q : Value → Shared → Prop} (hsm : Builtin.Range.small a b c = true) (hr : s.heap.get? r = some (rangeOb a b c t u v)) (hI : s.heap.IsListIter I l k)
    (h : ∀ h', h'.get? (s.heap.objs.size + 3) = some (zipO .none (s.heap.objs.size + 1) (s.heap.objs.size + 2)) → h'.get? (s.heap.objs.size + 1) = some (prO (.ref s.heap.objs.size) (.ref I)) → h'.get? (s.heap.objs.size + 2) = some (prO .none .none) → h'.get? s.heap.objs.size = some (rangeIt a (Builtin.Range.rangeSize a b c) c) →
      h'.objs.size = s.heap.objs.size + 4 → (∀ c o, s.heap.get? c = some o → h'.get? c = some o) → Q (.ref (s.heap.objs.size + 3)) { s with heap := h' }) :
    wpAny (model prog w) A (call (.type "zip") [.ref r, .ref I]) Q E s := by
  refine callType_new PySem.F.called_zip (by decide) (PySem.F.typeCall_zip_2 _ _) (PySem.F.newCall_zip_2 _ _) (fun obj => PySem.F.args_object_init_3 obj _ _) PySem.F.entry_zip_new (zip_made r I l a b c t u v k hsm) ⟨hr, hI, ?_⟩
  have z1 : (s.heap.push (rangeIt a (Builtin.Range.rangeSize a b c) c)).objs.size = s.heap.objs.size + 1 := Heap.size_push ..
  have z2 : ((s.heap.push (rangeIt a (Builtin.Range.rangeSize a b c) c)).push (prO (.ref s.heap.objs.size) (.ref I))).objs.size = s.heap.objs.size + 2 := by rw [Heap.size_push, z1]
  have z3 : (((s.heap.push (rangeIt a (Builtin.Range.rangeSize a b c) c)).push (prO (.ref s.heap.objs.size) (.ref I))).push (prO .none .none)).objs.size = s.heap.objs.size + 3 := by rw [Heap.size_push, z2]
  have z4 : ((((s.heap.push (rangeIt a (Builtin.Range.rangeSize a b c) c)).push (prO (.ref s.heap.objs.size) (.ref I))).push (prO .none .none)).push (zipO .none (s.heap.objs.size + 1) (s.heap.objs.size + 2))).objs.size = s.heap.objs.size + 4 := by rw [Heap.size_push, z3]
  have g3 : ((((s.heap.push (rangeIt a (Builtin.Range.rangeSize a b c) c)).push (prO (.ref s.heap.objs.size) (.ref I))).push (prO .none .none)).push (zipO .none (s.heap.objs.size + 1) (s.heap.objs.size + 2))).get? (s.heap.objs.size + 3) = some (zipO .none (s.heap.objs.size + 1) (s.heap.objs.size + 2)) := by
    rw [← z3]; exact Heap.get?_push_size _ rfl
  have g2 : ((((s.heap.push (rangeIt a (Builtin.Range.rangeSize a b c) c)).push (prO (.ref s.heap.objs.size) (.ref I))).push (prO .none .none)).push (zipO .none (s.heap.objs.size + 1) (s.heap.objs.size + 2))).get? (s.heap.objs.size + 2) = some (prO .none .none) := by
    refine Heap.get?_push_of_some _ ?_
    rw [← z2]; exact Heap.get?_push_size _ rfl
  have g1 : ((((s.heap.push (rangeIt a (Builtin.Range.rangeSize a b c) c)).push (prO (.ref s.heap.objs.size) (.ref I))).push (prO .none .none)).push (zipO .none (s.heap.objs.size + 1) (s.heap.objs.size + 2))).get? (s.heap.objs.size + 1) = some (prO (.ref s.heap.objs.size) (.ref I)) := by
    refine Heap.get?_push_of_some _ (Heap.get?_push_of_some _ ?_)
    rw [← z1]; exact Heap.get?_push_size _ rfl
  have g0 : ((((s.heap.push (rangeIt a (Builtin.Range.rangeSize a b c) c)).push (prO (.ref s.heap.objs.size) (.ref I))).push (prO .none .none)).push (zipO .none (s.heap.objs.size + 1) (s.heap.objs.size + 2))).get? s.heap.objs.size = some (rangeIt a (Builtin.Range.rangeSize a b c) c) :=
    Heap.get?_push_of_some _ (Heap.get?_push_of_some _ (Heap.get?_push_of_some _ (Heap.get?_push_size _ rfl)))
  exact ⟨⟨_, g3, rfl⟩, h _ g3 g1 g2 g0 z4 fun c o x => Heap.get?_push_of_some _ (Heap.get?_push_of_some _ (Heap.get?_push_of_some _ (Heap.get?_push_of_some _ x)))⟩

theorem zip_let {elts : List PySem.Expr} {k1 : Nat} {pos : Pos} {z TI TO T : Addr} {Q : Unit → Shared → Prop} (hz : s.heap.get? z = some (zipO (rawInt T) TI TO))
    (hQ : ∀ h', h'.get? z = some (zipO .none TI TO) → Heap.SameBut z s.heap h' → Q () { s with heap := h' }) :
    wpAny (model prog w) A (letOwnedTupleGo (.Tuple elts k1 pos) (.ref z) (.ref T)) Q E s := wpAny_letOwnedTupleGo_zip hz hQ
theorem zip_self {z TI TO : Addr} {f0 : Value} {Q : Value → Shared → Prop} (hz : s.heap.get? z = some (zipO f0 TI TO)) (h : Q (.ref z) s) : wpAny (model prog w) A (pyIter (.ref z)) Q E s := wpAny_pyIter_zip hz h
end
end Mine

namespace Mine
open PyProof.Rows
section
variable {prog : Program} {w : World} {A : Around} {E : Value → Shared → Prop} {s : Shared} {h₀ : Heap} {L : Addr} {m : Str → Option Value} {news : List (Addr × Obj)}

theorem range3 {a b c : Int} {t u v : Tok} {Q : Value → Shared → Prop} (Fm : Fr h₀ L s.heap m) (N : News h₀ L s.heap news) (hc : c ≠ 0) (hp : Builtin.divisionGoesByPylong (b - a) c = false)
    (h : ∀ r h', Fr h₀ L h' m → News h₀ L h' ((r, rangeOb a b c t u v) :: news) → (∀ p ∈ news, p.1 < r) → Q (.ref r) { s with heap := h' }) : wpAny (model prog w) A (call (.type "range") [.int a t, .int b u, .int c v]) Q E s :=
  call_range_3 hc (h _ _ (Fm.push _) (N.push Fm _) fun p hp => Heap.lt_size (N p hp).1) (.inl hp)

/-- apart from the five -/
def Ap5 (news : List (Addr × Obj)) (z TI TO i1 i2 : Addr) : Prop := ∀ p ∈ news, p.1 ≠ z ∧ p.1 ≠ TI ∧ p.1 ≠ TO ∧ p.1 ≠ i1 ∧ p.1 ≠ i2

theorem fresh_at (Fm : Fr h₀ L s.heap m) {b : Addr} (hb : s.heap.objs.size ≤ b) : b ≠ L ∧ h₀.get? b = none :=
  ⟨Nat.ne_of_gt (Nat.lt_of_lt_of_le Fm.ns.lt hb), Heap.get?_none_of_le (Nat.le_trans Fm.above (Nat.le_trans (Nat.le_of_lt Fm.ns.lt) hb))⟩

theorem zip_start {r I l : Addr} {a b c : Int} {t u v : Tok} {k : Nat} {o : Obj} {Q : Value → Shared → Prop} (Fm : Fr h₀ L s.heap m) (N : News h₀ L s.heap news) (hsm : Builtin.Range.small a b c = true) (hr : (r, rangeOb a b c t u v) ∈ news) (hI : (I, o) ∈ news) (it : ListIt o l k)
    (h : ∀ z TI TO i1 h', Fr h₀ L h' m → News h₀ L h' ((z, zipO .none TI TO) :: (TI, prO (.ref i1) (.ref I)) :: (TO, prO .none .none) :: (i1, rangeIt a (Builtin.Range.rangeSize a b c) c) :: news) → ZAp z TI TO i1 I → (∀ p ∈ news, p.1 ≠ z ∧ p.1 ≠ TI ∧ p.1 ≠ TO ∧ p.1 ≠ i1) → Q (.ref z) { s with heap := h' }) :
    wpAny (model prog w) A (call (.type "zip") [.ref r, .ref I]) Q E s := by
  refine call_zip_ri hsm (N _ hr).1 ⟨o, (N _ hI).1, it.1, it.2⟩ fun h' e3 e1 e2 e0 hsz hk => ?_
  have hlt : ∀ p ∈ news, p.1 < s.heap.objs.size := fun p hp => Heap.lt_size (N p hp).1
  have hI' : I < s.heap.objs.size := hlt _ hI
  have n1 : ∀ k : Nat, s.heap.objs.size < s.heap.objs.size + (k + 1) := fun k => Nat.lt_add_of_pos_right (Nat.succ_pos k)
  refine h (s.heap.objs.size + 3) (s.heap.objs.size + 1) (s.heap.objs.size + 2) s.heap.objs.size h' (Fr.kept Fm hk) (fun p hp => ?_) ⟨?_, ?_, ?_, ?_, ?_, ?_, ?_, ?_, ?_, ?_⟩ fun p hp => ⟨?_, ?_, ?_, ?_⟩
  · rcases List.mem_cons.mp hp with rfl | hp
    · exact ⟨e3, fresh_at Fm (Nat.le_add_right _ _)⟩
    rcases List.mem_cons.mp hp with rfl | hp
    · exact ⟨e1, fresh_at Fm (Nat.le_add_right _ _)⟩
    rcases List.mem_cons.mp hp with rfl | hp
    · exact ⟨e2, fresh_at Fm (Nat.le_add_right _ _)⟩
    rcases List.mem_cons.mp hp with rfl | hp
    · exact ⟨e0, fresh_at Fm (Nat.le_refl _)⟩
    · exact ⟨hk _ _ (N p hp).1, (N p hp).2⟩
  · exact Nat.ne_of_gt (Nat.add_lt_add_left (by decide) _)
  · exact Nat.ne_of_gt (Nat.add_lt_add_left (by decide) _)
  · exact Nat.ne_of_gt (n1 2)
  · exact Nat.ne_of_gt (Nat.lt_trans hI' (n1 2))
  · exact Nat.ne_of_lt (Nat.add_lt_add_left (by decide) _)
  · exact Nat.ne_of_gt (n1 0)
  · exact Nat.ne_of_gt (Nat.lt_trans hI' (n1 0))
  · exact Nat.ne_of_gt (n1 1)
  · exact Nat.ne_of_gt (Nat.lt_trans hI' (n1 1))
  · exact Nat.ne_of_gt hI'
  · exact Nat.ne_of_lt (Nat.lt_trans (hlt p hp) (n1 2))
  · exact Nat.ne_of_lt (Nat.lt_trans (hlt p hp) (n1 0))
  · exact Nat.ne_of_lt (Nat.lt_trans (hlt p hp) (n1 1))
  · exact Nat.ne_of_lt (hlt p hp)

theorem zip_next {z TI TO i1 I l : Addr} {a b : Value} {x left step : Int} {o2 : Obj} {k n : Nat} {us : List Value} {Q : Option Value → Shared → Prop} (Fm : Fr h₀ L s.heap m)
    (N : News h₀ L s.heap ((z, zipO .none TI TO) :: (TI, prO (.ref i1) (.ref I)) :: (TO, prO a b) :: (i1, rangeIt x left step) :: (I, o2) :: news)) (D : ZAp z TI TO i1 I) (hap : Ap5 news z TI TO i1 I)
    (it : ListIt o2 l k) (hl : (l, listOf us.toArray n) ∈ news) (hk : k < us.length) (hleft : 0 < left)
    (h : ∀ (T : Addr) (t : Tok) (h' : Heap) (tk : Nat) (o2' : Obj), Fr h₀ L h' m → News h₀ L h' ((T, prO (.int x t) (us.getD k .none)) :: (z, zipO (rawInt T) TI TO) :: (TI, prO (.ref i1) (.ref I)) :: (TO, prO (.int x t) (us.getD k .none)) :: (i1, rangeIt (x + step) (left - 1) step) :: (I, o2') :: news) → ListIt o2' l (k + 1) →
      (T ≠ z ∧ T ≠ TI ∧ T ≠ TO ∧ T ≠ i1 ∧ T ≠ I) → (∀ p ∈ news, p.1 < T) → Q (some (.ref T)) { s with heap := h', toks := tk }) :
    wpAny (model prog w) A (pyNext (.ref z)) Q E s := by
  have z0 := N _ (.head _)
  have z1 := N _ (.tail _ (.head _))
  have z2 := N _ (.tail _ (.tail _ (.head _)))
  have z3 := N _ (.tail _ (.tail _ (.tail _ (.head _))))
  have z4 := N _ (.tail _ (.tail _ (.tail _ (.tail _ (.head _)))))
  have Nn : ∀ p ∈ news, s.heap.get? p.1 = some p.2 ∧ p.1 ≠ L ∧ h₀.get? p.1 = none := fun p hp => N p (.tail _ (.tail _ (.tail _ (.tail _ (.tail _ hp)))))
  have hl5 := hap _ hl
  refine zip_turn D z0.1 z1.1 z2.1 z3.1 z4.1 it ⟨_, (Nn _ hl).1, rfl, n, rfl⟩ ⟨hl5.1, hl5.2.2.1, hl5.2.2.2.1⟩ hk hleft fun h' t tk o2' f0 f2 f3 f4 it' f5 hsz kp => ?_
  have lt : ∀ {b : Addr} {o : Obj}, s.heap.get? b = some o → s.heap.objs.size ≠ b := fun e => Nat.ne_of_gt (Heap.lt_size e)
  have keep : ∀ b o, h₀.get? b = some o → s.heap.get? b = some o → h'.get? b = some o := fun b o e0 e => kp b o (fun q => by rw [q, z0.2.2] at e0; cases e0) (fun q => by rw [q, z2.2.2] at e0; cases e0) (fun q => by rw [q, z3.2.2] at e0; cases e0) (fun q => by rw [q, z4.2.2] at e0; cases e0) e
  refine h s.heap.objs.size t h' tk o2' ?_ (fun p hp => ?_) it' ⟨lt z0.1, lt z1.1, lt z2.1, lt z3.1, lt z4.1⟩ fun p hp => Heap.lt_size (Nn p hp).1
  · obtain ⟨oL, es, ep, hoL, r⟩ := Fm.ns
    exact ⟨⟨oL, es, ep, kp L oL z0.2.1.symm z2.2.1.symm z3.2.1.symm z4.2.1.symm hoL, r⟩, fun b o e => keep b o e (Fm.keep b o e), Fm.above⟩
  · rcases List.mem_cons.mp hp with rfl | hp
    · exact ⟨f5, fresh_at Fm (Nat.le_refl _)⟩
    rcases List.mem_cons.mp hp with rfl | hp
    · exact ⟨f0, z0.2⟩
    rcases List.mem_cons.mp hp with rfl | hp
    · exact ⟨kp _ _ D.zTI.symm D.IO D.I1 D.I2 z1.1, z1.2⟩
    rcases List.mem_cons.mp hp with rfl | hp
    · exact ⟨f2, z2.2⟩
    rcases List.mem_cons.mp hp with rfl | hp
    · exact ⟨f3, z3.2⟩
    rcases List.mem_cons.mp hp with rfl | hp
    · exact ⟨f4, z4.2⟩
    · have h5 := hap p hp
      exact ⟨kp _ _ h5.1 h5.2.2.1 h5.2.2.2.1 h5.2.2.2.2 (Nn p hp).1, (Nn p hp).2⟩

theorem zip_fin {z TI TO i1 I : Addr} {a b : Value} {x left step : Int} {o2 : Obj} {Q : Option Value → Shared → Prop} (hh : A.handled = none) (Fm : Fr h₀ L s.heap m)
    (N : News h₀ L s.heap ((z, zipO .none TI TO) :: (TI, prO (.ref i1) (.ref I)) :: (TO, prO a b) :: (i1, rangeIt x left step) :: (I, o2) :: news)) (D : ZAp z TI TO i1 I) (hap : Ap5 news z TI TO i1 I) (hleft : left ≤ 0)
    (h : ∀ h', Fr h₀ L h' m → News h₀ L h' ((I, o2) :: news) → Q none { s with heap := h' }) :
    wpAny (model prog w) A (pyNext (.ref z)) Q E s := by
  have z0 := N _ (.head _)
  have z1 := N _ (.tail _ (.head _))
  have z2 := N _ (.tail _ (.tail _ (.head _)))
  have z3 := N _ (.tail _ (.tail _ (.tail _ (.head _))))
  have Nn : ∀ p ∈ (I, o2) :: news, s.heap.get? p.1 = some p.2 ∧ p.1 ≠ L ∧ h₀.get? p.1 = none := fun p hp => N p (.tail _ (.tail _ (.tail _ (.tail _ hp))))
  refine zip_stop hh D z0.1 z1.1 z2.1 z3.1 hleft fun h' kp => h h' ?_ fun p hp => ?_
  · obtain ⟨oL, es, ep, hoL, r⟩ := Fm.ns
    exact ⟨⟨oL, es, ep, kp L oL z0.2.1.symm z3.2.1.symm hoL, r⟩, fun b o e => kp b o (fun q => by rw [q, z0.2.2] at e; cases e) (fun q => by rw [q, z3.2.2] at e; cases e) (Fm.keep b o e), Fm.above⟩
  · rcases List.mem_cons.mp hp with rfl | hp'
    · exact ⟨kp _ _ D.z2.symm D.n12.symm (Nn _ hp).1, (Nn _ hp).2⟩
    · have h5 := hap p hp'
      exact ⟨kp _ _ h5.1 h5.2.2.2.1 (Nn p hp).1, (Nn p hp).2⟩

theorem zip_let_led {elts : List PySem.Expr} {k1 : Nat} {pos : Pos} {z TI TO T : Addr} {Q : Unit → Shared → Prop} (Fm : Fr h₀ L s.heap m) (N : News h₀ L s.heap ((z, zipO (rawInt T) TI TO) :: news)) (hz : ∀ p ∈ news, p.1 ≠ z)
    (h : ∀ h', Fr h₀ L h' m → News h₀ L h' ((z, zipO .none TI TO) :: news) → Q () { s with heap := h' }) :
    wpAny (model prog w) A (letOwnedTupleGo (.Tuple elts k1 pos) (.ref z) (.ref T)) Q E s := by
  have z0 := N _ (.head _)
  exact zip_let z0.1 fun h' e hs => h h' (Fm.change hs z0.2.1 z0.2.2) (News.chg N hz hs e)
end
end Mine

namespace Mine
open PyProof.Rows
section
variable {prog : Program} {w : World} {A : Around} {E : Value → Shared → Prop} {s : Shared} {h₀ : Heap} {L C : Addr} {m mC : Str → Option Value} {news : List (Addr × Obj)} {oC : Obj} {env : Env} {y1 y2 y3 : Str} {p1 p2 p3 pos : Pos}

theorem News.ext_new (Fm : Fr h₀ L s.heap m) {h' : Heap} (N : News h₀ L s.heap news) (hs : Heap.ExtBut s.heap.objs.size s.heap h') : Fr h₀ L h' m ∧ News h₀ L h' news := by
  have k : ∀ b o, s.heap.get? b = some o → h'.get? b = some o := fun b o e => hs b o (Nat.ne_of_lt (Heap.lt_size e)) e
  exact ⟨Fr.kept Fm k, fun p hp => ⟨k _ _ (N p hp).1, (N p hp).2⟩⟩

theorem comp_cell {y : Str} {c : Addr} {o : Obj} {v : Value} {pos : Pos} {Q : Value → Shared → Prop} (N : News h₀ L s.heap news) (hd : o.data = .cell (some v)) (hm : (c, o) ∈ news) (hc : env.cells.lookup y = some c) (hk : env.scope.kind = .function) (hl : env.kindOf y = some .cell)
    (h : Q v s) (hb : (y == ("__debug__" : Str)) = false := by decide) : wpAny (model prog w) A (eval (.Name y pos) env) Q E s :=
  wpAny_Name (wpAny_loadName_cell hk hl hc ⟨o, N.get hm, hd⟩ h) hb

theorem comp_unpack2 {x : Addr × Obj} {T : Addr} {v1 v2 : Value} {k : Nat} {Q : Unit → Shared → Prop} (F : Fr h₀ L s.heap m) (N : News h₀ L s.heap (x :: (C, oC) :: news)) (hO : NsO oC mC) (hx : x.1 ≠ C) (hoff : ∀ p ∈ news, p.1 ≠ C) (hT : (T, prO v1 v2) ∈ news) (hh : A.handled = none)
    (hl1 : env.kindOf y1 = some .local) (hl2 : env.kindOf y2 = some .local) (he : env.locals = C)
    (h : ∀ h' tk oC', Fr h₀ L h' m → News h₀ L h' (x :: (C, oC') :: news) → NsO oC' (fun z => if z = y2 then some v2 else if z = y1 then some v1 else mC z) → Q () { s with heap := h', toks := tk })
    (hp : (env.scope.kind == .class || (env.scope.kind == .module && env.locals != env.globals)) = false := by rfl) : wpAny (model prog w) A (assign (.Tuple [.Name y1 p1, .Name y2 p2] k pos) env (.ref T)) Q E s := by
  refine assign_Tuple_tuple hh (items := #[v1, v2]) ⟨_, (N _ (.tail _ (.tail _ hT))).1, rfl, 0, rfl⟩ rfl rfl fun h' hs => ?_
  obtain ⟨F1, N1⟩ := News.ext_new F N hs
  show wpAny _ _ (assignInOrder [assign (.Name y1 p1) env, assign (.Name y2 p2) env] [v1, v2]) _ _ _
  unfold assignInOrder
  refine wpAny_bind (wpAny_holding (comp_store F1 N1 hO hx hoff hl1 he ?_ hp))
  intro h2 tk2 oC2 F2 N2 hO2
  unfold assignInOrder
  refine wpAny_bind (wpAny_holding (comp_store F2 N2 hO2 hx hoff hl2 he ?_ hp))
  intro h3 tk3 oC3 F3 N3 hO3
  unfold assignInOrder
  exact wpAny_pure (h h3 tk3 oC3 F3 N3 hO3)

theorem comp_unpack3 {x : Addr × Obj} {T : Addr} {v1 v2 v3 : Value} {k n : Nat} {Q : Unit → Shared → Prop} (F : Fr h₀ L s.heap m) (N : News h₀ L s.heap (x :: (C, oC) :: news)) (hO : NsO oC mC) (hx : x.1 ≠ C) (hoff : ∀ p ∈ news, p.1 ≠ C) (hT : (T, tupOf [v1, v2, v3] n) ∈ news) (hh : A.handled = none)
    (hl1 : env.kindOf y1 = some .local) (hl2 : env.kindOf y2 = some .local) (hl3 : env.kindOf y3 = some .local) (he : env.locals = C)
    (h : ∀ h' tk oC', Fr h₀ L h' m → News h₀ L h' (x :: (C, oC') :: news) → NsO oC' (fun z => if z = y3 then some v3 else if z = y2 then some v2 else if z = y1 then some v1 else mC z) → Q () { s with heap := h', toks := tk })
    (hp : (env.scope.kind == .class || (env.scope.kind == .module && env.locals != env.globals)) = false := by rfl) : wpAny (model prog w) A (assign (.Tuple [.Name y1 p1, .Name y2 p2, .Name y3 p3] k pos) env (.ref T)) Q E s := by
  refine assign_Tuple_tuple hh (items := #[v1, v2, v3]) ⟨_, (N _ (.tail _ (.tail _ hT))).1, rfl, n, rfl⟩ rfl rfl fun h' hs => ?_
  obtain ⟨F1, N1⟩ := News.ext_new F N hs
  show wpAny _ _ (assignInOrder [assign (.Name y1 p1) env, assign (.Name y2 p2) env, assign (.Name y3 p3) env] [v1, v2, v3]) _ _ _
  unfold assignInOrder
  refine wpAny_bind (wpAny_holding (comp_store F1 N1 hO hx hoff hl1 he ?_ hp))
  intro h2 tk2 oC2 F2 N2 hO2
  unfold assignInOrder
  refine wpAny_bind (wpAny_holding (comp_store F2 N2 hO2 hx hoff hl2 he ?_ hp))
  intro h3 tk3 oC3 F3 N3 hO3
  unfold assignInOrder
  refine wpAny_bind (wpAny_holding (comp_store F3 N3 hO3 hx hoff hl3 he ?_ hp))
  intro h4 tk4 oC4 F4 N4 hO4
  unfold assignInOrder
  exact wpAny_pure (h h4 tk4 oC4 F4 N4 hO4)
/-- three ints and refs unpacked into names of the def's own -/
theorem fr_unpack3 {a : Addr} {cn : Str} {cs : Scope} {ccd : Value} {cl : List (Str × Addr)} {T : Addr} {v1 v2 v3 : Value} {k n : Nat} {Q : Unit → Shared → Prop} (F : Fr h₀ L s.heap m) (N : News h₀ L s.heap news) (hT : (T, tupOf [v1, v2, v3] n) ∈ news) (hh : A.handled = none) (hk : cs.kind = .function)
    (hl1 : (envX cn cs L a ccd cl).kindOf y1 = some .local) (hl2 : (envX cn cs L a ccd cl).kindOf y2 = some .local) (hl3 : (envX cn cs L a ccd cl).kindOf y3 = some .local)
    (h : ∀ h' tk, Fr h₀ L h' (fun z => if z = y3 then some v3 else if z = y2 then some v2 else if z = y1 then some v1 else m z) → News h₀ L h' news → Q () { s with heap := h', toks := tk }) :
    wpAny (model prog w) A (assign (.Tuple [.Name y1 p1, .Name y2 p2, .Name y3 p3] k pos) (envX cn cs L a ccd cl) (.ref T)) Q E s := by
  refine assign_Tuple_tuple hh (items := #[v1, v2, v3]) ⟨_, (N _ hT).1, rfl, n, rfl⟩ rfl rfl fun h' hs => ?_
  obtain ⟨F1, N1⟩ := News.ext_new F N hs
  show wpAny _ _ (assignInOrder [assign (.Name y1 p1) _, assign (.Name y2 p2) _, assign (.Name y3 p3) _] [v1, v2, v3]) _ _ _
  unfold assignInOrder
  refine wpAny_bind (wpAny_holding (wpAny_assign_Name (storeX_L F1 N1 (fun h2 F2 N2 => ?_) hk hl1)))
  unfold assignInOrder
  refine wpAny_bind (wpAny_holding (wpAny_assign_Name (storeX_L F2 N2 (fun h3 F3 N3 => ?_) hk hl2)))
  unfold assignInOrder
  refine wpAny_bind (wpAny_holding (wpAny_assign_Name (storeX_L F3 N3 (fun h4 F4 N4 => ?_) hk hl3)))
  unfold assignInOrder
  exact wpAny_pure (h h4 _ F4 N4)
end
/-- a tuple of two ints and a value -/
def R3s (news : List (Addr × Obj)) (v : Value) (k : Int × Int) (x : Value) : Prop := ∃ a n t1 t2, v = .ref a ∧ (a, tupOf [.int k.1 t1, .int k.2 t2, x] n) ∈ news
theorem R3s.more {news news' : List (Addr × Obj)} {v x : Value} {k : Int × Int} (h : R3s news v k x) (hs : ∀ p ∈ news, p ∈ news') : R3s news' v k x := by
  obtain ⟨a, n, t1, t2, e, ho⟩ := h
  exact ⟨a, n, t1, t2, e, hs _ ho⟩
theorem R3s.two {news : List (Addr × Obj)} {v x : Value} {k : Int × Int} (h : R3s news v k x) : T2s news v k := by
  obtain ⟨a, n, t1, t2, e, ho⟩ := h
  exact ⟨a, n, t1, t2, x, e, ho⟩
theorem rangeSizeDown (q : Nat) : Builtin.Range.rangeSize 0 (-(q : Int)) (-1) = q := by
  unfold Builtin.Range.rangeSize
  rw [if_neg (by decide), show (- -1 : Int) = 1 from rfl, Int.ediv_one]
  split
  · omega
  · omega
end Mine

namespace Mine
open PyProof.Rows
section
variable {prog : Program} {w : World} {A : Around} {E : Value → Shared → Prop} {s : Shared} {h₀ : Heap} {L C D I l : Addr} {m mC : Str → Option Value} {base : List (Addr × Obj)} {oC : Obj} {env : Env} {y1 y2 y3 : Str} {p1 p2 p3 pos : Pos}

theorem comp_items3 {elt : PySem.Expr} {scope : Scope} {cl : List (Str × Addr)} {Done : Value → Addr → Shared → Prop} {items : List Value} {n kx : Nat} {o : Obj} (P : Nat → Value → Prop) (kk : Nat → Int × Int) (xx : Nat → Value)
    (hl : (l, listOf items.toArray n) ∈ base) (F : Fr h₀ env.locals s.heap m) (N : News h₀ env.locals s.heap ((I, o) :: base)) (hI : ∀ p ∈ base, p.1 ≠ I) (it : ListIt o l 0) (hh : A.handled = none) (hz : items.length ≤ 10000)
    (hitem : ∀ i, i < items.length → R3s base (items.getD i .none) (kk i) (xx i))
    (hk1 : ∀ C, (compEnvC scope cl C env).kindOf y1 = some .local) (hk2 : ∀ C, (compEnvC scope cl C env).kindOf y2 = some .local) (hk3 : ∀ C, (compEnvC scope cl C env).kindOf y3 = some .local)
    (helt : ∀ (i : Nat) (D C : Addr) (oD oC oI : Obj) (mC : Str → Option Value) (h : Heap) (tk : Nat) (Q : Value → Shared → Prop), i < items.length → Fr h₀ env.locals h m → News h₀ env.locals h ((D, oD) :: (C, oC) :: (I, oI) :: base) → NsO oC mC → mC y3 = some (xx i) →
      (∀ x h' tk', Fr h₀ env.locals h' m → News h₀ env.locals h' ((D, oD) :: (C, oC) :: (I, oI) :: base) → P i x → Q x { s with heap := h', toks := tk' }) →
      wpAny (model prog w) A (eval elt (compEnvC scope cl C env)) Q (fun _ _ => False) { s with heap := h, toks := tk })
    (done : ∀ (acc : List Value) (n : Nat) (mC : Str → Option Value) (D C : Addr) (oC : Obj) (h : Heap) (tk : Nat), Fr h₀ env.locals h m → News h₀ env.locals h ((D, listOf acc.toArray n) :: (C, oC) :: base) → NsO oC mC → Off base D C → D ≠ C → acc.length = items.length → (∀ i, i < items.length → P i (acc.getD i .none)) →
      Done (.ref D) C { s with heap := h, toks := tk })
    (hp : ∀ C, (((compEnvC scope cl C env).scope.kind == .class || ((compEnvC scope cl C env).scope.kind == .module && (compEnvC scope cl C env).locals != (compEnvC scope cl C env).globals)) = false) := by intro _; rfl) :
    CompAt prog w A env (.Tuple [.Name y1 p1, .Name y2 p2, .Name y3 p3] kx pos) elt scope cl Done (.ref I) s := by
  refine ⟨h₀, m, (I, o) :: base, fun k acc nw => k ≤ items.length ∧ ∃ oI, nw = (I, oI) :: base ∧ ListIt oI l (items.length - k) ∧ acc.length = items.length - k ∧ ∀ i, i < items.length - k → P i (acc.getD i .none),
    fun acc nw => nw = base ∧ acc.length = items.length ∧ ∀ i, i < items.length → P i (acc.getD i .none), items.length, F, N, ?_, ?_, ?_, ?_⟩
  · exact ⟨Nat.le_refl _, o, rfl, by rw [Nat.sub_self]; exact it, by simp, fun i hi => absurd hi (by omega)⟩
  · exact fun s' Q' E' N' hq => wpAny_pyIter_listiter (l := l) (i := 0) ⟨o, (N' _ (.head _)).1, it.1, it.2⟩ hq
  · rintro D C hDC hlt k acc nw n₁ mC s' ⟨hk', oI, rfl, itI, hlen, hP⟩ ⟨h5, tk5, oC, rfl, F5, N5, hO5, hoff, hne⟩
    change News h₀ env.locals h5 ((D, listOf acc.toArray n₁) :: (C, oC) :: (I, oI) :: base) at N5
    change Off _ D C at hoff
    change D ≠ C at hne
    have hI0 := hoff (I, oI) (.head _)
    have hoffb : Off base D C := fun p hp => hoff p (.tail _ hp)
    have hoffI : ∀ x, Off ((I, x) :: base) D C := fun x p hp => by
      rcases List.mem_cons.mp hp with rfl | hp
      · exact hI0
      · exact hoffb p hp
    have N5' : News h₀ env.locals h5 ((I, oI) :: (D, listOf acc.toArray n₁) :: (C, oC) :: base) := News.sub N5 (by simp +contextual)
    have hI5 : ∀ p ∈ (D, listOf acc.toArray n₁) :: (C, oC) :: base, p.1 ≠ I := List.forall_mem_cons.mpr ⟨Ne.symm hI0.1, List.forall_mem_cons.mpr ⟨Ne.symm hI0.2, hI⟩⟩
    have hl5 : h5.IsList l items.toArray := News.isList N5' (.tail _ (.tail _ (.tail _ hl)))
    cases k with
    | zero =>
      refine next_list_end hh F5 N5' hI5 itI hl5 (by omega) ?_
      intro h6 F6 N6
      exact ⟨base, mC, ⟨h6, _, oC, rfl, F6, N6, hO5, hoffb, hne⟩, rfl, by omega, fun i hi => hP i (by omega)⟩
    | succ k =>
      refine next_list F5 N5' hI5 itI hl5 (by omega) ?_
      intro oI' h6 F6 N6 it6
      obtain ⟨aT, nT, t1, t2, eT, mT⟩ := hitem (items.length - (k + 1)) (by omega)
      rw [eT]
      refine wpAny_letOwnedTupleGo_listiter (l := l) (i := items.length - (k + 1) + 1) ⟨oI', (N6 _ (.head _)).1, it6.1, it6.2⟩ ?_
      refine comp_unpack3 (C := C) (x := (D, listOf acc.toArray n₁)) (news := (I, oI') :: base) F6 (News.sub N6 (by simp +contextual)) hO5 hne (fun p hp => (hoffI _ p hp).2) (.tail _ mT) hh (hk1 C) (hk2 C) (hk3 C) rfl ?_ (hp C)
      intro h7 tk7 oC7 F7 N7 hO7
      refine helt (items.length - (k + 1)) D C _ oC7 oI' _ h7 tk7 _ (by omega) F7 N7 hO7 (if_pos rfl) ?_
      intro x h8 tk8 F8 N8 hx
      refine ⟨k, (I, oI') :: base, _, by omega, ⟨h8, tk8, oC7, rfl, F8, N8, hO7, hoffI _, hne⟩, by omega, by omega, oI', rfl, by rw [show items.length - k = items.length - (k + 1) + 1 by omega]; exact it6, by rw [List.length_append, hlen]; simp; omega, ?_⟩
      intro i hi
      by_cases hc : i < items.length - (k + 1)
      · have : (acc ++ [x]).getD i .none = acc.getD i .none := by
          rw [getD_lt (by rw [List.length_append]; omega), getD_lt (by omega), List.getElem_append_left]
        rw [this]
        exact hP i hc
      · obtain rfl : i = items.length - (k + 1) := by omega
        have : (acc ++ [x]).getD (items.length - (k + 1)) .none = x := by
          rw [← hlen]; simp
        rw [this]
        exact hx
  · rintro acc nw n₁ mC D C s' ⟨h5, tk5, oC, rfl, F5, N5, hO5, hoff, hne⟩ ⟨rfl, hlen, hP⟩
    exact done acc n₁ mC D C oC h5 tk5 F5 N5 hO5 hoff hne hlen hP
theorem comp_end2 {h : Heap} {acc : List Value} {n : Nat} {P : Heap → Prop} {news : List (Addr × Obj)} (F : Fr h₀ L h m) (N : News h₀ L h ((D, listOf acc.toArray n) :: (C, oC) :: news)) (hO : NsO oC mC) (hoff : Off news D C) (hne : D ≠ C)
    (k : ∀ h', Fr h₀ L h' m → News h₀ L h' ((D, listOf acc.toArray n) :: news) → (∀ p ∈ news, p.1 ≠ D) → P h') :
    ∃ m, h.Ns C m ∧ ∀ h', Heap.SameBut C h h' → P h' := by
  have zC := N _ (.tail _ (.head _))
  refine ⟨mC, hO.ns zC.1, fun h' hs => k h' (F.change hs zC.2.1 zC.2.2) (fun p hp => ?_) fun p hp => (hoff p hp).1⟩
  rcases List.mem_cons.mp hp with rfl | hp
  · have z := N _ (.head _)
    exact ⟨(hs.2 D hne).trans z.1, z.2⟩
  · have z := N _ (.tail _ (.tail _ hp))
    exact ⟨(hs.2 _ (hoff p hp).2).trans z.1, z.2⟩
theorem loadX_L {M : Model} {x cn : Str} {cs : Scope} {a : Addr} {ccd v : Value} {cl : List (Str × Addr)} {Q : Value → Shared → Prop} (F : Fr h₀ L s.heap m) (hv : m x = some v) (h : Q v s)
    (hk : cs.kind = .function := by rfl) (hx : (envX cn cs L a ccd cl).kindOf x = some .local := by rfl) :
    wpAny M A (loadName (envX cn cs L a ccd cl) x) Q E s := wpAny_loadName_local hk hx F.ns hv h
theorem getm_sort {us : List Value} {n : Nat} {news : List (Addr × Obj)} {pl : Sem Bool} {Q : Value × List Value → Shared → Prop} (N : News h₀ L s.heap news) (hm : (l, listOf us.toArray n) ∈ news)
    (h : Q (.builtin "list.sort", [.ref l]) s) : wpAny (model prog w) A (getMethod (.ref l) "sort" pl) Q E s := kl_method N hm F.slot_list_sort F.type_list_sort h
end
end Mine

namespace Mine
open PyProof.Rows
section
variable {ρ : Value → Int × Int} {vs hs : List Value} {ι : Value → Nat} {ws : List Nat} {p q : Nat}
theorem triH_R {h₀ h : Heap} {L : Addr} {news : List (Addr × Obj)} {v x : Value} {k : Int × Int} (N : News h₀ L h news) (y : R3s news v k x) : (triH h v).2.1 = k.2 := by
  obtain ⟨a, n, t1, t2, rfl, hm⟩ := y
  have e : h.get? a = some (tupOf [Value.int k.1 t1, Value.int k.2 t2, x] n) := (N _ hm).1
  unfold triH
  dsimp only
  rw [e]
  rfl
/-- the row that a tuple stands for, read off the heap -/
def rowH (h : Heap) (v : Value) : Nat := (-(triH h v).2.1).toNat
/-- the key of a tuple that stands for row ι u -/
def ki (ρ : Value → Int × Int) (vs : List Value) (ι : Value → Nat) (u : Value) : Int × Int := ((ρ (vs.getD (ι u) .none)).1, -(ι u : Int))
def updN (ι : Value → Nat) (v : Value) (x : Nat) : Value → Nat := fun u => if u = v then x else ι u
theorem updN_self {v : Value} {x : Nat} : updN ι v x v = x := if_pos rfl
theorem updN_ne {u v : Value} {x : Nat} (h : u ≠ v) : updN ι v x u = ι u := if_neg h
/-- the row that tuple u stands for is ahead of row w -/
def Ahead (ρ : Value → Int × Int) (vs : List Value) (i w : Nat) : Prop := klt (fkey ρ (vs.getD i .none)) (fkey ρ (vs.getD w .none)) = true
/-- of the first p rows, hs holds those that are kept, ws the others -/
def Kept (ρ : Value → Int × Int) (vs : List Value) (ι : Value → Nat) (hs : List Value) (ws : List Nat) (p : Nat) : Prop :=
  (hs.map ι ++ ws).Perm (List.range p) ∧ ∀ w ∈ ws, ∀ u ∈ hs, Ahead ρ vs (ι u) w

theorem Kept.nodup (h : Kept ρ vs ι hs ws p) : (hs.map ι).Nodup := by
  have := h.1.nodup_iff.mpr List.nodup_range
  exact (List.nodup_append.mp this).1
theorem ki_nodup (h : (hs.map ι).Nodup) : (hs.map (ki ρ vs ι)).Nodup := by
  have e : hs.map ι = (hs.map (ki ρ vs ι)).map (fun k => (-k.2).toNat) := by
    rw [List.map_map]
    refine List.map_congr_left fun u _ => ?_
    simp [ki]
  rw [e] at h
  exact List.Pairwise.of_map _ (fun a b hab e => hab (by rw [e])) h
theorem Kept.lt (h : Kept ρ vs ι hs ws p) {u : Value} (hu : u ∈ hs) : ι u < p := by
  have := h.1.mem_iff.mp (List.mem_append_left _ (List.mem_map_of_mem hu))
  simpa using this

theorem kept_start {h₀ h : Heap} {L : Addr} {news : List (Addr × Obj)} {rs : List Value} (N : News h₀ L h news) (hlen : rs.length = q) (hP : ∀ i, i < q → R3s news (rs.getD i .none) ((ρ (vs.getD i .none)).1, -(i : Int)) (vs.getD i .none)) :
    Kept ρ vs (rowH h) rs [] q ∧ ∀ u ∈ rs, R3s news u (ki ρ vs (rowH h) u) (vs.getD (rowH h u) .none) := by
  have hi : ∀ i, i < q → rowH h (rs.getD i .none) = i := fun i hi => by
    have := triH_R N (hP i hi)
    unfold rowH
    rw [this]
    simp
  refine ⟨⟨?_, fun w hw => nomatch hw⟩, fun u hu => ?_⟩
  · have e : rs.map (rowH h) = List.range q := by
      apply List.ext_getElem
      · simp [hlen]
      · intro i h1 h2
        have h3 : i < q := by simpa using h2
        have := hi i h3
        rw [getD_lt (by omega)] at this
        rw [List.getElem_map, this, List.getElem_range]
    rw [e, List.append_nil]
  · obtain ⟨i, h1, rfl⟩ := List.getElem_of_mem hu
    have h2 := hP i (by omega)
    have h3 := hi i (by omega)
    rw [getD_lt h1] at h2 h3
    unfold ki
    rw [h3]
    exact h2

theorem up_lt (hup : vs.Pairwise fun u v => (ρ u).2 < (ρ v).2) {i j : Nat} (hij : i < j) (hj : j < vs.length) : (ρ (vs.getD i .none)).2 < (ρ (vs.getD j .none)).2 := by
  have := List.pairwise_iff_getElem.mp hup i j (by omega) hj hij
  rwa [getD_lt (by omega), getD_lt hj]

theorem ahead_of (hup : vs.Pairwise fun u v => (ρ u).2 < (ρ v).2) {i j : Nat} (hi : i < vs.length) (hj : j < vs.length) (h : (ρ (vs.getD j .none)).1 < (ρ (vs.getD i .none)).1 ∨ ((ρ (vs.getD j .none)).1 = (ρ (vs.getD i .none)).1 ∧ i < j)) : Ahead ρ vs i j := by
  unfold Ahead klt fkey
  rw [decide_eq_true_eq]
  rcases h with h | ⟨h, hij⟩
  · left; dsimp only; omega
  · right
    have := up_lt hup hij hj
    dsimp only
    omega
theorem ahead_ki (hup : vs.Pairwise fun u v => (ρ u).2 < (ρ v).2) {u v : Value} (hu : ι u < vs.length) (hv : ι v < vs.length) (h : klt (ki ρ vs ι v) (ki ρ vs ι u) = true) : Ahead ρ vs (ι u) (ι v) := by
  unfold klt ki at h
  rw [decide_eq_true_eq] at h
  refine ahead_of hup hu hv ?_
  dsimp only at h
  omega

theorem kept_in (hup : vs.Pairwise fun u v => (ρ u).2 < (ρ v).2) (hq : q < vs.length) (hk : Kept ρ vs ι hs [] q) (hh : HeapFrom (ki ρ vs ι) hs 0) (ht : ¬ (ki ρ vs ι (hs.getD 0 .none)).1 < (ρ (vs.getD q .none)).1) : Kept ρ vs ι hs [q] (q + 1) := by
  refine ⟨?_, fun w hw u hu => ?_⟩
  · rw [List.range_succ]
    have := hk.1
    rw [List.append_nil] at this
    exact this.append_right [q]
  · rw [List.mem_singleton.mp hw]
    have hlt := hk.lt hu
    refine ahead_of hup (by omega) hq ?_
    have hm := heap_min_mem hh u hu
    unfold kle ki at hm
    unfold ki at ht
    dsimp only at hm ht
    omega

theorem kept_out {hs' : List Value} {v : Value} (hup : vs.Pairwise fun u v => (ρ u).2 < (ρ v).2) (hq : q < vs.length) (hk : Kept ρ vs ι hs [] q) (hh : HeapFrom (ki ρ vs ι) hs 0) (h0 : 0 < hs.length) (hv : v ∉ hs)
    (ht : (ki ρ vs ι (hs.getD 0 .none)).1 < (ρ (vs.getD q .none)).1) (hp : hs'.Perm (hs.set 0 v)) : Kept ρ vs (updN ι v q) hs' [ι (hs.getD 0 .none)] (q + 1) := by
  cases hs with
  | nil => cases h0
  | cons a r =>
    simp only [List.set_cons_zero, List.getD_cons_zero] at *
    have hr : ∀ u ∈ r, updN ι v q u = ι u := fun u hu => updN_ne fun e => hv (e ▸ .tail _ hu)
    have ha := hk.lt (u := a) (.head _)
    refine ⟨?_, fun w hw u hu => ?_⟩
    · have h1 := hk.1
      rw [List.append_nil, List.map_cons] at h1
      have h2 : (hs'.map (updN ι v q)).Perm (q :: r.map ι) := by
        refine (hp.map _).trans ?_
        rw [List.map_cons, updN_self, List.map_congr_left hr]
      rw [List.range_succ]
      refine (h2.append_right _).trans ?_
      refine List.Perm.trans ?_ (List.perm_append_comm (l₁ := [q]))
      exact List.Perm.cons q ((List.perm_append_comm (l₂ := [ι a])).trans h1)
    · rw [List.mem_singleton.mp hw]
      rcases List.mem_cons.mp (hp.mem_iff.mp hu) with rfl | hu
      · rw [updN_self]
        refine ahead_of hup hq (by omega) (.inl ht)
      · rw [hr u hu]
        have hlt := hk.lt (u := u) (.tail _ hu)
        refine ahead_ki hup (by omega) (by omega) (klt_of (heap_min_mem hh u (.tail _ hu)) fun e => ?_)
        have hn := hk.nodup
        rw [List.map_cons, List.nodup_cons] at hn
        have e2 := congrArg Prod.snd e
        simp only [ki, List.getD_cons_zero] at e2
        exact hn.1 (List.mem_map.mpr ⟨u, hu, by omega⟩)

theorem kept_end {hs' : List Value} (hup : vs.Pairwise fun u v => (ρ u).2 < (ρ v).2) (hk : Kept ρ vs ι hs ws vs.length) (hw : ws.length ≤ 1) (hp : hs'.Perm hs) (hr : Rises (ki ρ vs ι) hs'.reverse) :
    (hs'.map (fun u => vs.getD (ι u) .none) ++ ws.map (fun i => vs.getD i .none)).Perm vs ∧ Rises (fkey ρ) (hs'.map (fun u => vs.getD (ι u) .none) ++ ws.map (fun i => vs.getD i .none)) := by
  refine ⟨?_, ?_⟩
  · have h1 : ((hs'.map ι ++ ws).map fun i => vs.getD i .none).Perm ((List.range vs.length).map fun i => vs.getD i .none) := (((hp.map ι).append_right ws).trans hk.1).map _
    rw [List.map_append, List.map_map] at h1
    have e : (List.range vs.length).map (fun i => vs.getD i .none) = vs := by
      apply List.ext_getElem
      · simp
      · intro i h1 h2
        simp [h2]
    rw [e] at h1
    exact h1
  · unfold Rises at *
    rw [List.pairwise_append]
    refine ⟨?_, ?_, ?_⟩
    · rw [List.pairwise_reverse] at hr
      rw [List.pairwise_map]
      refine hr.imp_of_mem fun {a b} ha hb hab => ?_
      exact ahead_ki hup (hk.lt (hp.mem_iff.mp ha)) (hk.lt (hp.mem_iff.mp hb)) hab
    · match ws, hw with
      | [], _ => exact List.Pairwise.nil
      | [x], _ => exact List.pairwise_singleton ..
    · intro x hx y hy
      obtain ⟨u, hu, rfl⟩ := List.mem_map.mp hx
      obtain ⟨i, hi, rfl⟩ := List.mem_map.mp hy
      exact hk.2 i hi u (hp.mem_iff.mp hu)
end
end Mine

namespace Mine
open PyProof.Rows
theorem ints_of_mem : ∀ {ws : List Value}, (∀ v ∈ ws, ∃ x t, v = Value.int x t) → ∃ ms, IntsAre ws ms
  | [], _ => ⟨[], .nil⟩
  | v :: ws, h => by
    obtain ⟨x, t, rfl⟩ := h v (.head _)
    obtain ⟨ms, hm⟩ := ints_of_mem (ws := ws) fun u hu => h u (.tail _ hu)
    exact ⟨x :: ms, .cons x t hm⟩
theorem mem_ints {vs : List Value} {ns : List Int} (h : IntsAre vs ns) : ∀ v ∈ vs, ∃ x t, v = Value.int x t := by
  induction h with
  | nil => exact fun v hv => nomatch hv
  | cons n t _ ih =>
    intro v hv
    rcases List.mem_cons.mp hv with rfl | hv
    · exact ⟨n, t, rfl⟩
    · exact ih v hv
theorem pick_mem {items : Array Value} {lo hi st : Option Int} : ∀ v ∈ (slicePick items lo hi st).toList, v ∈ items.toList := fun v hv => by
  unfold slicePick at hv
  simp only [List.mem_filterMap] at hv
  obtain ⟨i, _, hi⟩ := hv
  exact Array.mem_toList_iff.mpr (Array.mem_of_getElem? hi)
section
variable {prog : Program} {w : World} {A : Around} {E : Value → Shared → Prop} {s : Shared} {h₀ : Heap} {L l : Addr} {m : Str → Option Value} {news : List (Addr × Obj)}

theorem sum_at {vs : List Value} {ns : List Int} {Q : Value → Shared → Prop} (F : Fr h₀ L s.heap m) (N : News h₀ L s.heap news) (hh : A.handled = none) (hl : s.heap.IsList l vs.toArray) (hi : IntsAre vs ns)
    (h : ∀ h' tk t, Fr h₀ L h' m → News h₀ L h' news → Q (.int ns.sum t) { s with heap := h', toks := tk }) :
    wpAny (model prog w) A (call (.builtin "sum") [.ref l]) Q E s := by
  obtain ⟨xs, e⟩ := hi.allInts.items
  have hn := hi.numsOf
  have e2 : numsOf (intItems xs).toList = numsOf vs := by rw [← e]
  rw [nums_intItems, hn] at e2
  refine sum_intListG (xs := xs) hh (e ▸ hl) fun h' tk t' hk => ?_
  rw [preSum_eq, List.take_of_length_le (by simp), e2]
  exact h h' tk t' (Fr.kept F hk) (N.grown hk)

theorem len_lst {vs : List Value} {Q : Value → Shared → Prop} (hl : s.heap.IsList l vs.toArray) (hz : vs.length < 2 ^ 62) (h : ∀ t tk, Q (.int vs.length t) { s with toks := tk }) :
    wpAny (model prog w) A (call (.builtin "len") [.ref l]) Q E s := by
  refine len_list hl (by simp; omega) ?_
  rw [List.size_toArray]
  exact h _ _
theorem slice_ints_any {value slice : PySem.Expr} {vs : List Value} {ns : List Int} {vl vu vk : Value} {lo hi st : Option Int} {ops : List Value} {Q : Value → Shared → Prop}
    (F : Fr h₀ L s.heap m) (N : News h₀ L s.heap news) (hl : s.heap.IsList l vs.toArray) (hI : IntsAre vs ns) (pl : IsPart vl lo) (pu : IsPart vu hi) (pk : IsPart vk st) (h0 : st ≠ some 0) (hz : ns.length ≤ 63)
    (h : ∀ D h' (ws : List Value) (ms : List Int), IntsAre ws ms → ws.length ≤ 63 → Fr h₀ L h' m → News h₀ L h' ((D, listOf ws.toArray 0) :: news) → (∀ p ∈ news, p.1 < D) → Q (.ref D) { s with heap := h' })
    (hs : subscripted slice false (.ref l) (.ref s.heap.objs.size) = operate ops (getItem (.ref l) (.ref s.heap.objs.size)) := by with_unfolding_all rfl)
    (ht : ∀ r, letTemporaryGo value (.ref l) r = pure () := by intro _; with_unfolding_all rfl) :
    wpAny (model prog w) A (subscriptTail value slice (.ref l) (.ref s.heap.objs.size)) Q E { s with heap := s.heap.push { cls := .type "slice", data := .fields #[vl, vu, vk] } } := by
  have hsz : vs.toArray.size ≤ sizeLine := by rw [List.size_toArray, hI.length, sizeLine_eq]; omega
  obtain ⟨ms, hm⟩ := ints_of_mem (ws := (slicePick vs.toArray lo hi st).toList) fun v hv => mem_ints hI v (pick_mem v hv)
  refine slice_list3 F N hl pl pu pk h0 (fun h' F' N' => h _ h' (slicePick vs.toArray lo hi st).toList ms hm ?_ F' ?_ fun p hp => Nat.lt_succ_of_lt (Heap.lt_size (N p hp).1)) hs ht hsz
  · have := slicePick_size_le vs.toArray lo hi st
    have e := hI.length
    simp only [List.size_toArray, Array.length_toList] at this ⊢
    omega
  · rw [Array.toArray_toList]
    exact N'
end
end Mine

namespace Mine
open PyProof.Rows
theorem noFill_tuple_mul : fillsNumberSlot (.type "tuple") "mul" = pure false :=
  PySem.fillsNumberSlot_seq (id := "tuple.__mul__") (r := some (.builtin "tuple.__rmul__")) F.slot_tuple_mul.lookup (by decide +kernel) F.slot_tuple_rmul.lookup (by decide +kernel)
theorem repeat_tuple : seqRepeat? (.type "tuple") = pure (some (.builtin "tuple.__mul__")) := by
  unfold seqRepeat?
  rw [PySem.seqSlot_of (T := "tuple") (name := "__mul__") (id := "tuple.__mul__") F.slot_tuple_mul.lookup (by decide +kernel), PySem.seqSlot_of (T := "tuple") (name := "__rmul__") (id := "tuple.__rmul__") F.slot_tuple_rmul.lookup (by decide +kernel)]
  rfl
theorem rmul_int_tuple (a : Int) (t : Tok) (l : Addr) (items : Array Value) :
    Meets (Builtin.«int.__rmul__» ⟨[.int a t, .ref l], []⟩) (fun _ R s => s.heap.get? l = some { cls := .type "tuple", dict := none, data := .seq items 0, slots := #[] } ∧ R (.ok (.ret Value.notImplemented)) s) :=
  .of_wp fun prog w A R s h => by obtain ⟨hp, g, d, tk, os⟩ := s; obtain ⟨hl, h⟩ := h; wp_walk; exact ⟨_, rfl, h⟩
theorem mul_tuple_2 (v : Value) (t : Tok) (l : Addr) :
    Meets (Builtin.«tuple.__mul__» ⟨[.ref l, .int 2 t], []⟩) (fun _ R s => s.heap.get? l = some { cls := .type "tuple", dict := none, data := .seq #[v] 0, slots := #[] } ∧ R (.ok (.ret (.ref s.heap.objs.size))) { s with heap := s.heap.push { cls := .type "tuple", data := .seq #[v, v] } }) :=
  .of_wp fun prog w A R s h => by obtain ⟨hp, g, d, tk, os⟩ := s; obtain ⟨hl, h⟩ := h; wp_walk; exact ⟨_, rfl, h⟩
theorem mul_tuple_3 (v : Value) (t : Tok) (l : Addr) :
    Meets (Builtin.«tuple.__mul__» ⟨[.ref l, .int 3 t], []⟩) (fun _ R s => s.heap.get? l = some { cls := .type "tuple", dict := none, data := .seq #[v] 0, slots := #[] } ∧ R (.ok (.ret (.ref s.heap.objs.size))) { s with heap := s.heap.push { cls := .type "tuple", data := .seq #[v, v, v] } }) :=
  .of_wp fun prog w A R s h => by obtain ⟨hp, g, d, tk, os⟩ := s; obtain ⟨hl, h⟩ := h; wp_walk; exact ⟨_, rfl, h⟩
section
variable {prog : Program} {w : World} {A : Around} {E : Value → Shared → Prop} {s : Shared} {h₀ : Heap} {L l : Addr} {m : Str → Option Value} {news : List (Addr × Obj)}

theorem mul_tup {v : Value} {hands : Nat} {u : Tok} {Q : Value → Shared → Prop} (Fm : Fr h₀ L s.heap m) (N : News h₀ L s.heap news) (hm : (l, tupOf [v] 0) ∈ news) (hh : hands = 2 ∨ hands = 3)
    (h : ∀ D h', Fr h₀ L h' m → News h₀ L h' ((D, tupOf (List.replicate hands v) 0) :: news) → (∀ p ∈ news, p.1 < D) → Q (.ref D) { s with heap := h' }) :
    wpAny (model prog w) A (binaryOp .Mult (.ref l) (.int hands u)) Q E s := by
  have z := (N _ hm).1
  have hT : s.TypeIs (.ref l) "tuple" := ⟨_, z, rfl⟩
  have hn : ∀ o : Obj, Q (.ref s.heap.objs.size) { s with heap := s.heap.push (tupOf (List.replicate hands v) 0) } := fun _ => h _ _ (Fm.push _) (N.push Fm _) fun p hp => Heap.lt_size (N p hp).1
  refine wpAny_binaryOp_repeat_ref (T := "tuple") (U := "int") (by decide) hT (fun s' => typeIs_int s' _ u) noFill_tuple_mul F.fills_int_mul F.slot_int_rmul repeat_tuple F.slot_int_index.lookup
    (call_meets F.slot_int_rmul (typeIs_int s _ u) F.entry_int_rmul (F.args_int_rmul_2 _ _) (rmul_int_tuple _ u l _) ⟨z, rfl, hT, ?_⟩)
  rcases hh with rfl | rfl
  · exact call_meets F.slot_tuple_mul hT F.entry_tuple_mul (F.args_tuple_mul_2 _ _) (mul_tuple_2 v u l) ⟨z, hn default⟩
  · exact call_meets F.slot_tuple_mul hT F.entry_tuple_mul (F.args_tuple_mul_2 _ _) (mul_tuple_3 v u l) ⟨z, hn default⟩

theorem max_tup {vs : List Value} {ns : List Int} {c : Nat} {Q : Value → Shared → Prop} (hh : A.handled = none) (F : Fr h₀ L s.heap m) (N : News h₀ L s.heap news) (hm : (l, tupOf vs c) ∈ news) (hi : IntsAre vs ns) (hne : 0 < ns.length)
    (h : ∀ h' M (t : Tok) tk, Fr h₀ L h' m → News h₀ L h' news → M ∈ ns → (∀ a, a ∈ ns → a ≤ M) → Q (.int M t) { s with heap := h', toks := tk }) : wpAny (model prog w) A (call (.builtin "max") [.ref l]) Q E s := by
  obtain ⟨xs, e⟩ := hi.allInts.items
  have hns : ns = xs.toList.map (·.1) := by
    rw [← hi.numsOf, ← nums_intItems, ← e]
  have hsz : 0 < xs.size := by
    have h3 := hne; rw [hns, List.length_map, Array.length_toList] at h3; exact h3
  have ht : s.heap.IsTuple l (intItems xs) := ⟨_, (N _ hm).1, rfl, c, by rw [← e]⟩
  have hne2 : l ≠ s.heap.objs.size := Nat.ne_of_lt (Heap.lt_size (N _ hm).1)
  refine call_max_walk (wpAny_pyIter_tuple ht ?_)
  refine ⟨s.heap.objs.size, _, _, _, _, _, _, rfl, Walks.tuple (A := A.in1) hh _ l hne2 (intItems xs), ⟨⟨_, Heap.get?_push_size _ rfl, rfl, rfl⟩, ht.at fun o e => Heap.get?_push_of_some _ e⟩, fun b hb => ?_, by simpa [intItems] using hsz, CmpOf.ints_gt (numAt xs) (fun _ _ => intItems_at), fun v h' tk hP hk => ?_⟩
  · rcases List.mem_cons.mp hb with rfl | hb
    · exact Heap.lt_size (Heap.get?_push_size _ rfl)
    · obtain rfl := List.mem_singleton.mp hb
      exact Heap.lt_size (Heap.get?_push_of_some _ (N _ hm).1)
  · have hk' : ∀ b o, s.heap.get? b = some o → h'.get? b = some o := fun b o e => hk b o (fun hb => absurd (Heap.lt_size e) ((List.mem_singleton.mp hb) ▸ Nat.lt_irrefl _)) (Heap.get?_push_of_some _ e)
    have hP : (intItems xs)[argBest (fun i j => decide (numAt xs i > numAt xs j)) (xs.size - 1)]? = some v := by simpa [intItems] using hP
    obtain ⟨t, rfl⟩ := intItems_at hP
    obtain ⟨h1, h2⟩ := argBest_gt (numAt xs) (xs.size - 1)
    refine h _ _ t tk (Fr.kept F hk') (N.grown hk') ?_ fun a ha => ?_
    · rw [hns, numAt_eq]; exact getD_mem (by rw [List.length_map, Array.length_toList]; omega)
    · rw [hns] at ha
      obtain ⟨j, hj, rfl⟩ := mem_getD ha
      rw [List.length_map, Array.length_toList] at hj
      rw [← numAt_eq]; exact h2 j (by omega)

theorem sort_ints {vs : List Value} {ns : List Int} {n : Nat} {Q : Value → Shared → Prop} (Fm : Fr h₀ L s.heap m) (N : News h₀ L s.heap ((l, listOf vs.toArray n) :: news)) (hr : ∀ p ∈ news, p.1 ≠ l) (hI : IntsAre vs ns) (h64 : vs.length < 64)
    (h : ∀ (us : List Value) (ms : List Int) c h', IntsAre us ms → ms.Perm ns → ms.Pairwise (· ≤ ·) → Fr h₀ L h' m → News h₀ L h' ((l, listOf us.toArray c) :: news) → Q .none { s with heap := h' }) :
    wpAny (model prog w) A (call (.builtin "list.sort") [.ref l]) Q E s := by
  have z := N _ (.head _)
  refine wpAny_call_entry PyProof.Rows.slot_list_sort ⟨_, z.1, rfl⟩ PyProof.Rows.entry_list_sort (list_sort_tree (n := n) (vs := vs) z.1 hI h64 fun out ns' hI' hp hP => ⟨.none, rfl, ?_⟩) (PyProof.Rows.args_list_sort _)
  have N0 : News h₀ L s.heap news := fun p hp => N p (.tail _ hp)
  obtain ⟨c1, F1, N1⟩ := upd_hd (fun _ => (#[] : Array Value)) Fm N hr
  have F2 := F1.push (seqObj "tuple" vs.toArray 0)
  have N2 := News.grown N1 fun _ _ e => Heap.get?_push_of_some (seqObj "tuple" vs.toArray 0) e
  have F3 := F2.push (seqObj "list" #[] 0)
  have N3 := News.grown N2 fun _ _ e => Heap.get?_push_of_some (seqObj "list" #[] 0) e
  obtain ⟨c2, F4, N4⟩ := upd_hd (its := #[]) (fun _ => out) F3 N3 hr
  refine h out.toList ns' c2 _ hI' hp hP F4 ?_
  rw [Array.toArray_toList]
  exact N4
end
end Mine

namespace Mine
open PyProof.Rows
/-- a tuple of ints of the ledger -/
def TupI (news : List (Addr × Obj)) (a : Addr) (ks : List Int) : Prop := ∃ vs n, (a, tupOf vs n) ∈ news ∧ IntsAre vs ks
theorem TupI.more {news news' : List (Addr × Obj)} {a : Addr} {ks : List Int} (x : TupI news a ks) (hs : ∀ p ∈ news, p ∈ news') : TupI news' a ks := by
  obtain ⟨vs, n, hm, hi⟩ := x
  exact ⟨vs, n, hs _ hm, hi⟩
section
variable {prog : Program} {w : World} {A : Around} {E : Value → Shared → Prop} {s : Shared} {h₀ : Heap} {L d I : Addr} {m : Str → Option Value} {news base : List (Addr × Obj)} {o oI : Obj} {ep : Nat} {xs : List (List Int × Addr × Value)}
abbrev tkd (prog : Program) (w : World) : HeapKind prog w (List Int) := tupleKind (intKind prog w)
theorem items_are : ∀ {vs : List Value} {ks : List Int}, IntsAre vs ks → ItemsAre (intKind prog w) ks vs
  | _, _, .nil => .nil
  | _, _, .cons n t h => .cons (intKind_is prog w n t) (items_are h)
theorem TupI.key {h : Heap} {a : Addr} {ks : List Int} (N : News h₀ L h news) (x : TupI news a ks) : (tkd prog w).is h ks a := by
  obtain ⟨vs, n, hm, hi⟩ := x
  exact ⟨_, _, n, (N _ hm).1, rfl, rfl, items_are hi⟩
/-- a dict whose keys are tuples of ints -/
def TDict (prog : Program) (w : World) (news : List (Addr × Obj)) (o : Obj) (xs : List (List Int × Addr × Value)) (ep : Nat) : Prop :=
  ∃ es, o.ExactDict ∧ o.data = .dict es ep ∧ es.toList = xs.map (entryOfKey (tkd prog w)) ∧ (∀ x ∈ xs, TupI news x.2.1 x.1) ∧ (xs.map (·.1)).Nodup
theorem TDict.more {news' : List (Addr × Obj)} (x : TDict prog w news o xs ep) (hs : ∀ p ∈ news, p ∈ news') : TDict prog w news' o xs ep := by
  obtain ⟨es, a, b, c, e, f⟩ := x
  exact ⟨es, a, b, c, fun y hy => (e y hy).more hs, f⟩
theorem TDict.more_any {news' : List (Addr × Obj)} (x : TDict prog w news o [] ep) : TDict prog w news' o [] ep := by
  obtain ⟨es, a, b, c, _, f⟩ := x
  exact ⟨es, a, b, c, (fun y hy => nomatch hy), f⟩
theorem TDict.dictOf {h : Heap} (N : News h₀ L h news) (hd : h.get? d = some o) (x : TDict prog w news o xs ep) : h.DictOfH (tkd prog w) d xs := by
  obtain ⟨es, a, b, c, e, f⟩ := x
  exact ⟨o, es, ep, hd, a, b, c, fun y hy => (e y hy).key N, f⟩
theorem TDict.empty (knd : KeyKind prog w Int) (h : o.IsDictOf knd []) : ∃ ep, TDict prog w news o [] ep := by
  obtain ⟨es, ep, a, b, _, e, _⟩ := h
  refine ⟨ep, es, a, b, ?_, (fun x hx => nomatch hx), .nil⟩
  have := e.length
  simp at this
  simp [this]

theorem stored_mem {ks : List Int} {a : Addr} {v : Value} : ∀ x ∈ storedH xs ks a v, (∃ y ∈ xs, x.1 = y.1 ∧ x.2.1 = y.2.1) ∨ (x.1 = ks ∧ x.2.1 = a) := by
  intro x hx
  unfold storedH at hx
  split at hx
  · obtain ⟨y, hy, rfl⟩ := List.mem_map.mp hx
    left
    refine ⟨y, hy, ?_⟩
    unfold putAt
    split <;> exact ⟨rfl, rfl⟩
  · rcases List.mem_append.mp hx with hx | hx
    · exact .inl ⟨x, hx, rfl, rfl⟩
    · rw [List.mem_singleton.mp hx]
      exact .inr ⟨rfl, rfl⟩
theorem stored_keys {ks : List Int} {a : Addr} {v : Value} (q : List Int) : q ∈ (storedH xs ks a v).map (·.1) ↔ q ∈ xs.map (·.1) ∨ q = ks := by
  unfold storedH
  split
  · rename_i hs
    rw [keys_map_putAt]
    refine ⟨.inl, fun h => h.elim id fun e => ?_⟩
    subst e
    unfold atKey at hs
    rw [Option.isSome_map, List.find?_isSome] at hs
    obtain ⟨x, hx, e⟩ := hs
    exact List.mem_map.mpr ⟨x, hx, of_decide_eq_true e⟩
  · rw [List.map_append, List.mem_append]
    simp
theorem stored_length {ks : List Int} {a : Addr} {v : Value} : (storedH xs ks a v).length ≤ xs.length + 1 := by
  unfold storedH
  split
  · rw [List.length_map]; omega
  · simp

theorem set_T {a : Addr} {ks : List Int} {v : Value} {nb : List (Addr × Obj)} {Q : Unit → Shared → Prop} (hu : A.units + 1 < cLine) (F : Fr h₀ L s.heap m) (N : News h₀ L s.heap ((d, o) :: news)) (hd : ∀ p ∈ news, p.1 ≠ d) (hb : ∀ p ∈ nb, p ∈ news) (x : TDict prog w nb o xs ep) (ha : TupI nb a ks) (hz : xs.length ≤ 10000)
    (h : ∀ h' tk o' ep', Fr h₀ L h' m → News h₀ L h' ((d, o') :: news) → TDict prog w nb o' (storedH xs ks a v) ep' → Q () { s with heap := h', toks := tk }) :
    wpAny (model prog w) A (setItem (.ref d) (.ref a) v) Q E s := by
  have z := N _ (.head _)
  have N0 : News h₀ L s.heap nb := fun p hp => N p (.tail _ (hb p hp))
  refine wpAny_setItem_heap (knd := tkd prog w) (tupleKind_room_in1 hu) (ha.key N0) (x.dictOf N0 z.1) (fun h' hm hs => ?_) (by rw [sizeLine_eq]; omega)
  obtain ⟨o', es, ep', ho', c1, c2, c3, _, c5⟩ := hm
  obtain ⟨_, _, _, _, e4, _⟩ := x
  refine h h' _ o' ep' (F.change hs z.2.1 z.2.2) (News.chg N hd hs ho') ⟨es, c1, c2, c3, fun y hy => ?_, c5⟩
  rcases stored_mem y hy with ⟨y', hy', q1, q2⟩ | ⟨q1, q2⟩
  · rw [q1, q2]; exact e4 y' hy'
  · rw [q1, q2]; exact ha

theorem iter_T {Q : Value → Shared → Prop} (lo : (d == sysModules) = false) (F : Fr h₀ L s.heap m) (N : News h₀ L s.heap news) (hm : (d, o) ∈ news) (x : TDict prog w base o xs ep)
    (h : ∀ I oI h', Fr h₀ L h' m → News h₀ L h' ((I, oI) :: news) → KdkIter oI d 0 xs.length ep → (∀ p ∈ news, p.1 < I) → Q (.ref I) { s with heap := h' }) : wpAny (model prog w) A (pyIter (.ref d)) Q E s := by
  obtain ⟨es, c1, c2, c3, _, _⟩ := x
  have z := (N _ hm).1
  have hT : s.TypeIs (.ref d) "dict" := ⟨o, z, c1.1⟩
  refine wpAny_pyIter_slot hT PySem.F.slot_dict_iter (wpAny_call_entry PySem.F.slot_dict_iter hT PySem.F.entry_dict_iter ?_ (PySem.F.args_dict_iter_1 _))
  unfold Builtin.«dict.__iter__»
  refine wpAny_bind ?_
  unfold Builtin.Dict.dictSlotNone
  refine wpAny_bind (wpAny_notOrdered_dict hT ?_)
  show wpAny _ _ (pure (Value.ref d)) _ _ s
  refine wpAny_pure ?_
  show wpAny _ _ (Builtin.Dict.showsAll d >>= _) _ _ s
  unfold Builtin.Dict.showsAll
  rw [if_neg (by rw [lo]; exact Bool.false_ne_true)]
  refine wpAny_bind (wpAny_pure (wpAny_bind (wpAny_dictEntries z c2 (wpAny_bind (wpAny_dictEpoch z c2 ?_)))))
  have hsz := size_of_entries c3
  refine wpAny_bind (wpAny_newObj_type (wpAny_pure ⟨_, rfl, "dict_keyiterator", _, ⟨_, Heap.get?_push_size _ rfl, rfl⟩, PySem.F.slot_dict_keyiterator_next.lookup, ?_⟩))
  exact h _ _ _ (F.push _) (News.push F N _) ⟨rfl, by simp [rawInt, hsz]⟩ fun p hp => Heap.lt_size (N p hp).1

theorem next_T {i : Nat} {Q : Option Value → Shared → Prop} (F : Fr h₀ L s.heap m) (N : News h₀ L s.heap ((I, oI) :: news)) (hI : ∀ p ∈ news, p.1 ≠ I) (it : KdkIter oI d i xs.length ep) (hm : (d, o) ∈ news) (x : TDict prog w base o xs ep) (hi : i < xs.length)
    (h : ∀ oI' h', Fr h₀ L h' m → News h₀ L h' ((I, oI') :: news) → KdkIter oI' d (i + 1) xs.length ep → Q (some (.ref xs[i].2.1)) { s with heap := h' }) : wpAny (model prog w) A (pyNext (.ref I)) Q E s := by
  obtain ⟨es, c1, c2, c3, _, _⟩ := x
  have z := (N _ (.tail _ hm)).1
  have zI := N _ (.head _)
  have hsz := size_of_entries c3
  have hit : s.heap.IsKeyIter I d i xs.length ep := ⟨oI, zI.1, it.1, it.2⟩
  have hown : Builtin.Dict_items.ownsTuple "dict_keyiterator" = false := by decide
  have hlt : i < es.size := by omega
  have hkey : es[i].key = .ref xs[i].2.1 := by
    have e1 := entry_at c3 i
    rw [Array.getElem?_eq_getElem hlt, List.getElem?_eq_getElem hi] at e1
    simp only [Option.map_some, Option.some.injEq] at e1
    rw [e1]; rfl
  unfold pyNext
  refine wpAny_bind (wpAny_attempt (wpAny_callSpecial?_slot (name := Str.ofString "__next__") hit.typeIs PySem.F.slot_dict_keyiterator_next (wpAny_call_entry PySem.F.slot_dict_keyiterator_next hit.typeIs PySem.F.entry_dict_keyiterator_next ?_ (PySem.F.args_dict_keyiterator_next_1 _))))
  refine wpAny_bind (wpAny_pure (wpAny_bind (wpAny_bind ?_)))
  first | refine wpAny_bind (wpAny_typeNameOfWhole_keyiter hit.typeIs (wpAny_pure ?_)) | refine wpAny_bind (wpAny_typeNameOf_keyiter hit.typeIs (wpAny_pure ?_))
  refine wpAny_bind (wpAny_fieldsOf zI.1 it.2 ?_)
  simp only [hown, Bool.false_eq_true, if_false]
  show wpAny _ _ (if (Value.ref d == Value.none) = true then _ else _) _ _ s
  rw [if_neg (show ¬ ((Value.ref d == Value.none) = true) from Bool.false_ne_true)]
  refine wpAny_bind (wpAny_pure (wpAny_bind (wpAny_dictEntries z c2 ?_)))
  rw [if_neg (by rw [hsz]; simp)]
  refine wpAny_bind (wpAny_pure (wpAny_bind (wpAny_dictEpoch z c2 ?_)))
  rw [if_neg (by simp)]
  refine wpAny_pure ?_
  simp only [show ¬ ((i : Int) < 0) from by omega, if_false, Int.toNat_natCast, Array.getElem?_eq_getElem hlt]
  refine wpAny_bind ?_
  first | refine wpAny_bind (wpAny_typeNameOfWhole_keyiter hit.typeIs (wpAny_pure ?_)) | refine wpAny_bind (wpAny_typeNameOf_keyiter hit.typeIs (wpAny_pure ?_))
  refine wpAny_bind (wpAny_isOneOf_keyiter hit.typeIs ?_)
  show wpAny _ _ (setField (.ref I) 1 (rawInt ((i : Int) + 1)) >>= _) _ _ s
  refine wpAny_bind (wpAny_setField zI.1 it.2 (by simp) ?_)
  have hg : (s.heap.update I (Obj.mapFields (·.setIfInBounds 1 (rawInt ((i : Int) + 1))))).get? I = some (oI.mapFields (·.setIfInBounds 1 (rawInt ((i : Int) + 1)))) := Heap.get?_update_self _ zI.1 (Obj.isFreed_of_fields (Obj.data_mapFields it.2 _))
  have hk : KdkIter (oI.mapFields (·.setIfInBounds 1 (rawInt ((i : Int) + 1)))) d (i + 1) xs.length ep := ⟨(Obj.cls_mapFields ..).trans it.1, by rw [Obj.data_mapFields it.2]; simp [rawInt]⟩
  refine wpAny_bind (wpAny_holding ?_)
  refine wpAny_bind (wpAny_isOneOf_keyiter (s := { s with heap := s.heap.update I (Obj.mapFields (·.setIfInBounds 1 (rawInt ((i : Int) + 1)))) }) (hk.at hg).typeIs ?_)
  show wpAny _ _ (pure es[i].key) _ _ _
  rw [hkey]
  have hs := Heap.SameBut.update s.heap I (Obj.mapFields (·.setIfInBounds 1 (rawInt ((i : Int) + 1))))
  exact wpAny_pure (wpAny_pure ⟨_, rfl, wpAny_pure (h _ _ (F.change hs zI.2.1 zI.2.2) (News.chg N hI hs hg) hk)⟩)

theorem next_T_end {i : Nat} {Q : Option Value → Shared → Prop} (hh : A.handled = none) (F : Fr h₀ L s.heap m) (N : News h₀ L s.heap ((I, oI) :: news)) (hI : ∀ p ∈ news, p.1 ≠ I) (it : KdkIter oI d i xs.length ep) (hm : (d, o) ∈ news) (x : TDict prog w base o xs ep) (hi : xs.length ≤ i)
    (h : ∀ h', Fr h₀ L h' m → News h₀ L h' news → Q none { s with heap := h' }) : wpAny (model prog w) A (pyNext (.ref I)) Q E s := by
  obtain ⟨es, c1, c2, c3, _, _⟩ := x
  have z := (N _ (.tail _ hm)).1
  have zI := N _ (.head _)
  have hsz := size_of_entries c3
  have hit : s.heap.IsKeyIter I d i xs.length ep := ⟨oI, zI.1, it.1, it.2⟩
  have hown : Builtin.Dict_items.ownsTuple "dict_keyiterator" = false := by decide
  have hge : es.size ≤ i := by omega
  unfold pyNext
  refine wpAny_bind (wpAny_attempt (wpAny_callSpecial?_slot (name := Str.ofString "__next__") hit.typeIs PySem.F.slot_dict_keyiterator_next (wpAny_call_entry PySem.F.slot_dict_keyiterator_next hit.typeIs PySem.F.entry_dict_keyiterator_next ?_ (PySem.F.args_dict_keyiterator_next_1 _))))
  refine wpAny_bind (wpAny_pure (wpAny_bind (wpAny_bind ?_)))
  first | refine wpAny_bind (wpAny_typeNameOfWhole_keyiter hit.typeIs (wpAny_pure ?_)) | refine wpAny_bind (wpAny_typeNameOf_keyiter hit.typeIs (wpAny_pure ?_))
  refine wpAny_bind (wpAny_fieldsOf zI.1 it.2 ?_)
  simp only [hown, Bool.false_eq_true, if_false]
  show wpAny _ _ (if (Value.ref d == Value.none) = true then _ else _) _ _ s
  rw [if_neg (show ¬ ((Value.ref d == Value.none) = true) from Bool.false_ne_true)]
  refine wpAny_bind (wpAny_pure (wpAny_bind (wpAny_dictEntries z c2 ?_)))
  rw [if_neg (by rw [hsz]; simp)]
  refine wpAny_bind (wpAny_pure (wpAny_bind (wpAny_dictEpoch z c2 ?_)))
  rw [if_neg (by simp)]
  refine wpAny_pure ?_
  simp only [show ¬ ((i : Int) < 0) from by omega, if_false, Int.toNat_natCast, Array.getElem?_eq_none hge]
  refine wpAny_bind ?_
  first | refine wpAny_bind (wpAny_typeNameOfWhole_keyiter hit.typeIs (wpAny_pure ?_)) | refine wpAny_bind (wpAny_typeNameOf_keyiter hit.typeIs (wpAny_pure ?_))
  show wpAny _ _ (setField (.ref I) 0 .none >>= _) _ _ s
  refine wpAny_bind (wpAny_setField zI.1 it.2 (by simp) ?_)
  show wpAny _ _ (newExc (.type "StopIteration") [] >>= _) _ _ _
  refine wpAny_bind ?_
  simp only [newExc, newTuple]
  refine wpAny_bind (wpAny_newObj_type ?_ (by size_fits))
  refine wpAny_bind (m := firstArgMember _ _) (wpAny_of_eq (a := Value.none) (by first | rfl | (simp only [firstArgMember]; rfl)) ?_)
  refine wpAny_newObj_type ?_ (by size_fits)
  simp only [raiseNew]
  refine wpAny_bind (wpAny_handled ?_)
  rw [show A.in1.handled = none from hh]
  refine wpAny_bind (wpAny_pure (wpAny_throw ?_))
  refine wpAny_bind (wpAny_isInstance (T := "StopIteration") (b := true) ⟨_, Heap.get?_push_size _ rfl, rfl⟩ isSubtype_stop ?_)
  exact wpAny_pure (h _ (Fr.extb F (((Heap.SameBut.update ..).extBut.push _).push _) zI.2.1 zI.2.2) (News.extb (fun p hp => N p (.tail _ hp)) (((Heap.SameBut.update ..).extBut.push _).push _) hI))
end
end Mine

namespace Mine
open PyProof.Rows
abbrev dict0 : Obj := { cls := .type "dict", data := .dict #[] }
section
variable {prog : Program} {w : World} {A : Around} {E : Value → Shared → Prop} {s : Shared} {h₀ : Heap} {L d I : Addr} {m : Str → Option Value} {news base : List (Addr × Obj)} {o oI : Obj} {ep : Nat} {xs : List (List Int × Addr × Value)} {env : Env}

theorem ItRule.dictT (hm : (d, o) ∈ base) {b2 : List (Addr × Obj)} (x : TDict prog w b2 o xs ep) : ItRule prog w h₀ L I (xs.map fun x => Value.ref x.2.1) base (fun i oI => KdkIter oI d i xs.length ep) :=
  ⟨fun A E m s nn i oI Q hi it F N hI hb h => by
      have hi' : i < xs.length := by simpa using hi
      refine next_T F N hI it (hb _ hm) x hi' fun oI' h' F' N' it' => ?_
      have := h oI' h' F' N' it'
      rwa [getD_lt hi, List.getElem_map] at this,
   fun A E m s nn i oI Q hh hi it F N hI hb h => next_T_end hh F N hI it (hb _ hm) x (by simpa using hi) h,
   fun A E s i oI Q it ho h => wpAny_pyIter_keyiter (it.at ho) h⟩

/-- what is asked once the key and the value of a display are there -/
def KeyPut (prog : Program) (w : World) (A : Around) (h₀ : Heap) (L : Addr) (m : Str → Option Value) (D : Addr) (Q : Value → Shared → Prop) (kv vv : Value) (s₂ : Shared) : Prop :=
  ∃ (a : Addr) (ks : List Int) (nn : List (Addr × Obj)), kv = .ref a ∧ Fr h₀ L s₂.heap m ∧ News h₀ L s₂.heap ((D, dict0) :: nn) ∧ (∀ p ∈ nn, p.1 ≠ D) ∧ TupI nn a ks ∧ A.units < cLine ∧
    ∀ h' tk o' ep', Fr h₀ L h' m → News h₀ L h' ((D, o') :: nn) → TDict prog w nn o' [(ks, a, vv)] ep' → Q (.ref D) { s₂ with heap := h', toks := tk }

theorem dict_one {ke ve : PySem.Expr} {pos : Pos} {Q : Value → Shared → Prop} (F : Fr h₀ L s.heap m) (N : News h₀ L s.heap news) (hbig : h₀.NoLimit)
    (h : ∀ D h1, Fr h₀ L h1 m → News h₀ L h1 ((D, dict0) :: news) → (∀ p ∈ news, p.1 < D) → (D == sysModules) = false →
      wpAny (model prog w) A (eval ke env) (fun kv s₁ => wpAny (model prog w) A (eval ve env) (fun vv s₂ => KeyPut prog w A h₀ L m D Q kv vv s₂) E s₁) E { s with heap := h1 }) :
    wpAny (model prog w) A (eval (.Dict [some ke] [ve] pos) env) Q E s := by
  have hshape : (evalEachOpt [some ke] env).zip ((evalEach [ve] env).map fun v => do let x ← v; standAt pos; pure x) = ([(eval ke env, do let x ← eval ve env; standAt pos; pure x)] : List (Sem Value × Sem Value)).map fun p => (some p.1, p.2) := by rfl
  rw [arm_eval_Dict, hshape, dictDisplay_pairs _ (by simp) (by simp)]
  refine wpAny_bind (wpAny_standAt (wpAny_bind ?_))
  unfold subDict
  refine wpAny_bind (wpAny_alloc (wpAny_bind (wpAny_holding ?_)))
  rw [if_pos (by simp)]
  refine wpAny_bind (evalPairs_cons ?_)
  refine wpAny_mono (h s.heap.objs.size _ (F.push dict0) (N.push F dict0) (fun p hp => Heap.lt_size (N p hp).1) (F.notModules (modules_low hbig))) (fun kv s₁ h₁ => ?_) fun _ _ e => e
  refine wpAny_bind (wpAny_mono h₁ (fun vv s₂ h₂ => ?_) fun _ _ e => e)
  refine wpAny_bind (wpAny_standAt (wpAny_pure (evalPairs_nil ?_)))
  obtain ⟨a, ks, nn, rfl, F2, N2, hd2, ha, hu, k⟩ := h₂
  have N0 : News h₀ L s₂.heap nn := fun p hp => N2 p (.tail _ hp)
  have z := N2 _ (.head _)
  refine wpAny_holding ?_
  simp only [List.forIn_cons, List.forIn_nil]
  refine wpAny_bind (wpAny_bind (wpAny_bind (wpAny_dictSet_heap (knd := tkd prog w) (xs := []) hu (ha.key N0) ⟨dict0, #[], 0, z.1, ⟨rfl, rfl, rfl⟩, rfl, rfl, (fun x hx => nomatch hx), .nil⟩ (fun h' hm hs => ?_) (Nat.zero_le _))))
  obtain ⟨o', es, ep', ho', c1, c2, c3, _, c5⟩ := hm
  refine wpAny_pure (wpAny_pure (wpAny_pure (wpAny_pure (wpAny_pure (k h' _ o' ep' (F2.change hs z.2.1 z.2.2) (News.chg N2 hd2 hs ho') ⟨es, c1, c2, c3, fun y hy => ?_, by simp⟩)))))
  rw [List.mem_singleton.mp hy]
  exact ha
theorem dict_none {pos : Pos} {Q : Value → Shared → Prop} (F : Fr h₀ L s.heap m) (N : News h₀ L s.heap news) (hbig : h₀.NoLimit)
    (h : ∀ D h' o' ep', Fr h₀ L h' m → News h₀ L h' ((D, o') :: news) → (∀ p ∈ news, p.1 < D) → (D == sysModules) = false → TDict prog w news o' [] ep' → Q (.ref D) { s with heap := h' }) :
    wpAny (model prog w) A (eval (.Dict [] [] pos) env) Q E s :=
  newDict_K F N hbig fun d h' o F' N' l lo _ _ hi _ => by
    obtain ⟨ep, x⟩ := TDict.empty (news := news) _ hi
    exact h d h' o ep F' N' l lo x
end
end Mine

namespace Mine
open PyProof.Rows
section
variable {M : Model} {A : Around} {E : Value → Shared → Prop} {s : Shared} {h₀ : Heap} {L a C : Addr} {m mg mb : Str → Option Value} {cn x : Str} {cs sc : Scope} {ccd : Value} {cl cl' : List (Str × Addr)} {pos : Pos} {K : Frag} {p : Program} {loose : List Str}
/-- a built-in's name within a comprehension -/
theorem comp_B {v : Value} {Q : Value → Shared → Prop} (F : Fr h₀ L s.heap m) (X : K.In h₀) (T : TopRead p loose mg mb h₀) (e : nsIn K mainGlobals x = some none) (hv : bootBuiltins x = some v) (hn : x ≠ "__name__") (h : Q v s)
    (hk : (compEnvC sc cl' C (envX cn cs L a ccd cl)).scope.kind = .function := by rfl) (hx : (compEnvC sc cl' C (envX cn cs L a ccd cl)).kindOf x = some .globalImplicit := by rfl) (hd : (x == ("__debug__" : Str)) = false := by decide) :
    wpAny M A (eval (.Name x pos) (compEnvC sc cl' C (envX cn cs L a ccd cl))) Q E s :=
  Name_function_global hk hx (loadGlobal_builtin (env := compEnvC sc cl' C (envX cn cs L a ccd cl)) (T.g.keeps F.keep) (mg_none_of X T.g e) (T.b.keeps F.keep) ((T.builtins x hn).trans hv) h) hd
end
end Mine

namespace Mine
open PyProof.Rows
section
variable {prog : Program} {w : World} {M : Model} {A : Around} {E : Value → Shared → Prop} {s : Shared} {h₀ : Heap} {L a k : Addr} {m : Str → Option Value} {cn x : Str} {cs : Scope} {ccd : Value} {cl : List (Str × Addr)} {news : List (Addr × Obj)} {o : Obj}
/-- a name that stands in a cell is stored -/
theorem storeX_C {v : Value} {v0 : Option Value} {Q : Unit → Shared → Prop} (F : Fr h₀ L s.heap m) (N : News h₀ L s.heap ((k, o) :: news)) (hoff : ∀ p ∈ news, p.1 ≠ k) (hd : o.data = .cell v0) (hc : cl.lookup x = some k) (hx : (envX cn cs L a ccd cl).kindOf x = some .cell)
    (h : ∀ h' o', Fr h₀ L h' m → News h₀ L h' ((k, o') :: news) → o'.data = .cell (some v) → Q () { s with heap := h' }) (hk : cs.kind = .function := by rfl) :
    wpAny M A (storeName (envX cn cs L a ccd cl) x v) Q E s := by
  have z := N _ (.head _)
  refine wpAny_storeName_cell hk hx hc ⟨o, z.1, hd⟩ fun h' hc' hs => ?_
  obtain ⟨o', ho', hd'⟩ := hc'
  exact h h' o' (F.change hs z.2.1 z.2.2) (News.chg N hoff hs ho') hd'

theorem cat_at {l1 l2 : Addr} {us vs : List Value} {n1 n2 : Nat} {Q : Value → Shared → Prop} (F : Fr h₀ L s.heap m) (N : News h₀ L s.heap news) (h1 : (l1, listOf us.toArray n1) ∈ news) (h2 : (l2, listOf vs.toArray n2) ∈ news) (hz : us.length + vs.length ≤ 10000)
    (h : ∀ D h', Fr h₀ L h' m → News h₀ L h' ((D, listOf (us ++ vs).toArray 0) :: news) → (∀ p ∈ news, p.1 < D) → Q (.ref D) { s with heap := h' }) :
    wpAny (model prog w) A (binaryOp .Add (.ref l1) (.ref l2)) Q E s := by
  refine add_lists (vs := us) (ws := vs) F N (News.isList N h1) (News.isList N h2) (fun h' F' N' => h _ h' F' N' fun p hp => Heap.lt_size (N p hp).1) (by rw [sizeLine_eq]; omega)

theorem ints_repv {x : Int} {t : Tok} : ∀ {k : Nat}, IntsAre (List.replicate k (.int x t)) (List.replicate k x)
  | 0 => .nil
  | k + 1 => .cons x t ints_repv
theorem fold_rep {v : Value} : ∀ (n : Nat) (acc : Array Value), (List.foldl (fun x1 x2 => x1 ++ x2) acc (List.replicate n #[v])).toList = acc.toList ++ List.replicate n v
  | 0, acc => by simp
  | n + 1, acc => by
    rw [List.replicate_succ, List.foldl_cons, fold_rep n (acc ++ #[v]), List.replicate_succ]
    simp
theorem rep_at {l1 : Addr} {v : Value} {n1 k : Nat} {u : Tok} {Q : Value → Shared → Prop} (F : Fr h₀ L s.heap m) (N : News h₀ L s.heap news) (h1 : (l1, listOf [v].toArray n1) ∈ news) (hz : k ≤ 10000)
    (h : ∀ D h', Fr h₀ L h' m → News h₀ L h' ((D, listOf (List.replicate k v).toArray 0) :: news) → (∀ p ∈ news, p.1 < D) → Q (.ref D) { s with heap := h' }) :
    wpAny (model prog w) A (binaryOp .Mult (.ref l1) (.int k u)) Q E s := by
  refine mul_list F N (N _ h1).1 (by omega) (by omega) (by simp; omega) fun h' F' N' => h _ h' F' ?_ fun p hp => Heap.lt_size (N p hp).1
  have e : List.foldl (fun x1 x2 => x1 ++ x2) #[] (List.replicate (if ([v].toArray).isEmpty = true then 0 else (k : Int).toNat) [v].toArray) = (List.replicate k v).toArray := by
    apply Array.toList_inj.mp
    have := fold_rep (v := v) k #[]
    simpa using this
  rw [e] at N'
  exact N'
theorem call_iter_l {l1 : Addr} {its : List Value} {Q : Value → Shared → Prop} (F : Fr h₀ L s.heap m) (N : News h₀ L s.heap news) (hl : s.heap.IsList l1 its.toArray)
    (h : ∀ I o h', Fr h₀ L h' m → News h₀ L h' ((I, o) :: news) → ListIt o l1 0 → (∀ p ∈ news, p.1 < I) → I ≠ l1 → Q (.ref I) { s with heap := h' }) : wpAny (model prog w) A (call (.builtin "iter") [.ref l1]) Q E s := by
  refine call_function_entry (by decide +kernel) (by decide +kernel) kdk_entry_iter (kdk_args_iter _) ?_
  unfold Builtin.«iter»
  refine wpAny_bind (m := someArgs "iter" 1 2 _) (wpAny_of_eq (a := [Value.ref l1]) (by first | rfl | kernel_rfl!) ?_)
  show wpAny _ _ (pyIter (.ref l1) >>= _) _ _ _
  refine wpAny_bind (iter_list F N hl fun I o h' F' N' it lI hne => ?_)
  exact wpAny_pure ⟨_, rfl, h I o h' F' N' it lI hne⟩
/-- all but the last -/
theorem pick_front {us : List Value} : slicePick us.toArray none (some (-1)) none = us.dropLast.toArray := by
  rw [kms_pick_eq]
  congr 1
  show ((us.drop (kms_lo none us.length)).take (kms_hi (some (-1)) us.length - kms_lo none us.length)) = us.dropLast
  have e1 : kms_lo none us.length = 0 := rfl
  have e2 : kms_hi (some (-1)) us.length = us.length - 1 := rfl
  rw [e1, e2, List.drop_zero, Nat.sub_zero, List.dropLast_eq_take]
theorem front_at {value slice : PySem.Expr} {l1 : Addr} {us : List Value} {c1 : Nat} {t : Tok} {Q : Value → Shared → Prop} (F : Fr h₀ L s.heap m) (N : News h₀ L s.heap news) (hl : (l1, listOf us.toArray c1) ∈ news) (hz : us.length ≤ 10000)
    (h : ∀ D h', Fr h₀ L h' m → News h₀ L h' ((D, listOf us.dropLast.toArray 0) :: news) → (∀ p ∈ news, p.1 < D) → Q (.ref D) { s with heap := h' })
    (hs : subscripted slice false (.ref l1) (.ref s.heap.objs.size) = operate [.ref s.heap.objs.size, .ref l1] (getItem (.ref l1) (.ref s.heap.objs.size)) := by with_unfolding_all rfl) (ht : ∀ r, letTemporaryGo value (.ref l1) r = pure () := by intro _; with_unfolding_all rfl) :
    wpAny (model prog w) A (subscriptTail value slice (.ref l1) (.ref s.heap.objs.size)) Q E { s with heap := s.heap.push { cls := .type "slice", data := .fields #[.none, .int (-1) t, .none] } } := by
  refine kmk_slice (its := us.toArray) (lo := none) (hi := some (-1)) F N (News.isList N hl) IsPart.none (IsPart.int _ _) (fun D h' F' N' l' => h D h' F' ?_ l') hs ht (by rw [List.size_toArray, sizeLine_eq]; omega)
  rw [pick_front] at N'
  exact N'
end
/-- the two ints of a row, read off the heap -/
def l2H (h : Heap) (v : Value) : Int × Int := match v with
  | .ref a => match h.get? a with
    | some o => match o.data with
      | .seq xs _ => (numOf (xs.getD 0 .none), numOf (xs.getD 1 .none))
      | _ => (0, 0)
    | none => (0, 0)
  | _ => (0, 0)
theorem l2H_eq {h₀ h : Heap} {L : Addr} {news : List (Addr × Obj)} {v : Value} {k : Int × Int} (N : News h₀ L h news) (x : L2s news v k) : l2H h v = k := by
  obtain ⟨a, n, t1, t2, rfl, hm⟩ := x
  have e : h.get? a = some (listOf [Value.int k.1 t1, Value.int k.2 t2].toArray n) := (N _ hm).1
  unfold l2H
  dsimp only
  rw [e]
  rfl
end Mine

namespace Mine
/-- the count of tokens may be forgotten -/
theorem toks_any {prog : Program} {w : World} {A : Around} {α : Type} {t : Sem α} {Q : α → Shared → Prop} {E : Value → Shared → Prop} {h : Heap} {g : Array GenState} {d : Drawn} {x y : Nat} {o : OsState}
    (k : ∀ tk : Nat, wpAny (model prog w) A t Q E (Shared.mk h g d tk o)) : wpAny (model prog w) A t Q E (Shared.mk h g d (x + y) o) := k _
section
variable {M : Model} {A : Around} {E : Value → Shared → Prop} {s : Shared} {h₀ : Heap} {L a : Addr} {m : Str → Option Value} {cn : Str} {cs : Scope} {ccd : Value} {x : Str} {pos : Pos} {v : Value} {Q : Value → Shared → Prop}
/-- nameX_L for the two written environments, so that it is met without unfolding -/
theorem nameO_L (F : Fr h₀ L s.heap m) (hv : m x = some v) (h : Q v s) (hk : cs.kind = .function) (hx : (envOf cn cs L a ccd).kindOf x = some .local) (hd : (x == ("__debug__" : Str)) = false) :
    wpAny M A (eval (.Name x pos) (envOf cn cs L a ccd)) Q E s := nameX_L F hv h hk hx hd
theorem nameC_L (F : Fr h₀ L s.heap m) (hv : m x = some v) (h : Q v s) (hk : cs.kind = .function) (hx : (envOfC cn cs L a ccd).kindOf x = some .local) (hd : (x == ("__debug__" : Str)) = false) :
    wpAny M A (eval (.Name x pos) (envOfC cn cs L a ccd)) Q E s := nameX_L F hv h hk hx hd
end
end Mine

namespace Mine
/-- W can be shared among m with no share above o -/
def Fits (m : Nat) (o : Int) (W : List Int) : Prop := ∃ gs : List (List Int), gs.length = m ∧ gs.flatten.Perm W ∧ ∀ g ∈ gs, g.sum ≤ o

theorem Fits.perm {m : Nat} {o : Int} {W W' : List Int} (h : Fits m o W) (hp : W.Perm W') : Fits m o W' := by
  obtain ⟨gs, h1, h2, h3⟩ := h
  exact ⟨gs, h1, h2.trans hp, h3⟩

theorem sum_perm {l l' : List Int} (h : l.Perm l') : l.sum = l'.sum := by
  induction h with
  | nil => rfl
  | cons x _ ih => rw [List.sum_cons, List.sum_cons, ih]
  | swap x y l => simp only [List.sum_cons]; omega
  | trans _ _ ih1 ih2 => rw [ih1, ih2]

theorem sum_ge {t : Int} : ∀ {l : List Int}, (∀ w ∈ l, t ≤ w) → (l.length : Int) * t ≤ l.sum
  | [], _ => by simp
  | a :: l, h => by
    have h1 := sum_ge (l := l) fun w hw => h w (.tail _ hw)
    have h2 := h a (.head _)
    rw [List.sum_cons, List.length_cons]
    have : (((l.length + 1 : Nat) : Int)) * t = (l.length : Int) * t + t := by
      rw [Int.natCast_add, Int.add_mul]; simp
    omega
theorem sum_nonneg {l : List Int} (h : ∀ w ∈ l, 0 ≤ w) : 0 ≤ l.sum := by
  have := sum_ge (t := 0) h
  simpa using this

/-- the group that holds e, and the others -/
theorem group_of {gs : List (List Int)} {e : Int} {W : List Int} (hp : gs.flatten.Perm (e :: W)) : ∃ (g0 g : List Int) (rest : List (List Int)), gs.Perm (g0 :: rest) ∧ g0.Perm (e :: g) ∧ (g ++ rest.flatten).Perm W := by
  have hm : e ∈ gs.flatten := hp.mem_iff.mpr (.head _)
  obtain ⟨g0, hg0, he⟩ := List.mem_flatten.mp hm
  have h1 := List.perm_cons_erase hg0
  have h2 := List.perm_cons_erase he
  refine ⟨g0, g0.erase e, gs.erase g0, h1, h2, ?_⟩
  have h3 := h1.flatten.symm.trans hp
  rw [List.flatten_cons] at h3
  have h4 := (h2.append_right (gs.erase g0).flatten).symm.trans h3
  rw [List.cons_append] at h4
  exact List.Perm.cons_inv h4

theorem Fits.drop {m : Nat} {o e : Int} {W : List Int} (h : Fits m o (e :: W)) (he : 0 ≤ e) : Fits m o W := by
  obtain ⟨gs, h1, h2, h3⟩ := h
  obtain ⟨g0, g, rest, p1, p2, p3⟩ := group_of h2
  refine ⟨g :: rest, by rw [← h1, p1.length_eq]; simp, by rw [List.flatten_cons]; exact p3, fun x hx => ?_⟩
  rcases List.mem_cons.mp hx with rfl | hx
  · have := h3 g0 (p1.mem_iff.mpr (.head _))
    rw [sum_perm p2, List.sum_cons] at this
    omega
  · exact h3 x (p1.mem_iff.mpr (.tail _ hx))
theorem Fits.drops {m : Nat} {o : Int} {W : List Int} : ∀ {rest : List Int}, (∀ e ∈ rest, 0 ≤ e) → Fits m o (rest ++ W) → Fits m o W
  | [], _, h => h
  | e :: rest, hp, h => Fits.drops (rest := rest) (fun x hx => hp x (.tail _ hx)) (Fits.drop (e := e) h (hp e (.head _)))

theorem Fits.take {m : Nat} {o e t : Int} {W : List Int} (h : Fits (m + 1) o (e :: W)) (hW : ∀ w ∈ W, t ≤ w) (ht : 0 ≤ t) : e + t ≤ o ∨ Fits m o W := by
  obtain ⟨gs, h1, h2, h3⟩ := h
  obtain ⟨g0, g, rest, p1, p2, p3⟩ := group_of h2
  cases g with
  | nil =>
    right
    refine ⟨rest, ?_, by simpa using p3, fun x hx => h3 x (p1.mem_iff.mpr (.tail _ hx))⟩
    have := p1.length_eq
    rw [List.length_cons] at this
    omega
  | cons c g =>
    left
    have hc := h3 g0 (p1.mem_iff.mpr (.head _))
    rw [sum_perm p2, List.sum_cons, List.sum_cons] at hc
    have hin : ∀ x ∈ c :: g, t ≤ x := fun x hx => hW x (p3.mem_iff.mp (List.mem_append_left _ hx))
    have h4 := hin c (.head _)
    have h5 := sum_nonneg (l := g) fun x hx => by have := hin x (.tail _ hx); omega
    omega

theorem length_flatten_le {j : Nat} : ∀ {gs : List (List Int)}, (∀ g ∈ gs, g.length ≤ j) → gs.flatten.length ≤ gs.length * j
  | [], _ => by simp
  | g :: gs, h => by
    have h1 := length_flatten_le (gs := gs) fun x hx => h x (.tail _ hx)
    have h2 := h g (.head _)
    rw [List.flatten_cons, List.length_append, List.length_cons, Nat.add_mul, Nat.one_mul]
    omega

theorem Fits.pigeon {m j : Nat} {o t : Int} {W : List Int} (h : Fits m o W) (hW : ∀ w ∈ W, t ≤ w) (ht : 0 ≤ t) (hl : m * j < W.length) : ((j + 1 : Nat) : Int) * t ≤ o := by
  obtain ⟨gs, h1, h2, h3⟩ := h
  by_cases hall : ∀ g ∈ gs, g.length ≤ j
  · have := length_flatten_le hall
    rw [h2.length_eq, h1] at this
    omega
  · obtain ⟨g, hg⟩ := Classical.not_forall.mp hall
    obtain ⟨hg, hj⟩ := Classical.not_imp.mp hg
    have h4 := sum_ge (t := t) (l := g) fun w hw => hW w (h2.mem_iff.mp (List.mem_flatten.mpr ⟨g, hg, hw⟩))
    have h5 := h3 g hg
    have h6 : ((j + 1 : Nat) : Int) * t ≤ (g.length : Int) * t := Int.mul_le_mul_of_nonneg_right (by omega) ht
    omega

theorem Fits.one {o : Int} {W : List Int} (h : Fits 1 o W) : W.sum ≤ o := by
  obtain ⟨gs, h1, h2, h3⟩ := h
  match gs, h1 with
  | [g], _ =>
    have := h3 g (.head _)
    rw [← sum_perm h2]
    simpa using this

theorem sum_flatten : ∀ {gs : List (List Int)}, gs.flatten.sum = (gs.map List.sum).sum
  | [] => rfl
  | g :: gs => by
    rw [List.flatten_cons, List.sum_append, List.map_cons, List.sum_cons, sum_flatten]
theorem sum_le_mul {o : Int} : ∀ {l : List Int}, (∀ x ∈ l, x ≤ o) → l.sum ≤ (l.length : Int) * o
  | [], _ => by simp
  | a :: l, h => by
    have h1 := sum_le_mul (l := l) fun x hx => h x (.tail _ hx)
    have h2 := h a (.head _)
    rw [List.sum_cons, List.length_cons]
    have : (((l.length + 1 : Nat) : Int)) * o = (l.length : Int) * o + o := by
      rw [Int.natCast_add, Int.add_mul]; simp
    omega
theorem Fits.total {m : Nat} {o : Int} {W : List Int} (h : Fits m o W) : W.sum ≤ (m : Int) * o := by
  obtain ⟨gs, h1, h2, h3⟩ := h
  rw [← sum_perm h2, sum_flatten]
  have := sum_le_mul (l := gs.map List.sum) (o := o) fun x hx => by
    obtain ⟨g, hg, rfl⟩ := List.mem_map.mp hx
    exact h3 g hg
  rw [List.length_map, h1] at this
  exact this

theorem two_groups {gs : List (List Int)} (h : gs.length = 2) : ∃ a b, gs = [a, b] := by
  match gs, h with
  | [a, b], _ => exact ⟨a, b, rfl⟩

theorem Fits.pair {o t A B : Int} {W : List Int} (h : Fits 2 o (A :: B :: W)) (hB : t ≤ B) (hW : ∀ w ∈ W, t ≤ w) (ht : 0 ≤ t) : A + B + t ≤ o ∨ W.sum ≤ o ∨ A + 2 * t ≤ o ∨ (W.length : Int) * t ≤ o := by
  obtain ⟨gs, h1, h2, h3⟩ := h
  obtain ⟨g0, g, rest, p1, p2, p3⟩ := group_of h2
  have hr : rest.length = 1 := by
    have := p1.length_eq
    rw [List.length_cons] at this
    omega
  obtain ⟨G, rfl⟩ : ∃ G, rest = [G] := by
    match rest, hr with
    | [a], _ => exact ⟨a, rfl⟩
  have hg0 := h3 g0 (p1.mem_iff.mpr (.head _))
  have hG := h3 G (p1.mem_iff.mpr (.tail _ (.head _)))
  rw [sum_perm p2, List.sum_cons] at hg0
  simp only [List.flatten_cons, List.flatten_nil, List.append_nil] at p3
  have hBW : ∀ x ∈ B :: W, t ≤ x := fun x hx => by
    rcases List.mem_cons.mp hx with rfl | hx
    · exact hB
    · exact hW x hx
  have hgt : ∀ x ∈ g, t ≤ x := fun x hx => hBW x (p3.mem_iff.mp (List.mem_append_left _ hx))
  have hGt : ∀ x ∈ G, t ≤ x := fun x hx => hBW x (p3.mem_iff.mp (List.mem_append_right _ hx))
  have hBm : B ∈ g ++ G := p3.mem_iff.mpr (.head _)
  rcases List.mem_append.mp hBm with hb | hb
  · have q1 := List.perm_cons_erase hb
    have q2 : ((B :: g.erase B) ++ G).Perm (B :: W) := (q1.symm.append_right G).trans p3
    rw [List.cons_append] at q2
    have q3 := List.Perm.cons_inv q2
    rw [sum_perm q1, List.sum_cons] at hg0
    cases e : g.erase B with
    | nil =>
      rw [e] at q3
      right; left
      rw [← sum_perm q3]
      simpa using hG
    | cons c g' =>
      left
      rw [e, List.sum_cons] at hg0
      have hin : ∀ x ∈ c :: g', t ≤ x := fun x hx => hgt x (q1.mem_iff.mpr (.tail _ (e ▸ hx)))
      have h4 := hin c (.head _)
      have h5 := sum_nonneg (l := g') fun x hx => by have := hin x (.tail _ hx); omega
      omega
  · right; right
    by_cases h2 : 2 ≤ g.length
    · left
      have h4 := sum_ge hgt
      have h5 : (2 : Int) * t ≤ (g.length : Int) * t := Int.mul_le_mul_of_nonneg_right (by omega) ht
      omega
    · right
      have h4 := sum_ge hGt
      have hl := p3.length_eq
      rw [List.length_append, List.length_cons] at hl
      have h5 : (W.length : Int) * t ≤ (G.length : Int) * t := Int.mul_le_mul_of_nonneg_right (by omega) ht
      omega
end Mine

namespace Mine
/-- each later work of g is at most the first work of g' -/
def R2 (g g' : List Int) : Prop := ∀ b ∈ g.dropLast, ∃ f, g'.getLast? = some f ∧ b ≤ f
def Fall (ts : List Int) : Prop := ts.Pairwise fun a b => b ≤ a
/-- how it stood when t was given to the hand with the works r -/
def Snap (m : Nat) (ts : List Int) (t : Int) (r : List Int) : Prop := ∃ (Os : List (List Int)) (rest : List Int), Os.length + 1 = m ∧ (∀ O ∈ Os, r.sum ≤ O.sum) ∧ (rest ++ ((t :: r) ++ Os.flatten)).Perm ts ∧
  (Fall ts → (∀ w ∈ r ++ Os.flatten, t ≤ w) ∧ ∀ O ∈ Os, R2 O r)
/-- the works of the hands, the latest first, after ts -/
structure J (m : Nat) (ts : List Int) (gs : List (List Int)) : Prop where
  len : gs.length = m
  perm : gs.flatten.Perm ts
  snap : ∀ g ∈ gs, ∀ t r, g = t :: r → Snap m ts t r
  pw : Fall ts → gs.Pairwise fun g g' => R2 g g' ∧ R2 g' g

theorem Fall.pre {ts : List Int} {t : Int} (h : Fall (ts ++ [t])) : Fall ts ∧ ∀ w ∈ ts, t ≤ w := by
  unfold Fall at h
  rw [List.pairwise_append] at h
  exact ⟨h.1, fun w hw => h.2.2 w hw t (.head _)⟩

theorem J.step {m : Nat} {ts : List Int} {gs gs' : List (List Int)} {g : List Int} {Os : List (List Int)} {t : Int} (j : J m ts gs) (hpos : ∀ x ∈ ts, 1 ≤ x) (hp : gs.Perm (g :: Os)) (hmin : ∀ O ∈ Os, g.sum ≤ O.sum) (hp' : gs'.Perm ((t :: g) :: Os)) : J m (ts ++ [t]) gs' := by
  have hf : (g ++ Os.flatten).Perm ts := by
    have := hp.flatten.symm.trans j.perm
    rwa [List.flatten_cons] at this
  have hnew : ((t :: g) ++ Os.flatten).Perm (ts ++ [t]) := by
    rw [List.cons_append]
    exact (List.Perm.cons t hf).trans (List.perm_append_comm (l₁ := [t]))
  have hl : Os.length + 1 = m := by
    have := hp.length_eq
    rw [j.len, List.length_cons] at this
    exact this.symm
  have hOm : ∀ O ∈ Os, ∀ w ∈ O, w ∈ ts := fun O hO w hw => hf.mem_iff.mp (List.mem_append_right _ (List.mem_flatten.mpr ⟨O, hO, hw⟩))
  have hgm : ∀ w ∈ g, w ∈ ts := fun w hw => hf.mem_iff.mp (List.mem_append_left _ hw)
  refine ⟨by rw [hp'.length_eq, List.length_cons]; exact hl, ?_, ?_, ?_⟩
  · refine hp'.flatten.trans ?_
    rw [List.flatten_cons]
    exact hnew
  · intro x hx t' r' e
    rcases List.mem_cons.mp (hp'.mem_iff.mp hx) with rfl | hx
    · injection e with e1 e2
      subst e1 e2
      refine ⟨Os, [], hl, hmin, hnew, fun hfa => ?_⟩
      obtain ⟨f1, f2⟩ := hfa.pre
      refine ⟨fun w hw => f2 w (hf.mem_iff.mp hw), fun O hO => ?_⟩
      have := j.pw f1
      have := (hp.pairwise_iff (fun {a b} h => ⟨h.2, h.1⟩)).mp this
      exact ((List.pairwise_cons.mp this).1 O hO).2
    · obtain ⟨Os', rest, a1, a2, a3, a4⟩ := j.snap x (hp.mem_iff.mpr (.tail _ hx)) t' r' e
      refine ⟨Os', t :: rest, a1, a2, ?_, fun hfa => a4 hfa.pre.1⟩
      rw [List.cons_append]
      exact (List.Perm.cons t a3).trans (List.perm_append_comm (l₁ := [t]))
  · intro hfa
    obtain ⟨f1, f2⟩ := hfa.pre
    have h1 := (hp.pairwise_iff (fun {a b} h => ⟨h.2, h.1⟩)).mp (j.pw f1)
    obtain ⟨h2, h3⟩ := List.pairwise_cons.mp h1
    refine (hp'.pairwise_iff (fun {a b} h => ⟨h.2, h.1⟩)).mpr (List.pairwise_cons.mpr ⟨fun O hO => ?_, h3⟩)
    obtain ⟨q1, q2⟩ := h2 O hO
    cases g with
    | nil =>
      refine ⟨fun b hb => by simp at hb, fun b hb => ?_⟩
      obtain ⟨f, e, _⟩ := q2 b hb
      simp at e
    | cons c g' =>
      refine ⟨fun b hb => ?_, fun b hb => ?_⟩
      · rw [List.dropLast_cons_cons] at hb
        rcases List.mem_cons.mp hb with rfl | hb
        · have h4 := hmin O hO
          have h5 : 1 ≤ (c :: g').sum := by
            rw [List.sum_cons]
            have := hpos c (hgm c (.head _))
            have := sum_nonneg (l := g') fun x hx => by have := hpos x (hgm x (.tail _ hx)); omega
            omega
          cases e : O.getLast? with
          | none =>
            rw [List.getLast?_eq_none_iff] at e
            subst e
            simp at h4
            simp at h5
            omega
          | some f => exact ⟨f, rfl, f2 f (hOm O hO f (List.mem_of_getLast? e))⟩
        · exact q1 b hb
      · obtain ⟨f, e, h4⟩ := q2 b hb
        refine ⟨f, ?_, h4⟩
        rw [List.getLast?_cons, e]
        rfl

theorem perm_nil_flatten {m : Nat} : (List.replicate m ([] : List Int)).flatten = [] := by
  induction m with
  | zero => rfl
  | succ m ih => rw [List.replicate_succ, List.flatten_cons, ih]; rfl
theorem J.init (m : Nat) : J m [] (List.replicate m []) := by
  refine ⟨List.length_replicate, by rw [perm_nil_flatten], fun g hg t r e => ?_, fun _ => ?_⟩
  · rw [List.eq_of_mem_replicate hg] at e
    cases e
  · rw [List.pairwise_iff_getElem]
    intro i k hi hk _
    simp only [List.getElem_replicate]
    exact ⟨fun b hb => by simp at hb, fun b hb => by simp at hb⟩

/-- the groups are those of the hands -/
def Like (gs : List (List Int)) (ps : List Tri) : Prop := gs.map (fun g => (g.sum, (g.length : Int))) = ps.map fun x => (x.1, x.2.2)

theorem Like.len {gs : List (List Int)} {ps : List Tri} (h : Like gs ps) : gs.length = ps.length := by
  have := congrArg List.length h
  simpa using this
theorem Like.at {gs : List (List Int)} {ps : List Tri} (h : Like gs ps) {i : Nat} (hi : i < gs.length) (hi' : i < ps.length) : gs[i].sum = ps[i].1 ∧ (gs[i].length : Int) = ps[i].2.2 := by
  have h1 : (gs.map (fun g => (g.sum, (g.length : Int))))[i]'(by simpa using hi) = (ps.map fun x => (x.1, x.2.2))[i]'(by simpa using hi') := by
    unfold Like at h
    congr 1
  rw [List.getElem_map, List.getElem_map] at h1
  injection h1 with h1 h2
  exact ⟨h1, h2⟩

theorem run_J {m : Nat} : ∀ {ts pre : List Int} {ps qs : List Tri} {gs : List (List Int)}, J m pre gs → Like gs ps → (∀ x ∈ pre ++ ts, 1 ≤ x) → Run ts ps qs → ∃ gs', J m (pre ++ ts) gs' ∧ Like gs' qs
  | [], pre, ps, qs, gs, j, hl, _, h => by
    have h : qs = ps := h
    subst h
    exact ⟨gs, by rw [List.append_nil]; exact j, hl⟩
  | t :: ts, pre, ps, qs, gs, j, hl, hpos, ⟨rs, ⟨b, hb, hmin, e⟩, h2⟩ => by
    have hlen := hl.len
    have hb' : b < gs.length := by omega
    have p1 := erase_perm hb'
    have p2 : (gs.eraseIdx b ++ [t :: gs[b]]).Perm ((t :: gs[b]) :: gs.eraseIdx b) := List.perm_append_comm
    have j2 : J m (pre ++ [t]) (gs.eraseIdx b ++ [t :: gs[b]]) := by
      refine j.step (fun x hx => hpos x (List.mem_append_left _ hx)) p1 (fun O hO => ?_) p2
      obtain ⟨i, hi, rfl⟩ := List.getElem_of_mem (List.mem_of_mem_eraseIdx hO)
      have hk := hmin i (by omega)
      rw [getD_lt hb, getD_lt (by omega)] at hk
      have e1 := (hl.at hb' hb).1
      have e2 := (hl.at hi (by omega)).1
      unfold kle Tri.key at hk
      dsimp only at hk
      omega
    have l2 : Like (gs.eraseIdx b ++ [t :: gs[b]]) rs := by
      have e1 := hl.at hb' hb
      unfold Like at *
      rw [e, List.map_append, List.map_append, ← map_erase, ← map_erase, hl]
      congr 1
      rw [getD_lt hb]
      simp only [List.map_cons, List.map_nil, List.sum_cons, List.length_cons, List.cons.injEq, Prod.mk.injEq, and_true]
      refine ⟨by rw [e1.1]; omega, ?_⟩
      rw [← e1.2]
      simp
    have := run_J j2 l2 (by rw [List.append_assoc]; exact hpos) h2
    rw [List.append_assoc] at this
    exact this

theorem run_start {m : Nat} {ts : List Int} {qs : List Tri} (hpos : ∀ x ∈ ts, 1 ≤ x) (h : Run ts (start m) qs) : ∃ gs, J m ts gs ∧ Like gs qs := by
  have := run_J (pre := []) (J.init m) (ps := start m) ?_ (by simpa using hpos) h
  · simpa using this
  · unfold Like start
    rw [List.map_map]
    apply List.ext_getElem
    · simp
    · intro i h1 h2
      simp
end Mine

namespace Mine
section
variable {m : Nat} {ts : List Int} {o t : Int} {r : List Int}

/-- what a snapshot gives: all lies below o -/
theorem snap_fits {m : Nat} {ts : List Int} {o t : Int} {r rest : List Int} {Os : List (List Int)} (hF : Fits m o ts) (hpos : ∀ x ∈ ts, 1 ≤ x) (hp : (rest ++ ((t :: r) ++ Os.flatten)).Perm ts) : Fits m o ((t :: r) ++ Os.flatten) :=
  Fits.drops (fun e he => by have := hpos e (hp.mem_iff.mp (List.mem_append_left _ he)); omega) (hF.perm hp.symm)

theorem sum_ge_mul {s : Int} : ∀ {Os : List (List Int)}, (∀ O ∈ Os, s ≤ O.sum) → (Os.length : Int) * s ≤ Os.flatten.sum
  | [], _ => by simp
  | O :: Os, h => by
    have h1 := sum_ge_mul (Os := Os) fun x hx => h x (.tail _ hx)
    have h2 := h O (.head _)
    rw [List.flatten_cons, List.sum_append, List.length_cons]
    have : (((Os.length + 1 : Nat) : Int)) * s = (Os.length : Int) * s + s := by
      rw [Int.natCast_add, Int.add_mul]; simp
    omega

/-- m times what came before, and t, lie within m times o -/
theorem snap_load (hF : Fits m o ts) (hpos : ∀ x ∈ ts, 1 ≤ x) (hs : Snap m ts t r) : (m : Int) * r.sum + t ≤ (m : Int) * o := by
  obtain ⟨Os, rest, a1, a2, a3, _⟩ := hs
  have h1 := (snap_fits hF hpos a3).total
  have h2 := sum_ge_mul a2
  rw [List.sum_append, List.sum_cons] at h1
  have h3 : (m : Int) * r.sum = (Os.length : Int) * r.sum + r.sum := by
    rw [← a1, Int.natCast_add, Int.add_mul]; simp
  omega
theorem snap_t (hF : Fits m o ts) (hpos : ∀ x ∈ ts, 1 ≤ x) (hs : Snap m ts t r) : 1 ≤ t ∧ t ≤ o ∧ ∀ x ∈ r, 1 ≤ x := by
  obtain ⟨Os, rest, a1, a2, a3, _⟩ := hs
  have hin : ∀ x ∈ (t :: r) ++ Os.flatten, 1 ≤ x := fun x hx => hpos x (a3.mem_iff.mp (List.mem_append_right _ hx))
  have hF2 := snap_fits hF hpos a3
  refine ⟨hin t (List.mem_append_left _ (.head _)), ?_, fun x hx => hin x (List.mem_append_left _ (.tail _ hx))⟩
  obtain ⟨gs, h1, h2, h3⟩ := hF2
  rw [List.cons_append] at h2
  obtain ⟨g0, g, rest', p1, p2, p3⟩ := group_of h2
  have h4 := h3 g0 (p1.mem_iff.mpr (.head _))
  rw [sum_perm p2, List.sum_cons] at h4
  have h5 := sum_nonneg (l := g) fun x hx => by
    have := hin x (List.mem_append.mpr ?_)
    · omega
    · have := p3.mem_iff.mp (List.mem_append_left _ hx)
      rcases List.mem_append.mp this with h | h
      · exact .inl (.tail _ h)
      · exact .inr h
  omega

theorem one_list {Os : List (List Int)} (h : Os.length + 1 = 2) : ∃ O, Os = [O] := by
  match Os, h with
  | [O], _ => exact ⟨O, rfl⟩
theorem two_list {Os : List (List Int)} (h : Os.length + 1 = 3) : ∃ O O', Os = [O, O'] := by
  match Os, h with
  | [O, O'], _ => exact ⟨O, O', rfl⟩

/-- two hands, at most seven works, the longest first -/
theorem two_hands (hF : Fits 2 o ts) (hpos : ∀ x ∈ ts, 1 ≤ x) (hfa : Fall ts) (hl : ts.length ≤ 7) (hs : Snap 2 ts t r) : ((r.length + 1 : Nat) : Int) * t ≤ o ∨ r.sum + t ≤ o := by
  obtain ⟨ht, hto, hr1⟩ := snap_t hF hpos hs
  obtain ⟨Os, rest, a1, a2, a3, a4⟩ := hs
  obtain ⟨O, rfl⟩ := one_list a1
  obtain ⟨b1, b2⟩ := a4 hfa
  have hF2 := snap_fits hF hpos a3
  have hlen := a3.length_eq
  simp only [List.flatten_cons, List.flatten_nil, List.append_nil, List.length_append, List.length_cons] at hF2 b1 hlen
  have hO := a2 O (.head _)
  have hR := b2 O (.head _)
  have hrt : ∀ w ∈ r, t ≤ w := fun w hw => b1 w (List.mem_append_left _ hw)
  have hOt : ∀ w ∈ O, t ≤ w := fun w hw => b1 w (List.mem_append_right _ hw)
  have hWt : ∀ w ∈ t :: r, t ≤ w := fun w hw => by
    rcases List.mem_cons.mp hw with rfl | hw
    · exact Int.le_refl _
    · exact hrt w hw
  have hall : ∀ w ∈ (t :: r) ++ O, t ≤ w := fun w hw => (List.mem_append.mp hw).elim (hWt w) (hOt w)
  by_cases hbig : 2 * r.length < ((t :: r) ++ O).length
  · exact .inl (hF2.pigeon hall (by omega) hbig)
  · simp only [List.length_append, List.length_cons] at hbig
    have hge := sum_ge hrt
    match O, hO, hR, hOt, hF2, hbig, hlen with
    | [], hO, _, _, _, hbig, _ =>
      exfalso
      have h2 : (1 : Int) * t ≤ (r.length : Int) * t := Int.mul_le_mul_of_nonneg_right (by simp at hbig; omega) (by omega)
      simp at hO
      omega
    | [A], hO, _, _, hF2, _, _ =>
      right
      simp at hO
      rcases (hF2.perm (W' := A :: (t :: r)) (List.perm_append_comm (l₂ := [A]))).take hWt (by omega) with h | h
      · omega
      · have := h.one
        rw [List.sum_cons] at this
        omega
    | [B, A], hO, hR, hOt, hF2, hbig, _ =>
      have hAB : A + B ≥ r.sum := by simp at hO; omega
      have hp : ((t :: r) ++ [B, A]).Perm (A :: B :: (t :: r)) := (List.perm_append_comm (l₂ := [B, A])).trans (List.Perm.swap _ _ _)
      rcases (hF2.perm hp).pair (t := t) (hOt B (.head _)) hWt (by omega) with h | h | h | h
      · right; omega
      · right
        rw [List.sum_cons] at h
        omega
      · left
        obtain ⟨f, e, hBf⟩ := hR B (.head _)
        obtain ⟨r', rfl⟩ := List.getLast?_eq_some_iff.mp e
        rw [List.sum_append] at hAB
        simp only [List.sum_cons, List.sum_nil] at hAB
        have h3 := sum_ge (t := t) (l := r') fun w hw => hrt w (List.mem_append_left _ hw)
        have h4 : (((r' ++ [f]).length + 1 : Nat) : Int) * t = (r'.length : Int) * t + 2 * t := by
          rw [List.length_append, ← Int.add_mul]
          congr 1
        omega
      · left
        rw [List.length_cons] at h
        exact h
    | _ :: _ :: _ :: l, _, _, _, _, hbig, hlen =>
      exfalso
      simp at hbig hlen
      omega

theorem one_of_sum {O : List Int} {s : Int} (h : s ≤ O.sum) (hs : 1 ≤ s) : 1 ≤ O.length := by
  cases O with
  | nil => simp at h; omega
  | cons _ _ => simp

/-- three hands, at most six works, the longest first -/
theorem three_hands (hF : Fits 3 o ts) (hpos : ∀ x ∈ ts, 1 ≤ x) (hfa : Fall ts) (hl : ts.length ≤ 6) (hs : Snap 3 ts t r) : ((r.length + 1 : Nat) : Int) * t ≤ o ∨ r.sum + t ≤ o := by
  obtain ⟨ht, hto, hr1⟩ := snap_t hF hpos hs
  obtain ⟨Os, rest, a1, a2, a3, a4⟩ := hs
  obtain ⟨O, O', rfl⟩ := two_list a1
  obtain ⟨b1, b2⟩ := a4 hfa
  have hF2 := snap_fits hF hpos a3
  have hlen := a3.length_eq
  simp only [List.flatten_cons, List.flatten_nil, List.append_nil, List.length_append, List.length_cons] at hF2 b1 hlen
  have hO := a2 O (.head _)
  have hO' := a2 O' (.tail _ (.head _))
  have hrt : ∀ w ∈ r, t ≤ w := fun w hw => b1 w (List.mem_append_left _ hw)
  have hOt : ∀ w ∈ O, t ≤ w := fun w hw => b1 w (List.mem_append_right _ (List.mem_append_left _ hw))
  have hOt' : ∀ w ∈ O', t ≤ w := fun w hw => b1 w (List.mem_append_right _ (List.mem_append_right _ hw))
  have hWt : ∀ w ∈ t :: r, t ≤ w := fun w hw => by
    rcases List.mem_cons.mp hw with rfl | hw
    · exact Int.le_refl _
    · exact hrt w hw
  have hall : ∀ w ∈ (t :: r) ++ (O ++ O'), t ≤ w := fun w hw => (List.mem_append.mp hw).elim (hWt w) fun hw => (List.mem_append.mp hw).elim (hOt w) (hOt' w)
  by_cases hbig : 3 * r.length < ((t :: r) ++ (O ++ O')).length
  · exact .inl (hF2.pigeon hall (by omega) hbig)
  · simp only [List.length_append, List.length_cons] at hbig
    have hge := sum_ge hrt
    have hs1 : 1 ≤ r.sum := by
      have h2 : (1 : Int) * t ≤ (r.length : Int) * t := Int.mul_le_mul_of_nonneg_right (by omega) (by omega)
      omega
    have l1 := one_of_sum hO hs1
    have l2 := one_of_sum hO' hs1
    -- one of the others holds a single work
    have key : ∀ (A : Int) (P : List Int), r.sum ≤ A → r.sum ≤ P.sum → (∀ w ∈ P, t ≤ w) → Fits 3 o (A :: ((t :: r) ++ P)) → P.length + r.length ≤ 4 → 1 ≤ P.length → 2 ≤ r.length → ((r.length + 1 : Nat) : Int) * t ≤ o ∨ r.sum + t ≤ o := by
      intro A P hA hP hPt hF3 hPl hP1 hr2
      have hall2 : ∀ w ∈ (t :: r) ++ P, t ≤ w := fun w hw => (List.mem_append.mp hw).elim (hWt w) (hPt w)
      rcases hF3.take hall2 (by omega) with h | h
      · right; omega
      · by_cases hb2 : 2 * r.length < ((t :: r) ++ P).length
        · exact .inl (h.pigeon hall2 (by omega) hb2)
        · simp only [List.length_append, List.length_cons] at hb2
          match P, hP, h, hb2, hPl with
          | [B], hP, h, _, _ =>
            right
            simp at hP
            rcases (h.perm (W' := B :: (t :: r)) (List.perm_append_comm (l₂ := [B]))).take hWt (by omega) with h | h
            · omega
            · have := h.one
              rw [List.sum_cons] at this
              omega
          | _ :: _ :: l, _, _, hb2, hPl =>
            exfalso
            simp at hb2 hPl
            omega
    by_cases hq : O.length = 1
    · obtain ⟨A, rfl⟩ := List.length_eq_one_iff.mp hq
      refine key A O' (by simpa using hO) hO' hOt' (hF2.perm ?_) (by simp at hlen hbig; omega) l2 (by simp at hlen hbig; omega)
      exact (List.perm_append_comm_assoc (t :: r) [A] O')
    · have hq' : O'.length = 1 := by omega
      obtain ⟨A, rfl⟩ := List.length_eq_one_iff.mp hq'
      refine key A O (by simpa using hO') hO hOt (hF2.perm ?_) (by simp at hlen hbig; omega) l1 (by simp at hlen hbig; omega)
      rw [← List.append_assoc]
      exact List.perm_append_comm (l₂ := [A])
end
end Mine

namespace Mine
/-- b is the least hour by which m hands can do all of ts -/
def Best (m : Nat) (ts : List Int) (b : Int) : Prop := Fits m b ts ∧ ∀ gs : List (List Int), gs.length = m → gs.flatten.Perm ts → ∃ g ∈ gs, b ≤ g.sum
/-- M is the greatest of the loads -/
def Top1 (qs : List Tri) (M : Int) : Prop := M ∈ qs.map (·.1) ∧ ∀ a ∈ qs.map (·.1), a ≤ M
section
variable {m : Nat} {ts ts' : List Int} {b M : Int} {qs : List Tri}

theorem best_nonneg (hm : 0 < m) (hpos : ∀ x ∈ ts, 1 ≤ x) (h : Fits m b ts) : 0 ≤ b := by
  obtain ⟨gs, h1, h2, h3⟩ := h
  cases gs with
  | nil => simp at h1; omega
  | cons g gs =>
    have h4 := h3 g (.head _)
    have h5 := sum_nonneg (l := g) fun x hx => by
      have := hpos x (h2.mem_iff.mp (List.mem_flatten.mpr ⟨g, .head _, hx⟩))
      omega
    omega

theorem like_mem {gs : List (List Int)} (h : Like gs qs) {x : Tri} (hx : x ∈ qs) : ∃ g ∈ gs, g.sum = x.1 ∧ (g.length : Int) = x.2.2 := by
  obtain ⟨i, hi, rfl⟩ := List.getElem_of_mem hx
  have hl := h.len
  exact ⟨gs[i], List.getElem_mem _, h.at (by omega) hi⟩
theorem like_mem' {gs : List (List Int)} (h : Like gs qs) {g : List Int} (hg : g ∈ gs) : g.sum ∈ qs.map (·.1) := by
  obtain ⟨i, hi, rfl⟩ := List.getElem_of_mem hg
  have hl := h.len
  rw [(h.at hi (by omega)).1]
  exact List.mem_map_of_mem (List.getElem_mem _)

theorem span_ge (hpos : ∀ x ∈ ts, 1 ≤ x) (hr : Run ts (start m) qs) (ht : Top1 qs M) (hp : ts.Perm ts') (hb : Best m ts' b) : b ≤ M := by
  obtain ⟨gs, j, hl⟩ := run_start hpos hr
  obtain ⟨g, hg, h⟩ := hb.2 gs j.len (j.perm.trans hp)
  have := ht.2 _ (like_mem' hl hg)
  omega

/-- within 2 - 1/m -/
theorem graham (hm : m = 2 ∨ m = 3) (hpos : ∀ x ∈ ts, 1 ≤ x) (hr : Run ts (start m) qs) (ht : Top1 qs M) (hp : ts.Perm ts') (hb : Best m ts' b) : (m : Int) * M ≤ (2 * (m : Int) - 1) * b := by
  obtain ⟨gs, j, hl⟩ := run_start hpos hr
  have hF : Fits m b ts := hb.1.perm hp.symm
  have h0 := best_nonneg (by omega) hpos hF
  obtain ⟨x, hx, rfl⟩ := List.mem_map.mp ht.1
  obtain ⟨g, hg, e1, e2⟩ := like_mem hl hx
  rw [← e1]
  cases g with
  | nil =>
    rcases hm with rfl | rfl
    · simp; omega
    · simp; omega
  | cons t r =>
    have hs := j.snap _ hg t r rfl
    have h1 := snap_load hF hpos hs
    have h2 := snap_t hF hpos hs
    rw [List.sum_cons]
    rcases hm with rfl | rfl
    · simp at h1 ⊢; omega
    · simp at h1 ⊢; omega

theorem dicho (hm : m = 2 ∧ ts.length ≤ 7 ∨ m = 3 ∧ ts.length ≤ 6) (hpos : ∀ x ∈ ts, 1 ≤ x) (hfa : Fall ts) (hF : Fits m b ts) {t : Int} {r : List Int} (hs : Snap m ts t r) : ((r.length + 1 : Nat) : Int) * t ≤ b ∨ r.sum + t ≤ b := by
  rcases hm with ⟨rfl, h⟩ | ⟨rfl, h⟩
  · exact two_hands hF hpos hfa h hs
  · exact three_hands hF hpos hfa h hs

/-- within 1 + 1/k - 1/(km) -/
theorem coffman (hm : m = 2 ∧ ts.length ≤ 7 ∨ m = 3 ∧ ts.length ≤ 6) (hpos : ∀ x ∈ ts, 1 ≤ x) (hfa : Fall ts) (hr : Run ts (start m) qs) (hp : ts.Perm ts') (hb : Best m ts' b) {x : Tri} (hx : x ∈ qs) :
    x.2.2 * (m : Int) * x.1 ≤ ((x.2.2 + 1) * (m : Int) - 1) * b := by
  obtain ⟨gs, j, hl⟩ := run_start hpos hr
  have hF : Fits m b ts := hb.1.perm hp.symm
  have h0 := best_nonneg (by omega) hpos hF
  obtain ⟨g, hg, e1, e2⟩ := like_mem hl hx
  rw [← e1, ← e2]
  cases g with
  | nil =>
    rcases hm with ⟨rfl, _⟩ | ⟨rfl, _⟩
    · simp; omega
    · simp; omega
  | cons t r =>
    have hs := j.snap _ hg t r rfl
    have h1 := snap_load hF hpos hs
    have h2 := dicho hm hpos hfa hF hs
    have h3 := snap_t hF hpos hs
    rw [List.sum_cons, List.length_cons]
    have hk : (0 : Int) ≤ ((r.length + 1 : Nat) : Int) := by omega
    generalize ((r.length + 1 : Nat) : Int) = k at *
    generalize r.sum = s at *
    have hkb : 0 ≤ k * b := Int.mul_nonneg hk h0
    have hm' : m = 2 ∨ m = 3 := by omega
    rcases hm' with rfl | rfl
    · have e3 : k * ((2 : Nat) : Int) * (t + s) = 2 * (k * t) + 2 * (k * s) := by
        rw [Int.mul_comm k, Int.mul_assoc, Int.mul_add, Int.mul_add]; rfl
      have e4 : ((k + 1) * ((2 : Nat) : Int) - 1) * b = 2 * (k * b) + b := by
        rw [Int.sub_mul, Int.mul_comm (k + 1), Int.mul_assoc, Int.add_mul]; simp; omega
      rw [e3, e4]
      rcases h2 with h2 | h2
      · have h4 := Int.mul_le_mul_of_nonneg_left h1 hk
        rw [Int.mul_add, Int.mul_left_comm, Int.mul_left_comm k] at h4
        simp at h4
        omega
      · have h4 := Int.mul_le_mul_of_nonneg_left h2 hk
        rw [Int.mul_add] at h4
        omega
    · have e3 : k * ((3 : Nat) : Int) * (t + s) = 3 * (k * t) + 3 * (k * s) := by
        rw [Int.mul_comm k, Int.mul_assoc, Int.mul_add, Int.mul_add]; rfl
      have e4 : ((k + 1) * ((3 : Nat) : Int) - 1) * b = 3 * (k * b) + 2 * b := by
        rw [Int.sub_mul, Int.mul_comm (k + 1), Int.mul_assoc, Int.add_mul]; simp; omega
      rw [e3, e4]
      rcases h2 with h2 | h2
      · have h4 := Int.mul_le_mul_of_nonneg_left h1 hk
        rw [Int.mul_add, Int.mul_left_comm, Int.mul_left_comm k] at h4
        simp at h4
        omega
      · have h4 := Int.mul_le_mul_of_nonneg_left h2 hk
        rw [Int.mul_add] at h4
        omega

/-- 3t within the best, or the span itself -/
theorem third (hm : m = 2 ∧ ts.length ≤ 7 ∨ m = 3 ∧ ts.length ≤ 6) (hpos : ∀ x ∈ ts, 1 ≤ x) (hfa : Fall ts) (hF : Fits m b ts) {t : Int} {r : List Int} (hs : Snap m ts t r) : 3 * t ≤ b ∨ r.sum + t ≤ b := by
  obtain ⟨ht, hto, hr1⟩ := snap_t hF hpos hs
  by_cases h3 : 3 ≤ r.length + 1
  · rcases dicho hm hpos hfa hF hs with h | h
    · left
      have : (3 : Int) * t ≤ ((r.length + 1 : Nat) : Int) * t := Int.mul_le_mul_of_nonneg_right (by omega) (by omega)
      omega
    · exact .inr h
  · match r, h3 with
    | [], _ => right; simp; omega
    | _ :: _ :: _, h3 => simp at h3
    | [a], _ =>
      obtain ⟨Os, rest, a1, a2, a3, a4⟩ := hs
      obtain ⟨b1, b2⟩ := a4 hfa
      have hF2 := snap_fits hF hpos a3
      have hat : t ≤ a := b1 a (List.mem_append_left _ (.head _))
      have hOst : ∀ w ∈ Os.flatten, t ≤ w := fun w hw => b1 w (List.mem_append_right _ hw)
      have htO : ∀ w ∈ t :: Os.flatten, t ≤ w := fun w hw => by
        rcases List.mem_cons.mp hw with rfl | hw
        · exact Int.le_refl _
        · exact hOst w hw
      have hF3 : Fits m b (a :: (t :: Os.flatten)) := hF2.perm (List.Perm.swap _ _ _)
      rcases hm with ⟨rfl, _⟩ | ⟨rfl, _⟩
      · obtain ⟨O, rfl⟩ := one_list a1
        have hO := a2 O (.head _)
        rcases hF3.take htO (by omega) with h | h
        · right; simp; omega
        · have := h.one
          right
          simp at this hO ⊢
          omega
      · obtain ⟨O, O', rfl⟩ := two_list a1
        have hO := a2 O (.head _)
        have hO' := a2 O' (.tail _ (.head _))
        simp only [List.flatten_cons, List.flatten_nil, List.append_nil] at hF3 htO hOst
        have l1 := one_of_sum (s := [a].sum) hO (by simp; omega)
        have l2 := one_of_sum (s := [a].sum) hO' (by simp; omega)
        rcases hF3.take htO (by omega) with h | h
        · right; simp; omega
        · by_cases hbig : 2 * 2 < (t :: (O ++ O')).length
          · left
            have := h.pigeon htO (by omega) hbig
            simpa using this
          · simp only [List.length_append, List.length_cons] at hbig
            have key : ∀ (A : Int) (P : List Int), [a].sum ≤ A → [a].sum ≤ P.sum → (∀ w ∈ P, t ≤ w) → Fits 2 b (A :: (t :: P)) → 3 * t ≤ b ∨ [a].sum + t ≤ b := by
              intro A P hA hP hPt h
              rcases h.take (t := t) (fun w hw => by
                rcases List.mem_cons.mp hw with rfl | hw
                · exact Int.le_refl _
                · exact hPt w hw) (by omega) with h | h
              · right; omega
              · have := h.one
                rw [List.sum_cons] at this
                right; omega
            by_cases hq : O.length = 1
            · obtain ⟨A, rfl⟩ := List.length_eq_one_iff.mp hq
              exact key A O' (by simpa using hO) hO' (fun w hw => hOst w (List.mem_append_right _ hw)) (h.perm (List.Perm.swap _ _ _))
            · have hq' : O'.length = 1 := by omega
              obtain ⟨A, rfl⟩ := List.length_eq_one_iff.mp hq'
              refine key A O (by simpa using hO') hO (fun w hw => hOst w (List.mem_append_left _ hw)) (h.perm ?_)
              rw [← List.cons_append]
              exact List.perm_append_comm (l₂ := [A])

/-- within 4/3 - 1/(3m) -/
theorem grahamLpt (hm : m = 2 ∧ ts.length ≤ 7 ∨ m = 3 ∧ ts.length ≤ 6) (hpos : ∀ x ∈ ts, 1 ≤ x) (hfa : Fall ts) (hr : Run ts (start m) qs) (ht : Top1 qs M) (hp : ts.Perm ts') (hb : Best m ts' b) : 3 * (m : Int) * M ≤ (4 * (m : Int) - 1) * b := by
  obtain ⟨gs, j, hl⟩ := run_start hpos hr
  have hF : Fits m b ts := hb.1.perm hp.symm
  have h0 := best_nonneg (by omega) hpos hF
  obtain ⟨x, hx, rfl⟩ := List.mem_map.mp ht.1
  obtain ⟨g, hg, e1, e2⟩ := like_mem hl hx
  rw [← e1]
  cases g with
  | nil =>
    rcases hm with ⟨rfl, _⟩ | ⟨rfl, _⟩
    · simp; omega
    · simp; omega
  | cons t r =>
    have hs := j.snap _ hg t r rfl
    have h1 := snap_load hF hpos hs
    have h2 := third hm hpos hfa hF hs
    have h3 := snap_t hF hpos hs
    rw [List.sum_cons]
    rcases hm with ⟨rfl, _⟩ | ⟨rfl, _⟩
    · simp at h1 ⊢; omega
    · simp at h1 ⊢; omega
end
end Mine

namespace Mine
/-- the loads in S are those that ts can be shared into -/
def Reach (m : Nat) (ts : List Int) (S : List (List Int)) : Prop :=
  (∀ st ∈ S, ∃ gs : List (List Int), gs.length = m ∧ gs.flatten.Perm ts ∧ (gs.map List.sum).Perm st) ∧
  ∀ gs : List (List Int), gs.length = m → gs.flatten.Perm ts → ∃ st ∈ S, (gs.map List.sum).Perm st

theorem flatten_nil_groups : ∀ {gs : List (List Int)}, gs.flatten = [] → gs.map List.sum = List.replicate gs.length 0
  | [], _ => rfl
  | g :: gs, h => by
    rw [List.flatten_cons, List.append_eq_nil_iff] at h
    rw [List.map_cons, h.1, flatten_nil_groups h.2]
    rfl
theorem Reach.init (m : Nat) : Reach m [] [List.replicate m 0] := by
  refine ⟨fun st hst => ?_, fun gs hl hp => ?_⟩
  · rw [List.mem_singleton.mp hst]
    refine ⟨List.replicate m [], List.length_replicate, by rw [perm_nil_flatten], ?_⟩
    rw [flatten_nil_groups perm_nil_flatten, List.length_replicate]
  · refine ⟨_, .head _, ?_⟩
    rw [flatten_nil_groups (List.perm_nil.mp hp), hl]

theorem erase_set : ∀ {st : List Int} {h : Nat} {v : Int}, (st.set h v).eraseIdx h = st.eraseIdx h
  | [], _, _ => rfl
  | _ :: _, 0, _ => rfl
  | a :: l, h + 1, v => by
    show a :: (l.set h v).eraseIdx h = a :: l.eraseIdx h
    rw [erase_set]
theorem set_perm_cons {st : List Int} {h : Nat} {v : Int} (hh : h < st.length) : (st.set h v).Perm (v :: st.eraseIdx h) := by
  have h1 : h < (st.set h v).length := by rw [List.length_set]; exact hh
  have h2 := erase_perm h1
  rw [List.getElem_set_self] at h2
  have e : (st.set h v).eraseIdx h = st.eraseIdx h := by
    exact erase_set
  rw [e] at h2
  exact h2

theorem Reach.step {m : Nat} {ts : List Int} {S Fk : List (List Int)} {t : Int} (r : Reach m ts S)
    (h1 : ∀ f ∈ Fk, ∃ st ∈ S, ∃ h, h < m ∧ f.Perm (st.set h (st.getD h 0 + t)))
    (h2 : ∀ st ∈ S, ∀ h, h < m → ∃ f ∈ Fk, f.Perm (st.set h (st.getD h 0 + t))) : Reach m (ts ++ [t]) Fk := by
  refine ⟨fun f hf => ?_, fun gs hl hp => ?_⟩
  · obtain ⟨st, hst, h, hh, hp⟩ := h1 f hf
    obtain ⟨gs, a1, a2, a3⟩ := r.1 st hst
    have hlen : st.length = m := by rw [← a3.length_eq, List.length_map, a1]
    have hh' : h < st.length := by omega
    have hm : st[h] ∈ gs.map List.sum := a3.mem_iff.mpr (List.getElem_mem _)
    obtain ⟨g, hg, e⟩ := List.mem_map.mp hm
    have p1 := List.perm_cons_erase hg
    have p2 : ((gs.erase g).map List.sum).Perm (st.eraseIdx h) := by
      have q := (p1.map List.sum).symm.trans (a3.trans (erase_perm hh'))
      rw [List.map_cons, e] at q
      exact List.Perm.cons_inv q
    refine ⟨(t :: g) :: gs.erase g, by rw [← a1, p1.length_eq]; simp, ?_, ?_⟩
    · rw [List.flatten_cons, List.cons_append]
      have q := p1.flatten.symm.trans a2
      rw [List.flatten_cons] at q
      exact (List.Perm.cons t q).trans (List.perm_append_comm (l₁ := [t]))
    · rw [List.map_cons, List.sum_cons, e]
      refine List.Perm.trans ?_ hp.symm
      refine List.Perm.trans ?_ (set_perm_cons hh').symm
      rw [getD_lt hh', Int.add_comm]
      exact List.Perm.cons _ p2
  · have hp' : gs.flatten.Perm (t :: ts) := hp.trans (List.perm_append_comm (l₂ := [t]))
    obtain ⟨g0, g, rest, p1, p2, p3⟩ := group_of hp'
    obtain ⟨st, hst, q⟩ := r.2 (g :: rest) (by rw [← hl, p1.length_eq]; simp) (by rw [List.flatten_cons]; exact p3)
    have hm : g.sum ∈ st := q.mem_iff.mp (by simp)
    obtain ⟨h, hh, e⟩ := List.getElem_of_mem hm
    have hlen : st.length = m := by
      have := q.length_eq
      rw [List.length_map, List.length_cons] at this
      rw [← this, ← hl, p1.length_eq]; simp
    obtain ⟨f, hf, hfp⟩ := h2 st hst h (by omega)
    refine ⟨f, hf, ?_⟩
    have q2 : (rest.map List.sum).Perm (st.eraseIdx h) := by
      have := q.trans (erase_perm hh)
      rw [List.map_cons, e] at this
      exact List.Perm.cons_inv this
    refine List.Perm.trans ?_ hfp.symm
    refine List.Perm.trans ?_ (set_perm_cons hh).symm
    refine (p1.map List.sum).trans ?_
    rw [List.map_cons, sum_perm p2, List.sum_cons, getD_lt hh, e, Int.add_comm]
    exact List.Perm.cons _ q2

theorem Reach.pos {m : Nat} {ts : List Int} {S : List (List Int)} (r : Reach (m + 1) ts S) : 0 < S.length := by
  obtain ⟨st, hst, _⟩ := r.2 (ts :: List.replicate m []) (by simp) (by rw [List.flatten_cons, perm_nil_flatten, List.append_nil])
  exact List.length_pos_of_mem hst
theorem Reach.len {m : Nat} {ts : List Int} {S : List (List Int)} (r : Reach m ts S) : ∀ st ∈ S, st.length = m := fun st hst => by
  obtain ⟨gs, a1, _, a3⟩ := r.1 st hst
  rw [← a3.length_eq, List.length_map, a1]
theorem Reach.best {m : Nat} {ts : List Int} {S : List (List Int)} {Ms : List Int} {b : Int} (r : Reach m ts S) (hl : Ms.length = S.length)
    (hM : ∀ i, i < S.length → Ms.getD i 0 ∈ S.getD i [] ∧ ∀ a ∈ S.getD i [], a ≤ Ms.getD i 0) (hb : b ∈ Ms) (hmin : ∀ a ∈ Ms, b ≤ a) : Best m ts b := by
  refine ⟨?_, fun gs hl2 hp => ?_⟩
  · obtain ⟨i, hi, rfl⟩ := List.getElem_of_mem hb
    obtain ⟨h1, h2⟩ := hM i (by omega)
    rw [getD_lt hi, getD_lt (by omega)] at h2
    obtain ⟨gs, a1, a2, a3⟩ := r.1 S[i] (List.getElem_mem _)
    exact ⟨gs, a1, a2, fun g hg => h2 _ (a3.mem_iff.mp (List.mem_map_of_mem hg))⟩
  · obtain ⟨st, hst, q⟩ := r.2 gs hl2 hp
    obtain ⟨i, hi, rfl⟩ := List.getElem_of_mem hst
    obtain ⟨h1, h2⟩ := hM i hi
    have h3 := hmin (Ms.getD i 0) (getD_mem' (by omega))
    rw [getD_lt hi] at h1
    obtain ⟨g, hg, e⟩ := List.mem_map.mp (q.mem_iff.mpr h1)
    exact ⟨g, hg, by omega⟩
end Mine

namespace Mine
/-- all the ends of a run, reckoned -/
def runAll : List Int → List Tri → List (List Tri)
  | [], ps => [ps]
  | t :: ts, ps => (List.range ps.length).flatMap fun b => if ((List.range ps.length).all fun i => !klt (ps.getD i z3).key (ps.getD b z3).key) = true then runAll ts (ps.eraseIdx b ++ [((ps.getD b z3).1 + t, (ps.getD b z3).2.1, (ps.getD b z3).2.2 + 1)]) else []
theorem kle_not {k l : Int × Int} (h : kle k l) : klt l k = false := by
  obtain ⟨k1, k2⟩ := k
  obtain ⟨l1, l2⟩ := l
  unfold kle at h
  unfold klt
  rw [decide_eq_false_iff_not]
  dsimp only at *
  omega
theorem run_mem : ∀ {ts : List Int} {ps qs : List Tri}, Run ts ps qs → qs ∈ runAll ts ps
  | [], ps, qs, h => by
    have h : qs = ps := h
    subst h
    exact .head _
  | t :: ts, ps, qs, ⟨rs, ⟨b, hb, hmin, e⟩, h⟩ => by
    unfold runAll
    rw [List.mem_flatMap]
    refine ⟨b, List.mem_range.mpr hb, ?_⟩
    rw [if_pos ?_, ← e]
    · exact run_mem h
    · rw [List.all_eq_true]
      intro i hi
      rw [kle_not (hmin i (List.mem_range.mp hi))]
      rfl
/-- a hand's tuple with its hour c times as late -/
def sc (c : Int) (x : Tri) : Tri := (c * x.1, x.2.1, x.2.2)
theorem kle_sc {c : Int} (hc : 1 ≤ c) {x y : Tri} (h : kle (sc c x).key (sc c y).key) : kle x.key y.key := by
  obtain ⟨x1, x2, x3⟩ := x
  obtain ⟨y1, y2, y3⟩ := y
  unfold kle sc Tri.key at *
  dsimp only at *
  rcases h with h | ⟨h, h2⟩
  · left
    exact Int.lt_of_mul_lt_mul_left h (by omega)
  · right
    exact ⟨Int.eq_of_mul_eq_mul_left (by omega) h, h2⟩
theorem sc_z {c : Int} : sc c z3 = z3 := by
  unfold sc z3
  simp
theorem getD_sc {c : Int} {ps : List Tri} {i : Nat} : (ps.map (sc c)).getD i z3 = sc c (ps.getD i z3) := by
  rw [List.getD_eq_getElem?_getD, List.getElem?_map, List.getD_eq_getElem?_getD]
  cases ps[i]? with
  | none => exact sc_z.symm
  | some x => rfl
theorem run_sc {c : Int} (hc : 1 ≤ c) : ∀ {ts : List Int} {ps qs : List Tri}, Run (ts.map (c * ·)) (ps.map (sc c)) qs → ∃ qs', qs = qs'.map (sc c) ∧ Run ts ps qs'
  | [], ps, qs, h => ⟨ps, h, rfl⟩
  | t :: ts, ps, qs, ⟨rs, ⟨b, hb, hmin, e⟩, h⟩ => by
    have hb' : b < ps.length := by simpa using hb
    have e2 : rs = (ps.eraseIdx b ++ [((ps.getD b z3).1 + t, (ps.getD b z3).2.1, (ps.getD b z3).2.2 + 1)]).map (sc c) := by
      rw [e, List.map_append, ← map_erase, getD_sc]
      simp only [List.map_cons, List.map_nil, sc, Int.mul_add]
    rw [e2] at h
    obtain ⟨qs', h1, h2⟩ := run_sc hc h
    refine ⟨qs', h1, _, ⟨b, hb', fun i hi => ?_, rfl⟩, h2⟩
    have := hmin i (by simpa using hi)
    rw [getD_sc, getD_sc] at this
    exact kle_sc hc this
theorem start_sc {c : Int} {m : Nat} : (start m).map (sc c) = start m := by
  unfold start
  rw [List.map_map]
  refine List.map_congr_left fun i _ => ?_
  simp [sc]
theorem run_made {c M : Int} {m : Nat} {ts : List Int} {qs : List Tri} (hc : 1 ≤ c) (k : Int) (hall : ∀ q ∈ runAll ts (start m), k ∈ q.map (·.1) ∧ ∀ a ∈ q.map (·.1), a ≤ k) (h : Run (ts.map (c * ·)) (start m) qs) (ht : Top1 qs M) : M = c * k := by
  rw [← start_sc (c := c)] at h
  obtain ⟨qs', rfl, h2⟩ := run_sc hc h
  obtain ⟨a1, a2⟩ := hall _ (run_mem h2)
  obtain ⟨b1, b2⟩ := ht
  have e : (qs'.map (sc c)).map (·.1) = (qs'.map (·.1)).map (c * ·) := by
    rw [List.map_map, List.map_map]; rfl
  rw [e] at b1 b2
  have h3 := b2 _ (List.mem_map_of_mem (f := (c * ·)) a1)
  obtain ⟨a, ha, rfl⟩ := List.mem_map.mp b1
  have h4 : c * a ≤ c * k := Int.mul_le_mul_of_nonneg_left (a2 a ha) (by omega)
  have h3 : c * k ≤ c * a := h3
  show c * a = c * k
  omega

/-- the made row, its first j pairs -/
def hiPart (h : Nat) (c : Int) (j : Nat) : List Int := (List.range j).flatMap fun i : Nat => [(2 * (h : Int) - 1 - i) * c, (2 * (h : Int) - 1 - i) * c]
def hiAll (h : Nat) (c : Int) : List Int := hiPart h c (h - 1) ++ List.replicate 3 ((h : Int) * c)
theorem hiPart_succ {h j : Nat} {c : Int} : hiPart h c (j + 1) = hiPart h c j ++ [(2 * (h : Int) - 1 - j) * c, (2 * (h : Int) - 1 - j) * c] := by
  unfold hiPart
  rw [List.range_succ, List.flatMap_append]
  simp
theorem hiPart_len {h : Nat} {c : Int} : ∀ {j : Nat}, (hiPart h c j).length = 2 * j
  | 0 => rfl
  | j + 1 => by rw [hiPart_succ, List.length_append, hiPart_len]; simp; omega
theorem hiAll_2 {c : Int} : hiAll 2 c = [3, 3, 2, 2, 2].map (c * ·) := by
  simp [hiAll, hiPart, List.range_succ, List.replicate_succ, Int.mul_comm]
theorem hiAll_3 {c : Int} : hiAll 3 c = [5, 5, 4, 4, 3, 3, 3].map (c * ·) := by
  simp [hiAll, hiPart, List.range_succ, List.replicate_succ, Int.mul_comm]
section
variable {h : Nat} {c M : Int} {qs : List Tri} {ts : List Int}
theorem hiAll_fall (hh : h = 2 ∨ h = 3) (hc : 1 ≤ c) : Fall (hiAll h c) := by
  rcases hh with rfl | rfl
  · rw [hiAll_2]; unfold Fall; simp; omega
  · rw [hiAll_3]; unfold Fall; simp; omega
theorem hiAll_sum (hh : h = 2 ∨ h = 3) : (hiAll h c).sum = 3 * (h : Int) * (h : Int) * c := by
  rcases hh with rfl | rfl
  · rw [hiAll_2]; simp; omega
  · rw [hiAll_3]; simp; omega
theorem hiAll_len (hh : h = 2 ∨ h = 3) : (hiAll h c).length = 2 * h + 1 := by
  rcases hh with rfl | rfl
  · rw [hiAll_2]; rfl
  · rw [hiAll_3]; rfl
theorem fall_eq {l l' : List Int} (hp : l.Perm l') (h1 : Fall l) (h2 : Fall l') : l = l' :=
  List.Perm.eq_of_pairwise (le := fun a b => b ≤ a) (fun a b _ _ h1 h2 => by omega) h1 h2 hp
theorem made_first (hh : h = 2 ∨ h = 3) (hc : 1 ≤ c) (hr : Run (hiAll h c) (start h) qs) (ht : Top1 qs M) : M = (4 * (h : Int) - 1) * c := by
  rcases hh with rfl | rfl
  · rw [hiAll_2] at hr
    have := run_made hc 7 (by decide +kernel) hr ht
    rw [this, Int.mul_comm]; rfl
  · rw [hiAll_3] at hr
    have := run_made hc 11 (by decide +kernel) hr ht
    rw [this, Int.mul_comm]; rfl
theorem made_second (hh : h = 2 ∨ h = 3) (hc : 1 ≤ c) (hr : Run (List.replicate (h * (h - 1)) c ++ [(h : Int) * c]) (start h) qs) (ht : Top1 qs M) : M = (2 * (h : Int) - 1) * c := by
  rcases hh with rfl | rfl
  · have e : List.replicate (2 * (2 - 1)) c ++ [((2 : Nat) : Int) * c] = [1, 1, 2].map (c * ·) := by simp [List.replicate_succ, Int.mul_comm]
    rw [e] at hr
    have := run_made hc 3 (by decide +kernel) hr ht
    rw [this, Int.mul_comm]; rfl
  · have e : List.replicate (3 * (3 - 1)) c ++ [((3 : Nat) : Int) * c] = [1, 1, 1, 1, 1, 1, 3].map (c * ·) := by simp [List.replicate_succ, Int.mul_comm]
    rw [e] at hr
    have := run_made hc 5 (by decide +kernel) hr ht
    rw [this, Int.mul_comm]; rfl
end
end Mine

namespace Mine
theorem count_le {m : Nat} {ts : List Int} {qs : List Tri} (hpos : ∀ x ∈ ts, 1 ≤ x) (hr : Run ts (start m) qs) {x : Tri} (hx : x ∈ qs) : 0 ≤ x.2.2 ∧ x.2.2 ≤ ts.length := by
  obtain ⟨gs, j, hl⟩ := run_start hpos hr
  obtain ⟨g, hg, _, e⟩ := like_mem hl hx
  rw [← e]
  refine ⟨by omega, ?_⟩
  have h1 : g.length ≤ gs.flatten.length := by
    have := (List.perm_cons_erase hg).flatten.length_eq
    rw [List.flatten_cons, List.length_append] at this
    omega
  rw [j.perm.length_eq] at h1
  omega
end Mine

namespace Mine
open_top hd for PySem.Challenge.rw_dm5007_01
end Mine

namespace Mine
theorem walk_off : True := by
  w_top off
  trivial
end Mine

namespace Mine
local macro_rules | `(tactic| walk_at "in_led") => `(tactic| first | exact List.Mem.head _ | (refine List.Mem.tail _ ?_; walk_at "in_led"))
local macro_rules | `(tactic| walk_at "led_sub") => `(tactic| first | ((with_reducible refine' List.forall_mem_cons.mpr ⟨?p1, ?q1⟩); (case p1 => walk_at "in_led"); (case q1 => walk_at "led_sub")) | (intro p2 hp2; repeat (first | exact hp2 | refine List.Mem.tail _ ?_)))
local macro_rules | `(tactic| walk_at "loc") => `(tactic| first | with_reducible assumption | with_reducible exact if_pos rfl | ((with_reducible refine' Eq.trans (if_neg ?p1) ?q1); (case p1 => decide +kernel); (case q1 => walk_at "loc")) | exact rfl)
local macro_rules | `(tactic| walk_at "eval Name") => `(tactic| (k_here; (fail_if_success (with_reducible show wpAny _ _ (eval (PySem.Expr.Name _ _) (PySem.compEnvC _ _ _ _)) _ _ _)); k_dflt (refine' nameX_C ?k1 ?k2 ?k3 ?k4 ?_; (case k1 => assumption); (case k2 => exact rfl); (case k3 => walk_at "in_led"); (case k4 => assumption); k_whole)))
local macro_rules | `(tactic| walk_at "eval Name") => `(tactic| (k_here; (with_reducible show wpAny _ _ (eval (PySem.Expr.Name _ _) (PySem.compEnvC _ _ _ _)) _ _ _); refine' comp_load ?k1 ?k2 ?k3 ?k4 ?k5 ?k6 ?_; (case k1 => assumption); (case k2 => assumption); (case k3 => first | with_reducible exact if_pos rfl | walk_at "loc"); (case k4 => walk_at "in_led"); (case k5 => rfl); (case k6 => rfl)))
local macro_rules | `(tactic| walk_at "eval Name") => `(tactic| (k_here; (with_reducible show wpAny _ _ (eval (PySem.Expr.Name _ _) (PySem.compEnvC _ _ _ _)) _ _ _); refine' comp_cell ?k1 ?k2 ?k3 ?k4 ?k5 ?k6 ?_; (case k1 => assumption); (case k2 => assumption); (case k3 => walk_at "in_led"); (case k4 => rfl); (case k5 => rfl); (case k6 => rfl)))
local macro_rules | `(tactic| walk_at "eval Name") => `(tactic| (k_here; (first | (with_reducible refine' nameO_L ?k1 ?k2 ?_ ?k3 ?k4 ?k5) | (with_reducible refine' nameC_L ?k1 ?k2 ?_ ?k3 ?k4 ?k5)); (case k4 => k_dflt exact rfl); (case k3 => k_dflt exact rfl); (case k5 => k_dflt decide); (case k1 => k_dflt k_asm); (case k2 => k_dflt walk_at "loc"); k_whole))
local macro_rules | `(tactic| walk_at "cells_enter") => `(tactic| (refine' code_defC ?k1 ?k2 ?k3 ?k4 ?k5 ?kA ?kF ?kK ?k6 ?k7 ?k8 ?k9 ?kB ?kD ?_ ?c2 ?c3 ?c4; (case kA => exact rfl); (case kF => exact rfl); (case kK => assumption); (case k1 => k_asm); (case k2 => k_asm); (case k3 => k_asm); (case k4 => k_asm); (case k5 => k_asm); (case k6 => k_is); (case k7 => k_is); (case k8 => ktr_room); (case k9 => first | exact BindsTo.of_eq rfl | exact binds_K (by k_in) rfl (by k_is) rfl rfl rfl); (case kB => exact rfl); (case kD => decide +kernel); (case c2 => exact rfl); (case c3 => exact rfl); (case c4 => exact rfl); k_whole; intro g' L' h' tk' cells' FG' F' N' Y' B' X' T' l1; (try k_lt l1); k_cells Y'; (try simp only [List.cons_append, List.nil_append] at N'); (try dsimp only); (try k_lift B'); (try k_fold)))
set_option hygiene false in
local macro_rules | `(tactic| walk_at "execs nil") => `(tactic| (k_here; (with_reducible refine' toks_any ?_); intro tk))
set_option hygiene false in
local macro_rules | `(tactic| walk_at "execs cons") => `(tactic| (k_here; (with_reducible refine' toks_any ?_); intro tk))
local macro_rules | `(tactic| walk_at "execs cons Assign cons") => `(tactic| ((with_reducible refine wpAny_execs_cons ?_); try dsimp only))
set_option hygiene false in
local macro_rules | `(tactic| walk_at "execs cons Assign cons") => `(tactic| (k_here; (with_reducible refine' toks_any ?_); intro tk))
local macro_rules | `(tactic| walk_at "stop1") => `(tactic| ((fail_if_success (with_reducible show wpAny _ _ (exec (Stmt.While _ _ _ _) _) _ _ _)); (fail_if_success (with_reducible show wpAny _ _ (exec (Stmt.For _ _ _ _ _) _) _ _ _)); (fail_if_success (with_reducible show wpAny _ _ (PySem.call (Value.ref _) _) _ _ _))))
local macro_rules | `(tactic| walk_at "stop2") => `(tactic| ((fail_if_success (with_reducible show wpAny _ _ (subscriptTail _ _ (Value.ref _) _) _ _ _)); (fail_if_success (with_reducible show wpAny _ _ (compareOp _ (Value.ref _) (Value.ref _)) _ _ _)); (fail_if_success (with_reducible show wpAny _ _ (setItem (Value.ref _) _ _) _ _ _))))
local macro_rules | `(tactic| walk_at "stop3") => `(tactic| ((fail_if_success (with_reducible show wpAny _ _ (PySem.call (Value.builtin _) (Value.ref _ :: _)) _ _ _)); (fail_if_success (with_reducible show wpAny _ _ (PySem.call (Value.type _) _) _ _ _)); (fail_if_success (with_reducible show wpAny _ _ (pyIter _) _ _ _))))
local macro_rules | `(tactic| walk_at "stop4") => `(tactic| ((fail_if_success (with_reducible show wpAny _ _ (truthy (Value.ref _)) _ _ _)); (fail_if_success (with_reducible show wpAny _ _ (getMethod (Value.ref _) _ _) _ _ _)); (fail_if_success (with_reducible show wpAny _ _ (eval (PySem.Expr.ListComp _ _ _ _) _) _ _ _))))
local macro_rules | `(tactic| walk_at "stop5") => `(tactic| ((fail_if_success (with_reducible show wpAny _ _ (exec (Stmt.Assign _ (PySem.Expr.ListComp _ _ _ _) _) _) _ _ _)); (fail_if_success (with_reducible show WhlIf _ _ _)); (fail_if_success (with_reducible show Exists _))))
local macro_rules | `(tactic| walk_at "stop") => `(tactic| (walk_at "stop1"; walk_at "stop2"; walk_at "stop3"; walk_at "stop4"; walk_at "stop5"))
local macro_rules | `(tactic| walk_at "go") => `(tactic| repeat' (first | (k_unfold; (try dsimp only)) | (walk_at "stop"; first | walk1 | (dsimp only; walk1) | (leave1; walk_say "STEP leave1"; (try dsimp only)) | (dsimp only [WEnd, NextIs]))))

section
section
variable {w : World} {p : Program} {loose : List Str} {mean : ExcName → Option Value} {mg mb : Str → Option Value} {dp un : Nat} {gd : Option (List Code)} {cn : Str} {cs : Scope} {a : Addr} {ccd : Value} {cl : List (Str × Addr)} {outer : List Env} {A₀ : Around} {base h₀ : Heap} {L : Addr} {m : Str → Option Value} {s : Shared} {Q E : Value → Shared → Prop}
theorem siftdown (κ : Value → Int × Int) {l : Addr} {vs : List Value} {n : Nat} {rest : List (Addr × Obj)} (start pos : Nat) {t1 t2 : Tok}
    (B : Below A₀ base outer h₀) (F : Fr h₀ L s.heap m) (X : (hd.heap_39 w.params).In h₀) (N : News h₀ L s.heap ((l, listOf vs.toArray n) :: rest)) (hr : ∀ p ∈ rest, p.1 ≠ l) (T : Top p loose mean mg mb h₀) (hk : cs.kind = .function)
    (hd : dp + 1 < recursionLimit) (hu : un + 8 < cLine)
    (hp : pos < vs.length) (hz : vs.length < 1000) (hκ : ∀ v ∈ vs, T2s rest v (κ v)) (hnd : (vs.map κ).Nodup)
    (ret : ∀ h' tk', Fr h₀ L h' m → News h₀ L h' ((l, listOf (sdn κ vs (vs.getD pos .none) start pos).toArray n) :: rest) → Q .none { s with heap := h', toks := tk' }) :
    wpAny (model PySem.Challenge.rw_dm5007_01.row.prog w) (ktrTop dp un gd cn cs L a ccd cl outer) (call (.ref 49) [.ref l, .int start t1, .int pos t2]) Q E s := by
  revert X; k_fill; intro X
  refine wpAny_call ?_
  k_dflt cell_enter
  rename_i g' L' h' FG' F' N' B' X' T'
  obtain ⟨m1, F1, e1, e2, e3⟩ : ∃ m1, Fr g' L' h' m1 ∧ m1 "heap" = some (.ref l) ∧ m1 "startpos" = some (.int start t1) ∧ m1 "pos" = some (.int pos t2) := ⟨_, F', rfl, rfl, rfl⟩
  clear F'
  walk_at "go"
  refine get_at pos N' rfl hp (by omega) ?_
  walk_at "go"
  rename_i h1 F2 N2
  refine whl_at (I := fun k s' => ∃ h tk mm us, ∃ q : Nat, ∃ t, s' = { s with heap := h, toks := tk } ∧ Fr g' L' h mm ∧ News g' L' h ((l, listOf us.toArray n) :: rest) ∧ mm "heap" = some (.ref l) ∧ mm "startpos" = some (.int start t1) ∧ mm "pos" = some (.int q t) ∧ mm "newitem" = some (vs.getD pos .none) ∧ k = q ∧
     us.length = vs.length ∧ q < vs.length ∧ ((us.set q (vs.getD pos .none)).map κ).Nodup ∧ (∀ v ∈ us, T2s rest v (κ v)) ∧ T2s rest (vs.getD pos .none) (κ (vs.getD pos .none)) ∧ sdn κ us (vs.getD pos .none) start q = sdn κ vs (vs.getD pos .none) start pos) ?hE (n := pos) ?init ?turn
  case hE => with_unfolding_all passes_own
  case init => exact ⟨_, _, _, vs, pos, t2, rfl, F2, N2, by walk_at "loc", by walk_at "loc", by walk_at "loc", by walk_at "loc", rfl, rfl, hp, by rw [set_self]; exact hnd, hκ, hκ _ (getD_mem' hp), rfl⟩
  case turn =>
    rintro k s' ⟨h, tk, mm, us, q, t, rfl, F3, N3, f1, f2, f3, f4, rfl, hl, hq, hn, hu2, hx, hs⟩
    walk_at "go"
    by_cases hlt : start < k
    · refine WhlIf.yes (by simp; omega) ?_
      walk_at "go"
      have e1 : ((k : Int) - 1).fdiv (2 ^ (Int.toNat 1)) = ((k - 1) / 2 : Nat) := by
        rw [Int.fdiv_eq_ediv_of_nonneg _ (by decide)]
        simp; omega
      refine get_at ((k - 1) / 2) (by assumption) e1 (by omega) (by omega) ?_
      walk_at "go"
      have hne := hole_ne hn (by omega) (j := (k - 1) / 2) (by omega) (by omega)
      refine lt_T2c (T2s.at (by assumption) hx.tail) (T2s.at (by assumption) (hu2 _ (getD_mem' (by omega))).tail) hne (by ktr_units) ?_
      cases hc : klt (κ (vs.getD pos .none)) (κ (us.getD ((k - 1) / 2) .none)) with
      | false =>
        walk_at "go"
        refine set_at k (by assumption) (by assumption) hr rfl (by omega) (by omega) ?_
        intro h4 F4 N4
        walk_at "go"
        rw [← hs, sdn_stay hc] at ret
        exact ret _ _ (by assumption) (by assumption)
      | true =>
        walk_at "go"
        refine set_at k (by assumption) (by assumption) hr rfl (by omega) (by omega) ?_
        intro h4 F4 N4
        walk_at "go"
        refine ⟨(k - 1) / 2, by omega, _, _, _, us.set k (us.getD ((k - 1) / 2) .none), (k - 1) / 2, _, rfl, by assumption, by assumption, by walk_at "loc", by walk_at "loc", by rw [← e1]; walk_at "loc", by walk_at "loc", rfl, ?_, ?_, ?_, ?_, hx, ?_⟩
        · rw [List.length_set]; exact hl
        · omega
        · exact hole_step hn (by omega) (by omega) (by omega)
        · exact set_mem hu2 (hu2 _ (getD_mem' (by omega)))
        · rw [← hs]; exact (sdn_up hlt hc).symm
    · refine WhlIf.no (by simp; omega) ?_
      walk_at "go"
      refine set_at k (by assumption) (by assumption) hr rfl (by omega) (by omega) ?_
      intro h4 F4 N4
      walk_at "go"
      rw [← hs, sdn_end hlt] at ret
      exact ret _ _ (by assumption) (by assumption)
end
end

section
section
variable {w : World} {p : Program} {loose : List Str} {mean : ExcName → Option Value} {mg mb : Str → Option Value} {dp un : Nat} {gd : Option (List Code)} {cn : Str} {cs : Scope} {a : Addr} {ccd : Value} {cl : List (Str × Addr)} {outer : List Env} {A₀ : Around} {base h₀ : Heap} {L : Addr} {m : Str → Option Value} {s : Shared} {Q E : Value → Shared → Prop}
theorem siftup (κ : Value → Int × Int) {l : Addr} {vs : List Value} {n : Nat} {rest : List (Addr × Obj)} (pos : Nat) {t2 : Tok}
    (B : Below A₀ base outer h₀) (F : Fr h₀ L s.heap m) (X : (hd.heap_39 w.params).In h₀) (N : News h₀ L s.heap ((l, listOf vs.toArray n) :: rest)) (hr : ∀ p ∈ rest, p.1 ≠ l) (T : Top p loose mean mg mb h₀) (hk : cs.kind = .function)
    (hd : dp + 2 < recursionLimit) (hu : un + 16 < cLine)
    (hp : pos < vs.length) (hz : vs.length < 1000) (hκ : ∀ v ∈ vs, T2s rest v (κ v)) (hnd : (vs.map κ).Nodup)
    (ret : ∀ h' tk', Fr h₀ L h' m → News h₀ L h' ((l, listOf (siftupL κ vs pos).toArray n) :: rest) → Q .none { s with heap := h', toks := tk' }) :
    wpAny (model PySem.Challenge.rw_dm5007_01.row.prog w) (ktrTop dp un gd cn cs L a ccd cl outer) (call (.ref 56) [.ref l, .int pos t2]) Q E s := by
  revert X; k_fill; intro X
  refine wpAny_call ?_
  k_dflt cell_enter
  rename_i g' L' h' FG' F' N' B' X' T'
  obtain ⟨m1, F1, e1, e2⟩ : ∃ m1, Fr g' L' h' m1 ∧ m1 "heap" = some (.ref l) ∧ m1 "pos" = some (.int pos t2) := ⟨_, F', rfl, rfl⟩
  clear F'
  walk_at "go"
  refine len_at (by assumption) (by omega) ?_
  intro t3 tk3
  walk_at "go"
  refine get_at pos (by assumption) rfl hp (by omega) ?_
  walk_at "go"
  rename_i F2 N2
  refine whl_at (I := fun k s' => ∃ h tk mm us, ∃ q : Nat, ∃ ta tb tc td, s' = { s with heap := h, toks := tk } ∧ Fr g' L' h mm ∧ News g' L' h ((l, listOf us.toArray n) :: rest) ∧ mm "heap" = some (.ref l) ∧ mm "startpos" = some (.int pos ta) ∧ mm "pos" = some (.int q tb) ∧ mm "childpos" = some (.int (2 * (q : Int) + 1) tc) ∧ mm "endpos" = some (.int us.length td) ∧ mm "newitem" = some (vs.getD pos .none) ∧ k = us.length - q ∧
     us.length = vs.length ∧ q < vs.length ∧ ((us.set q (vs.getD pos .none)).map κ).Nodup ∧ (∀ v ∈ us, T2s rest v (κ v)) ∧ sup κ us q = sup κ vs pos) ?hE (n := vs.length - pos) ?init ?turn
  case hE => with_unfolding_all passes_own
  case init => exact ⟨_, _, _, vs, pos, _, _, _, _, rfl, by assumption, by assumption, by walk_at "loc", by walk_at "loc", by walk_at "loc", by walk_at "loc", by walk_at "loc", by walk_at "loc", rfl, rfl, hp, by rw [set_self]; exact hnd, hκ, rfl⟩
  case turn =>
    rintro k s' ⟨h, tk, mm, us, q, ta, tb, tc, td, rfl, F3, N3, f1, f2, f3, f4, f5, f6, rfl, hl, hq, hn, hu2, hs⟩
    walk_at "go"
    by_cases hlt : 2 * q + 1 < us.length
    · refine WhlIf.yes (by simp; omega) ?_
      have hx2 : ∀ (h' : Heap) (j : Nat), News g' L' h' ((l, listOf us.toArray n) :: rest) → j < us.length → T2 h' (us.getD j .none) (κ (us.getD j .none)) := fun h' j N' hj => T2s.at N' (hu2 _ (getD_mem' hj)).tail
      by_cases hr2 : 2 * q + 2 < us.length
      case' pos =>
        have hne : κ (us.getD (2 * q + 1) .none) ≠ κ (us.getD (2 * q + 2) .none) := by
          have h1 := nodup_ne (i := 2 * q + 1) (j := 2 * q + 2) (by simp; omega) (by simp; omega) hn (by omega)
          simp only [List.getElem_map] at h1
          rw [List.getElem_set_ne (by omega), List.getElem_set_ne (by omega)] at h1
          rw [getD_lt hlt, getD_lt hr2]
          exact h1
        walk_at "go"
        refine get_at (2 * q + 1) (by assumption) (by omega) (by omega) (by omega) ?_
        walk_at "go"
        refine get_at (2 * q + 2) (by assumption) (by omega) (by omega) (by omega) ?_
        walk_at "go"
        refine lt_T2c (hx2 _ _ (by assumption) (by omega)) (hx2 _ _ (by assumption) (by omega)) hne (by ktr_units) ?_
        cases hc : klt (κ (us.getD (2 * q + 1) .none)) (κ (us.getD (2 * q + 2) .none))
        case' false =>
          have hk : kid κ us q = 2 * q + 2 := by unfold kid; rw [if_pos ⟨hr2, hc⟩]
          have hki : ((2 : Int) * q + 1 + 1) = (kid κ us q : Nat) := by rw [hk]; omega
          walk_at "go"
        case' true =>
          have hk : kid κ us q = 2 * q + 1 := by unfold kid; rw [if_neg (by rw [hc]; simp)]
          have hki : ((2 : Int) * q + 1) = (kid κ us q : Nat) := by rw [hk]; omega
          walk_at "go"
      case' neg =>
        have hk : kid κ us q = 2 * q + 1 := by unfold kid; rw [if_neg (by omega)]
        have hki : ((2 : Int) * q + 1) = (kid κ us q : Nat) := by rw [hk]; omega
        walk_at "go"
      all_goals
        have hk2 := kid_lt (κ := κ) hlt
        have hk3 := kid_gt (κ := κ) (us := us) (pos := q)
        refine get_at (kid κ us q) (by assumption) (by omega) (by omega) (by omega) ?_
        walk_at "go"
        refine set_at q (by assumption) (by assumption) hr rfl (by omega) (by omega) ?_
        intro h4 F4 N4
        walk_at "go"
        refine ⟨us.length - kid κ us q, by omega, _, _, _, us.set q (us.getD (kid κ us q) .none), kid κ us q, _, _, _, _, rfl, by assumption, by assumption, by walk_at "loc", by walk_at "loc", by rw [← hki]; walk_at "loc", by rw [← hki]; walk_at "loc", by rw [List.length_set]; walk_at "loc", by walk_at "loc", by rw [List.length_set], by rw [List.length_set]; exact hl, by omega, hole_step hn (by omega) (by omega) (by omega), set_mem hu2 (hu2 _ (getD_mem' (by omega))), ?_⟩
        rw [← hs]
        exact (sup_down hlt).symm
    · refine WhlIf.no (by simp; omega) ?_
      walk_at "go"
      refine set_at q (by assumption) (by assumption) hr rfl (by omega) (by omega) ?_
      intro h4 F4 N4
      walk_at "go"
      have hs' := sup_end (κ := κ) hlt
      have hm : ∀ v ∈ us.set q (vs.getD pos .none), T2s rest v (κ v) := set_mem hu2 (hκ _ (getD_mem' hp))
      have hg : (us.set q (vs.getD pos .none)).getD q .none = vs.getD pos .none := by rw [getD_lt (by rw [List.length_set]; omega)]; exact List.getElem_set_self _
      refine siftdown κ pos q (by assumption) (by assumption) (by assumption) (by assumption) hr (by assumption) rfl (by ktr_room) (by ktr_units) (by rw [List.length_set]; omega) (by rw [List.length_set]; omega) hm hn ?_
      intro h5 tk5 F5 N5
      rw [hg] at N5
      walk_at "go"
      refine ret _ _ (by assumption) ?_
      unfold siftupL
      rw [← hs, hs']
      assumption
end
end

section
theorem pop_nodup {κ : Value → Int × Int} {vs : List Value} (hp : 1 < vs.length) (hnd : (vs.map κ).Nodup) : ((vs.dropLast.set 0 (vs.getD (vs.length - 1) .none)).map κ).Nodup := by
  cases vs with
  | nil => simp at hp
  | cons a r =>
    have hr : 0 < r.length := by simp at hp; omega
    obtain ⟨q, z, rfl⟩ : ∃ q z, r = q ++ [z] := ⟨r.dropLast, r.getLast (by intro e; simp [e] at hr), (List.dropLast_concat_getLast _).symm⟩
    have e1 : (a :: (q ++ [z])).getD ((a :: (q ++ [z])).length - 1) .none = z := by simp
    have e2 : (a :: (q ++ [z])).dropLast = a :: q := by
      rw [← List.cons_append, List.dropLast_concat]
    rw [e1, e2]
    simp only [List.set_cons_zero]
    have h : ((q ++ [z]).map κ).Nodup := by
      rw [List.map_cons] at hnd
      exact (List.nodup_cons.mp hnd).2
    have hp : ((q ++ [z]).map κ).Perm ((z :: q).map κ) := List.Perm.map κ (List.perm_append_comm.trans (by simp))
    exact hp.nodup_iff.mp h

section
variable {w : World} {p : Program} {loose : List Str} {mean : ExcName → Option Value} {mg mb : Str → Option Value} {dp un : Nat} {gd : Option (List Code)} {cn : Str} {cs : Scope} {a : Addr} {ccd : Value} {cl : List (Str × Addr)} {outer : List Env} {A₀ : Around} {base h₀ : Heap} {L : Addr} {m : Str → Option Value} {s : Shared} {Q E : Value → Shared → Prop}
theorem heapreplace (κ : Value → Int × Int) {l : Addr} {vs : List Value} {n : Nat} {rest : List (Addr × Obj)} {v : Value}
    (B : Below A₀ base outer h₀) (F : Fr h₀ L s.heap m) (X : (hd.heap_39 w.params).In h₀) (N : News h₀ L s.heap ((l, listOf vs.toArray n) :: rest)) (hr : ∀ p ∈ rest, p.1 ≠ l) (T : Top p loose mean mg mb h₀) (hk : cs.kind = .function)
    (hd : dp + 3 < recursionLimit) (hu : un + 24 < cLine)
    (hp : 0 < vs.length) (hz : vs.length < 1000) (hκ : ∀ u ∈ vs, T2s rest u (κ u)) (hv : T2s rest v (κ v)) (hnd : ((vs.set 0 v).map κ).Nodup)
    (ret : ∀ h' tk', Fr h₀ L h' m → News h₀ L h' ((l, listOf (siftupL κ (vs.set 0 v) 0).toArray n) :: rest) → Q (vs.getD 0 .none) { s with heap := h', toks := tk' }) :
    wpAny (model PySem.Challenge.rw_dm5007_01.row.prog w) (ktrTop dp un gd cn cs L a ccd cl outer) (call (.ref 35) [.ref l, v]) Q E s := by
  revert X; k_fill; intro X
  refine wpAny_call ?_
  k_dflt cell_enter
  rename_i g' L' h' FG' F' N' B' X' T'
  obtain ⟨m1, F1, e1, e2⟩ : ∃ m1, Fr g' L' h' m1 ∧ m1 "heap" = some (.ref l) ∧ m1 "item" = some v := ⟨_, F', rfl, rfl⟩
  clear F'
  walk_at "go"
  refine get_at 0 (by assumption) rfl hp (by omega) ?_
  walk_at "go"
  refine set_at 0 (by assumption) (by assumption) hr rfl (by omega) (by omega) ?_
  intro h4 F4 N4
  walk_at "go"
  refine siftup κ 0 (by assumption) (by assumption) (by assumption) (by assumption) hr (by assumption) rfl (by ktr_room) (by ktr_units) (by rw [List.length_set]; omega) (by rw [List.length_set]; omega) (set_mem hκ hv) hnd ?_
  intro h5 tk5 F5 N5
  walk_at "go"
  exact ret _ _ (by assumption) (by assumption)

theorem heappush (κ : Value → Int × Int) {l : Addr} {vs : List Value} {n : Nat} {rest : List (Addr × Obj)} {v : Value}
    (B : Below A₀ base outer h₀) (F : Fr h₀ L s.heap m) (X : (hd.heap_39 w.params).In h₀) (N : News h₀ L s.heap ((l, listOf vs.toArray n) :: rest)) (hr : ∀ p ∈ rest, p.1 ≠ l) (T : Top p loose mean mg mb h₀) (hk : cs.kind = .function)
    (hd : dp + 3 < recursionLimit) (hu : un + 24 < cLine)
    (hz : vs.length < 900) (hκ : ∀ u ∈ vs, T2s rest u (κ u)) (hv : T2s rest v (κ v)) (hnd : ((vs ++ [v]).map κ).Nodup)
    (ret : ∀ h' tk', Fr h₀ L h' m → News h₀ L h' ((l, listOf (sdn κ (vs ++ [v]) v 0 vs.length).toArray (n + 1)) :: rest) → Q .none { s with heap := h', toks := tk' }) :
    wpAny (model PySem.Challenge.rw_dm5007_01.row.prog w) (ktrTop dp un gd cn cs L a ccd cl outer) (call (.ref 21) [.ref l, v]) Q E s := by
  revert X; k_fill; intro X
  refine wpAny_call ?_
  k_dflt cell_enter
  rename_i g' L' h' FG' F' N' B' X' T'
  obtain ⟨m1, F1, e1, e2⟩ : ∃ m1, Fr g' L' h' m1 ∧ m1 "heap" = some (.ref l) ∧ m1 "item" = some v := ⟨_, F', rfl, rfl⟩
  clear F'
  walk_at "go"
  refine getm_append (by assumption) (.head _) ?_
  walk_at "go"
  refine append_hd (by assumption) (by assumption) hr (by omega) ?_
  intro h4 F4 N4
  walk_at "go"
  refine len_at (by assumption) (by rw [List.length_append]; simp; omega) ?_
  intro t5 tk5
  walk_at "go"
  have e3 : (((vs ++ [v]).length : Nat) : Int) - 1 = (vs.length : Nat) := by rw [List.length_append]; simp
  have e4 : (vs ++ [v]).getD vs.length .none = v := by simp
  rw [e3]
  refine siftdown κ 0 vs.length (by assumption) (by assumption) (by assumption) (by assumption) hr (by assumption) rfl (by ktr_room) (by ktr_units) (by rw [List.length_append]; simp) (by rw [List.length_append]; simp; omega) (fun u hu => (List.mem_append.mp hu).elim (hκ u) fun e => by rw [List.mem_singleton.mp e]; exact hv) hnd ?_
  intro h6 tk6 F6 N6
  rw [e4] at N6
  walk_at "go"
  exact ret _ _ (by assumption) (by assumption)

theorem heappop (κ : Value → Int × Int) {l : Addr} {vs : List Value} {n : Nat} {rest : List (Addr × Obj)}
    (B : Below A₀ base outer h₀) (F : Fr h₀ L s.heap m) (X : (hd.heap_39 w.params).In h₀) (N : News h₀ L s.heap ((l, listOf vs.toArray n) :: rest)) (hr : ∀ p ∈ rest, p.1 ≠ l) (T : Top p loose mean mg mb h₀) (hk : cs.kind = .function)
    (hd : dp + 3 < recursionLimit) (hu : un + 24 < cLine)
    (hp : 1 < vs.length) (hz : vs.length < 900) (hκ : ∀ u ∈ vs, T2s rest u (κ u)) (hnd : (vs.map κ).Nodup)
    (ret : ∀ h' tk', Fr h₀ L h' m → News h₀ L h' ((l, listOf (siftupL κ (vs.dropLast.set 0 (vs.getD (vs.length - 1) .none)) 0).toArray (n + 1)) :: rest) → Q (vs.getD 0 .none) { s with heap := h', toks := tk' }) :
    wpAny (model PySem.Challenge.rw_dm5007_01.row.prog w) (ktrTop dp un gd cn cs L a ccd cl outer) (call (.ref 28) [.ref l]) Q E s := by
  revert X; k_fill; intro X
  refine wpAny_call ?_
  k_dflt cell_enter
  rename_i g' L' h' FG' F' N' B' X' T'
  obtain ⟨m1, F1, e1⟩ : ∃ m1, Fr g' L' h' m1 ∧ m1 "heap" = some (.ref l) := ⟨_, F', rfl⟩
  clear F'
  walk_at "go"
  refine getm_pop (by assumption) (.head _) ?_
  walk_at "go"
  refine pop_hd (by assumption) (by assumption) hr (by omega) (by omega) ?_
  intro h4 F4 N4
  walk_at "go"
  refine truthy_at (by assumption) (by rw [List.length_dropLast]; omega) ?_
  intro tk5
  have e3 : (!vs.dropLast.isEmpty) = true := by
    cases hc : vs.dropLast with
    | nil => have := congrArg List.length hc; rw [List.length_dropLast] at this; simp at this; omega
    | cons _ _ => rfl
  rw [e3]
  walk_at "go"
  refine get_at 0 (by assumption) rfl (by rw [List.length_dropLast]; omega) (by rw [List.length_dropLast]; omega) ?_
  walk_at "go"
  refine set_at 0 (by assumption) (by assumption) hr rfl (by rw [List.length_dropLast]; omega) (by rw [List.length_dropLast]; omega) ?_
  intro h6 F6 N6
  walk_at "go"
  have hm : ∀ u ∈ vs.dropLast.set 0 (vs.getD (vs.length - 1) .none), T2s rest u (κ u) := set_mem (fun u hu => hκ u (List.dropLast_subset _ hu)) (hκ _ (getD_mem' (by omega)))
  refine siftup κ 0 (by assumption) (by assumption) (by assumption) (by assumption) hr (by assumption) rfl (by ktr_room) (by ktr_units) (by rw [List.length_set, List.length_dropLast]; omega) (by rw [List.length_set, List.length_dropLast]; omega) hm ?_ ?_
  · exact pop_nodup hp hnd
  intro h7 tk7 F7 N7
  walk_at "go"
  have e5 : vs.dropLast.getD 0 .none = vs.getD 0 .none := by
    rw [getD_lt (by rw [List.length_dropLast]; omega), getD_lt (by omega), List.getElem_dropLast]
  rw [e5]
  exact ret _ _ (by assumption) (by assumption)
end
end

section
section
variable {w : World} {p : Program} {loose : List Str} {mean : ExcName → Option Value} {mg mb : Str → Option Value} {dp un : Nat} {gd : Option (List Code)} {cn : Str} {cs : Scope} {a : Addr} {ccd : Value} {cl : List (Str × Addr)} {outer : List Env} {A₀ : Around} {base h₀ : Heap} {L : Addr} {m : Str → Option Value} {s : Shared} {Q E : Value → Shared → Prop}
theorem heapify (κ : Value → Int × Int) {l : Addr} {vs : List Value} {n : Nat} {rest : List (Addr × Obj)}
    (B : Below A₀ base outer h₀) (F : Fr h₀ L s.heap m) (X : (hd.heap_39 w.params).In h₀) (N : News h₀ L s.heap ((l, listOf vs.toArray n) :: rest)) (hr : ∀ p ∈ rest, p.1 ≠ l) (T : Top p loose mean mg mb h₀) (hk : cs.kind = .function)
    (hd : dp + 3 < recursionLimit) (hu : un + 24 < cLine)
    (hz : vs.length < 900) (hκ : ∀ u ∈ vs, T2s rest u (κ u)) (hnd : (vs.map κ).Nodup)
    (ret : ∀ h' tk', Fr h₀ L h' m → News h₀ L h' ((l, listOf (hfy κ vs (vs.length / 2)).toArray n) :: rest) → Q .none { s with heap := h', toks := tk' }) :
    wpAny (model PySem.Challenge.rw_dm5007_01.row.prog w) (ktrTop dp un gd cn cs L a ccd cl outer) (call (.ref 42) [.ref l]) Q E s := by
  revert X; k_fill; intro X
  refine wpAny_call ?_
  k_dflt cell_enter
  rename_i g' L' h' FG' F' N' B' X' T'
  obtain ⟨m1, F1, e1⟩ : ∃ m1, Fr g' L' h' m1 ∧ m1 "x" = some (.ref l) := ⟨_, F', rfl⟩
  clear F'
  walk_at "go"
  refine len_at (by assumption) (by omega) ?_
  intro t3 tk3
  walk_at "go"
  refine for_start ?_
  walk_at "go"
  refine range1 (by assumption) (by assumption) ?_
  intro r h3 tk4 t4 t5 F3 N3 lr
  walk_at "go"
  refine reversed_range (by assumption) N3 (.head _) (n := vs.length / 2) (by rw [Int.fdiv_eq_ediv_of_nonneg _ (by decide)]; omega) (by omega) ?_
  intro I h4 F4 N4 lI
  walk_at "go"
  refine iter_rangeIt N4 (.head _) ?_
  have hI : I ≠ l := fun e => Nat.lt_irrefl _ (e ▸ lI (l, listOf vs.toArray n) (.tail _ (.head _)))
  have hIr : ∀ p ∈ rest, p.1 ≠ I := fun p hp e => Nat.lt_irrefl _ (e ▸ lI p (.tail _ (.tail _ hp)))
  refine for_ind (I := fun k s' => ∃ h tk mm us, s' = { s with heap := h, toks := tk } ∧ Fr g' L' h mm ∧ News g' L' h ((I, rangeIt ((k : Int) - 1) k (-1)) :: (l, listOf us.toArray n) :: rest) ∧ mm "x" = some (.ref l) ∧ k ≤ us.length ∧ us.Perm vs ∧ hfy κ us k = hfy κ vs (vs.length / 2)) ?hE (n := vs.length / 2) ?init ?turn
  case hE => with_unfolding_all passes_own
  case init => exact ⟨_, _, _, vs, rfl, by assumption, News.sub N4 (by simp +contextual), by walk_at "loc", by omega, List.Perm.refl _, rfl⟩
  case turn =>
    rintro k s' ⟨h, tk, mm, us, rfl, F5, N5, f1, hk, hp, hs⟩
    have hlen := hp.length_eq
    cases k with
    | zero =>
      refine next_range_end rfl F5 N5 (fun p hp => (List.mem_cons.mp hp).elim (fun e => by rw [e]; exact hI.symm) (hIr p)) (by omega) ?_
      intro h6 F6 N6
      walk_at "go"
      refine ret _ _ (by assumption) ?_
      rw [← hs]
      assumption
    | succ k =>
      refine next_range F5 N5 (fun p hp => (List.mem_cons.mp hp).elim (fun e => by rw [e]; exact hI.symm) (hIr p)) (by omega) ?_
      intro t6 h6 tk6 F6 N6
      have e6 : (((k + 1 : Nat) : Int) - 1) = (k : Nat) := by omega
      rw [e6] at N6
      rw [e6]
      walk_at "go"
      refine siftup κ k (by assumption) (by assumption) (by assumption) (News.swap (by assumption)) (fun p hp => (List.mem_cons.mp hp).elim (fun e => by rw [e]; exact hI) (hr p)) (by assumption) rfl (by ktr_room) (by ktr_units) (by omega) (by omega) (fun u hu => (perm_keys hp hκ u hu).tail) (perm_nodup hp hnd) ?_
      intro h8 tk8 F8 N8
      walk_at "go"
      refine ⟨k, by omega, _, _, _, siftupL κ us k, rfl, by assumption, News.swap (by assumption), by walk_at "loc", by rw [siftupL_length (by omega)]; omega, (siftupL_perm (by omega)).trans hp, hs⟩
end
end

section
section
variable {w : World} {p : Program} {loose : List Str} {mean : ExcName → Option Value} {mg mb : Str → Option Value} {dp un : Nat} {gd : Option (List Code)} {cn : Str} {cs : Scope} {a : Addr} {ccd : Value} {cl : List (Str × Addr)} {outer : List Env} {A₀ : Around} {base h₀ : Heap} {L : Addr} {m : Str → Option Value} {s : Shared} {Q E : Value → Shared → Prop}
theorem timeOf {a' : Addr} {x y : Value} {n : Nat} {news : List (Addr × Obj)}
    (B : Below A₀ base outer h₀) (F : Fr h₀ L s.heap m) (X : (hd.heap_39 w.params).In h₀) (N : News h₀ L s.heap news) (T : Top p loose mean mg mb h₀) (hk : cs.kind = .function)
    (hd : dp + 1 < recursionLimit) (hu : un + 8 < cLine) (hm : (a', listOf [x, y].toArray n) ∈ news)
    (ret : ∀ (tk' : Nat) (h' : Heap), Fr h₀ L h' m → News h₀ L h' news → Q x { s with heap := h', toks := tk' }) :
    wpAny (model PySem.Challenge.rw_dm5007_01.row.prog w) (ktrTop dp un gd cn cs L a ccd cl outer) (call (.ref 70) [.ref a']) Q E s := by
  revert X; k_fill; intro X
  refine wpAny_call ?_
  k_dflt cell_enter
  rename_i g' L' h' FG' F' N' B' X' T'
  obtain ⟨m1, F1, e1⟩ : ∃ m1, Fr g' L' h' m1 ∧ m1 "row" = some (.ref a') := ⟨_, F', rfl⟩
  clear F'
  walk_at "go"
  refine lst2_0 N' hm ?_
  walk_at "go"
  exact ret _ _ (by assumption) (by assumption)
end
end

section
section
variable {w : World} {p : Program} {loose : List Str} {mean : ExcName → Option Value} {mg mb : Str → Option Value} {dp un : Nat} {gd : Option (List Code)} {cn : Str} {cs : Scope} {a : Addr} {ccd : Value} {cl : List (Str × Addr)} {outer : List Env} {A₀ : Around} {base h₀ : Heap} {L : Addr} {m : Str → Option Value} {s : Shared} {Q E : Value → Shared → Prop}
theorem replacing (hands : Nat) {l : Addr} {vs : List Value} {ts : List Int} {n : Nat} {rest : List (Addr × Obj)} {u : Tok}
    (B : Below A₀ base outer h₀) (F : Fr h₀ L s.heap m) (X : (hd.heap_39 w.params).In h₀) (N : News h₀ L s.heap ((l, listOf vs.toArray n) :: rest)) (hr : ∀ p ∈ rest, p.1 ≠ l) (T : Top p loose mean mg mb h₀) (hk : cs.kind = .function)
    (hd : dp + 5 < recursionLimit) (hu : un + 40 < cLine)
    (hz : vs.length < 900) (hI : IntsAre vs ts) (hh : 2 ≤ hands) (hh' : hands ≤ 3)
    (ret : ∀ (D : Addr) (us : List Value) (c tk' : Nat) (h' : Heap) (nn : List (Addr × Obj)) (τ : Value → Tri), Fr h₀ L h' m → News h₀ L h' ((D, listOf us.toArray c) :: nn) → (∀ p ∈ (l, listOf vs.toArray n) :: rest, p ∈ nn) → (∀ p ∈ nn, p.1 ≠ D) → us.length = hands → (∀ u ∈ us, T3s nn u (τ u)) →
      Run ts (start hands) (us.map τ) → Q (.ref D) { s with heap := h', toks := tk' }) :
    wpAny (model PySem.Challenge.rw_dm5007_01.row.prog w) (ktrTop dp un gd cn cs L a ccd cl outer) (call (.ref 89) [.ref l, .int hands u]) Q E s := by
  revert X; k_fill; intro X
  refine wpAny_call ?_
  k_dflt cell_enter
  rename_i g' L' h' FG' F' N' B' X' T'
  obtain ⟨m1, F1, e1, e2⟩ : ∃ m1, Fr g' L' h' m1 ∧ m1 "times" = some (.ref l) ∧ m1 "hands" = some (.int hands u) := ⟨_, F', rfl, rfl⟩
  clear F'
  walk_at "go"
  refine' listcomp_assign (cl := []) ?c1 ?c2 ?c3 ?c4 ?c5 ?_ ?c7
  case c1 => rfl
  case c2 => rfl
  case c3 => decide
  case c4 => rfl
  case c5 => decide
  case c7 => (intro x; with_unfolding_all rfl)
  walk_at "go"
  have hsm : Builtin.Range.small 0 hands 1 = true := by
    obtain rfl | rfl : hands = 2 ∨ hands = 3 := by omega
    · decide
    · decide
  refine range1 (by assumption) (by assumption) ?_
  intro r h3 tk4 t4 t5 F3 N3 lr
  walk_at "go"
  refine iter_range F3 N3 (.head _) hsm ?_
  intro I h4 F4 N4 lI
  rw [rangeSize0] at N4
  have hIr : ∀ p ∈ (l, listOf vs.toArray n) :: rest, p.1 ≠ I := fun p hp => Nat.ne_of_lt (lI p (.tail _ hp))
  refine ⟨g', _, _, fun k acc nw => k ≤ hands ∧ ∃ nn, nw = (I, rangeIt ((hands:Int) - k) k 1) :: nn ∧ (∀ p ∈ (l, listOf vs.toArray n) :: rest, p ∈ nn) ∧ (∀ p ∈ nn, p.1 ≠ I) ∧ acc.length = hands - k ∧ ∀ i < hands - k, T3s nn (acc.getD i .none) (0, i, 0),
    fun acc nw => (∀ p ∈ (l, listOf vs.toArray n) :: rest, p ∈ nw) ∧ acc.length = hands ∧ ∀ i < hands, T3s nw (acc.getD i .none) (0, i, 0), hands, F4, News.sub (news' := (I, rangeIt 0 hands 1) :: (l, listOf vs.toArray n) :: rest) N4 (by simp +contextual), ?kJ, ?kS, ?kT, ?kF⟩
  case kJ => exact ⟨Nat.le_refl _, _, by rw [Int.sub_self], fun _ h => h, hIr, by simp, fun i hi => absurd hi (by omega)⟩
  case kS => exact fun s' Q' E' N h => iter_rangeIt N (.head _) h
  case kT =>
    rintro D C hDC hlt k acc nw n mC s' ⟨hk, nn, rfl, hsub, hnI, hlen, hτ⟩ ⟨h5, tk5, oC, rfl, F5, N5, hO5, hoff, hne⟩
    change News g' L' h5 ((D, listOf acc.toArray n) :: (C, oC) :: (I, rangeIt ((hands:Int) - k) k 1) :: nn) at N5
    change Off _ D C at hoff
    change D ≠ C at hne
    have N5' := News.sub (news' := (I, rangeIt ((hands:Int) - k) k 1) :: (D, listOf acc.toArray n) :: (C, oC) :: nn) N5 (by simp +contextual)
    have hI5 : ∀ p ∈ (D, listOf acc.toArray n) :: (C, oC) :: nn, p.1 ≠ I := fun p hp => by
      have h0 := hoff _ (.head _)
      rcases List.mem_cons.mp hp with rfl | hp
      · exact Ne.symm h0.1
      · rcases List.mem_cons.mp hp with rfl | hp
        · exact Ne.symm h0.2
        · exact hnI p hp
    have hoff' : ∀ x, ∀ p ∈ (I, x) :: nn, p.1 ≠ D ∧ p.1 ≠ C := fun x p hp => by
      rcases List.mem_cons.mp hp with rfl | hp
      · exact (show I ≠ D ∧ I ≠ C from hoff (I, rangeIt ((hands:Int) - k) k 1) (.head _))
      · exact hoff p (.tail _ hp)
    cases k with
    | zero =>
      refine next_range_end rfl F5 N5' hI5 (by omega) ?_
      intro h6 F6 N6
      exact ⟨nn, mC, ⟨h6, _, oC, rfl, F6, N6, hO5, fun p hp => hoff p (.tail _ hp), hne⟩, hsub, by omega, fun i hi => hτ i (by omega)⟩
    | succ k =>
      refine next_range F5 N5' hI5 (by omega) ?_
      intro t6 h6 tk6 F6 N6
      refine wpAny_of_eq (a := ()) (by rfl) ?_
      dsimp only
      have e6 : ((hands:Int) - ((k + 1 : Nat) : Int)) + 1 = (hands:Int) - (k : Nat) := by omega
      have e7 : (((k + 1 : Nat) : Int)) - 1 = (k : Nat) := by omega
      rw [e6, e7] at N6
      refine comp_store (x := (D, listOf acc.toArray n)) (news := (I, rangeIt ((hands:Int) - k) k 1) :: nn) F6 (News.sub N6 (by simp +contextual)) hO5 hne (fun p hp => (hoff' _ p hp).2) rfl rfl ?_
      intro h7 tk7 oC7 F7 N7 hO7
      walk_at "go"
      rename_i D8 h8 F8 N8 l8
      obtain ⟨l81, l82, l83, l84⟩ := l8
      have e8 : ((hands:Int) - ((k + 1 : Nat) : Int)) = ((hands - (k + 1) : Nat) : Int) := by omega
      rw [e8] at N8
      refine ⟨k, (I, rangeIt ((hands:Int) - k) k 1) :: (D8, _) :: nn, _, by omega, ⟨_, _, _, rfl, F8, News.sub N8 (by walk_at "led_sub"), hO7, ?_, hne⟩, by omega, by omega, (D8, _) :: nn, rfl, fun p hp => .tail _ (hsub p hp), ?_, ?_, ?_⟩
      · intro p hp
        rcases List.mem_cons.mp hp with rfl | hp
        · exact hoff' _ _ (.head _)
        · rcases List.mem_cons.mp hp with rfl | hp
          · exact ⟨Nat.ne_of_gt l81, Nat.ne_of_gt l82⟩
          · exact hoff p (.tail _ hp)
      · intro p hp
        rcases List.mem_cons.mp hp with rfl | hp
        · exact Nat.ne_of_gt l83
        · exact hnI p hp
      · rw [List.length_append, hlen]
        simp
        omega
      · intro i hi
        by_cases hc : i < hands - (k + 1)
        · have : (acc ++ [Value.ref D8]).getD i .none = acc.getD i .none := by
            rw [getD_lt (by rw [List.length_append]; omega), getD_lt (by omega), List.getElem_append_left]
          rw [this]
          exact (hτ i hc).tail
        · obtain rfl : i = hands - (k + 1) := by omega
          have : (acc ++ [Value.ref D8]).getD (hands - (k + 1)) .none = .ref D8 := by
            rw [← hlen]; simp
          rw [this]
          exact ⟨D8, _, _, _, _, rfl, .head _⟩
  case kF =>
    rintro hs nw n₂ mC D C s' ⟨h5, tk5, oC, rfl, F5, N5, hO5, hoff, hne⟩ ⟨hsub, hlen, hτ⟩
    walk1
    rename_i h6 F6 N6
    refine comp_end F6 N6 hO5 hoff hne ?_
    intro h7 F7 N7 hD
    dsimp only
    walk_at "go"
    refine list_copyK F7 N7 (N7.isList (.head _)) ?_ (by rw [List.size_toArray, sizeLine_eq]; omega)
    intro D2 c2 h8 F8 N8 l8
    have hτ3 : ∀ u ∈ hs, ∃ i : Nat, i < hands ∧ triH h8 u = (0, (i : Int), 0) ∧ T3s nw u (0, (i : Int), 0) := fun u hu => by
      obtain ⟨i, hi, rfl⟩ := List.getElem_of_mem hu
      have := hτ i (by omega)
      rw [getD_lt hi] at this
      exact ⟨i, by omega, triH_eq N8 (this.more fun p hp => .tail _ (.tail _ hp)), this⟩
    have hmap : hs.map (triH h8) = start hands := by
      apply List.ext_getElem
      · simp [start, hlen]
      · intro i h1 h2
        have hi : i < hs.length := by simpa using h1
        have := hτ i (by omega)
        rw [getD_lt hi] at this
        simp only [List.getElem_map, start, List.getElem_range]
        exact triH_eq N8 (this.more fun p hp => .tail _ (.tail _ hp))
    have hT3 : ∀ u ∈ hs, T3s nw u (triH h8 u) := fun u hu => by
      obtain ⟨i, _, e, t⟩ := hτ3 u hu
      rw [e]; exact t
    have hap : Apart2 (triH h8) hs := by
      unfold Apart2
      have e : (hs.map fun u => (triH h8 u).2.1) = (hs.map (triH h8)).map (·.2.1) := by rw [List.map_map]; rfl
      rw [e, hmap]
      unfold start
      rw [List.map_map]
      refine List.Pairwise.map _ (fun a b (hab : a ≠ b) e => hab ?_) List.nodup_range
      have e' : (a : Int) = (b : Int) := by simpa using e
      omega
    have hDD : D2 ≠ D := Nat.ne_of_gt (l8 _ (.head _))
    have hD2 : ∀ p ∈ nw, p.1 ≠ D2 := fun p hp => Nat.ne_of_lt (l8 p (.tail _ hp))
    walk_at "go"
    refine heapify (fun u => (triH h8 u).key) (by assumption) (by assumption) (by assumption) (News.swap (by assumption)) (fun p hp => (List.mem_cons.mp hp).elim (fun e => by rw [e]; exact hDD) (hD p)) (by assumption) rfl (by ktr_room) (by ktr_units) (by omega) (fun u hu => ((hT3 u hu).two).tail) hap.key ?_
    intro h9 tk9 F9 N9
    walk_at "go"
    refine for_start ?_
    walk_at "go"
    refine iter_list (l := l) (its := vs) (by assumption) N9 ?_ ?_
    · exact News.isList N9 (.tail _ (.tail _ (hsub _ (.head _))))
    intro I2 o2 h10 F10 N10 it10 lI2 _
    have hlen9 : (hfy (fun u => (triH h8 u).key) hs (hs.length / 2)).Perm hs := hfy_perm _ _ (by omega)
    have hheap9 : HeapFrom (fun u => (triH h8 u).key) (hfy (fun u => (triH h8 u).key) hs (hs.length / 2)) 0 := hfy_heap _ _ (by omega) heap_trivial
    generalize hfy (fun u => (triH h8 u).key) hs (hs.length / 2) = hs9 at *
    refine for_ind (I := fun k s' => ∃ h tk mm hs ps nn c1 c2 oI, ∃ τ : Value → Tri, s' = { s with heap := h, toks := tk } ∧ Fr g' L' h mm ∧ News g' L' h ((D, listOf hs.toArray c1) :: (D2, listOf ps.toArray c2) :: (I2, oI) :: nn) ∧ ListIt oI l (ts.length - k) ∧ k ≤ ts.length ∧
      (∀ p ∈ (l, listOf vs.toArray n) :: rest, p ∈ nn) ∧ (∀ p ∈ nn, p.1 ≠ D ∧ p.1 ≠ D2 ∧ p.1 ≠ I2) ∧ D ≠ D2 ∧ D ≠ I2 ∧ D2 ≠ I2 ∧ mm "times" = some (.ref l) ∧ mm "heap" = some (.ref D) ∧ mm "plain" = some (.ref D2) ∧
      hs.Perm ps ∧ HeapFrom (fun u => (τ u).key) hs 0 ∧ ps.length = hands ∧ (∀ u ∈ ps, T3s nn u (τ u)) ∧ Apart2 τ ps ∧ Run (ts.take (ts.length - k)) (start hands) (ps.map τ)) ?hE (n := ts.length) ?init ?turn
    case hE => with_unfolding_all passes_own
    case init =>
      refine ⟨_, _, _, hs9, hs, nw, _, _, o2, triH h8, rfl, F10, News.sub N10 (by walk_at "led_sub"), by rw [Nat.sub_self]; exact it10, Nat.le_refl _, hsub, ?_, hDD.symm, ?_, ?_, by walk_at "loc", by walk_at "loc", by walk_at "loc", hlen9, hheap9, hlen, hT3, hap, ?_⟩
      · exact fun p hp => ⟨hD p hp, hD2 p hp, Nat.ne_of_lt (lI2 p (.tail _ (.tail _ hp)))⟩
      · exact Nat.ne_of_lt (lI2 _ (.head _))
      · exact Nat.ne_of_lt (lI2 _ (.tail _ (.head _)))
      · rw [Nat.sub_self]
        exact hmap
    case turn =>
      rintro k s' ⟨h, tk, mm, hs, ps, nn, c1, c2, oI, τ, rfl, F11, N11, it11, hk, hsub11, hoff11, n1, n2, n3, f1, f2, f3, hp, hh0, hlen11, hT11, hap11, hrun⟩
      have hvl : vs.length = ts.length := hI.length
      have hls : h.IsList l vs.toArray := N11.isList (.tail _ (.tail _ (.tail _ (hsub11 _ (.head _)))))
      have N11' := News.sub (news' := (I2, oI) :: (D, listOf hs.toArray c1) :: (D2, listOf ps.toArray c2) :: nn) N11 (by walk_at "led_sub")
      have hI11 : ∀ p ∈ (D, listOf hs.toArray c1) :: (D2, listOf ps.toArray c2) :: nn, p.1 ≠ I2 := List.forall_mem_cons.mpr ⟨n2, List.forall_mem_cons.mpr ⟨n3, fun p hp => (hoff11 p hp).2.2⟩⟩
      cases k with
      | zero =>
        refine next_list_end rfl F11 N11' hI11 it11 hls (by omega) ?_
        intro h12 F12 N12
        walk_at "go"
        refine ret D2 ps c2 _ _ ((D, listOf hs.toArray c1) :: nn) τ (by assumption) (News.sub (by assumption) (by walk_at "led_sub")) (fun p hp => .tail _ (hsub11 p hp)) (List.forall_mem_cons.mpr ⟨n1, fun p hp => (hoff11 p hp).2.1⟩) hlen11 (fun u hu => (hT11 u hu).tail) ?_
        rw [Nat.sub_zero, List.take_length] at hrun
        exact hrun
      | succ k =>
        refine next_list F11 N11' hI11 it11 hls (by omega) ?_
        intro oI2 h12 F12 N12 it12
        obtain ⟨tt, ett⟩ := ints_at hI (i := ts.length - (k + 1)) (by omega)
        rw [ett]
        walk_at "go"
        have l3 : ∀ {p : Addr × Obj}, p ∈ nn → p ∈ (I2, oI2) :: (D, listOf hs.toArray c1) :: (D2, listOf ps.toArray c2) :: nn := fun hp => .tail _ (.tail _ (.tail _ hp))
        have l3' : ∀ {p : Addr × Obj}, p ∈ nn → p ∈ (I2, oI2) :: (D, listOf hs.toArray c1) :: (D2, listOf ps.toArray c2) :: nn := fun hp => .tail _ (.tail _ (.tail _ hp))
        refine call_min (κ := fun u => (τ u).key) (us := ps) (n := c2) (news := (I2, oI2) :: (D, listOf hs.toArray c1) :: (D2, listOf ps.toArray c2) :: nn) (by ktr_units) rfl (by assumption) (by assumption) (.tail _ (.tail _ (.head _))) (by omega) (fun u hu => ((hT11 u hu).two).more fun p hp => l3 hp) hap11.key ?_
        intro b h13 tk13 hb hmin F13 N13
        obtain ⟨ad, nd, td1, td2, td3, ed, md⟩ := hT11 _ (getD_mem' hb)
        rw [ed]
        walk_at "go"
        refine tup3_0 (by assumption) (l3 md) ?_
        walk_at "go"
        refine tup3_1 (by assumption) (l3 md) ?_
        walk_at "go"
        refine tup3_2 (by assumption) (l3 md) ?_
        walk_at "go"
        rename_i D8 h14 l14 h15 F15 N15
        obtain ⟨l141, l142, l143, l144⟩ := l14
        generalize hx : ((((τ (ps.getD b .none)).1 + ts.getD (ts.length - (k + 1)) 0, (τ (ps.getD b .none)).2.1, (τ (ps.getD b .none)).2.2 + 1)) : Tri) = x at *
        obtain ⟨tx, N15⟩ : ∃ tx : Obj, News g' L' h15 ((D8, tx) :: (I2, oI2) :: (D, listOf hs.toArray c1) :: (D2, listOf ps.toArray c2) :: nn) ∧ T3s [(D8, tx)] (.ref D8) x := ⟨_, N15, D8, _, _, _, _, rfl, by rw [← hx]; exact .head _⟩
        obtain ⟨N15, hxT⟩ := N15
        have l4 : ∀ {p : Addr × Obj}, p ∈ nn → p ∈ (D8, tx) :: (I2, oI2) :: (D2, listOf ps.toArray c2) :: nn := fun hp => .tail _ (.tail _ (.tail _ hp))
        have hfr : Value.ref D8 ∉ ps := fun hm => by
          obtain ⟨a', n', t1, t2, t3, e', hm'⟩ := hT11 _ hm
          injection e' with e'
          rw [e'] at l144
          exact Nat.lt_irrefl _ (allLt_mem l144 hm')
        have hκp : (ps.map fun u => (τ u).key).Nodup := hap11.key
        have hhd : hs.getD 0 .none = .ref ad := by
          rw [← ed]
          have h0 : 0 < hs.length := by rw [hp.length_eq]; omega
          refine key_inj hκp (hp.mem_iff.mp (getD_mem' h0)) (getD_mem' hb) (kle_anti ?_ ?_)
          · exact heap_min_mem hh0 _ (hp.mem_iff.mpr (getD_mem' hb))
          · have hm := hp.mem_iff.mp (getD_mem' (us := hs) (d := Value.none) h0)
            obtain ⟨i, hi, e⟩ := List.getElem_of_mem hm
            have := hmin i hi
            rw [getD_lt hi, e] at this
            exact this
        have h0 : 0 < hs.length := by rw [hp.length_eq]; omega
        refine get_at (us := hs) (n := c1) (rest := (D2, listOf ps.toArray c2) :: nn) 0 (News.sub N15 (by walk_at "led_sub")) rfl h0 (by rw [hp.length_eq]; omega) ?_
        rw [hhd]
        walk_at "go"
        have hdueT : T3s nn (.ref ad) (τ (.ref ad)) := by
          have := hT11 _ (getD_mem' (d := Value.none) hb)
          rw [ed] at this
          exact this
        refine ne_T2_same (T2s.at N15 ((hdueT.two).more fun p hp => .tail _ (l3' hp))) (by ktr_units) ?_
        walk_at "go"
        have hoffD : ∀ p ∈ (D8, tx) :: (I2, oI2) :: (D2, listOf ps.toArray c2) :: nn, p.1 ≠ D := List.forall_mem_cons.mpr ⟨Nat.ne_of_gt l142, List.forall_mem_cons.mpr ⟨n2.symm, List.forall_mem_cons.mpr ⟨n1.symm, fun p hp => (hoff11 p hp).1⟩⟩⟩
        have hT8 : ∀ u ∈ ps, T3s ((D8, tx) :: nn) u (upd τ (.ref D8) x u) := fun u hu => by
          rw [upd_ne (by rintro rfl; exact hfr hu)]
          exact (hT11 u hu).tail
        have hT8x : T3s ((D8, tx) :: nn) (.ref D8) (upd τ (.ref D8) x (.ref D8)) := by
          rw [upd_self]
          exact hxT.more fun p hp => by rw [List.mem_singleton.mp hp]; exact .head _
        have hsb : ∀ (q : Addr × Obj), q ∈ (D8, tx) :: nn → q ∈ (D8, tx) :: (I2, oI2) :: (D2, listOf ps.toArray c2) :: nn := fun q hq => by
          rcases List.mem_cons.mp hq with rfl | hq
          · exact .head _
          · exact l4 hq
        have hsw : (hs.set 0 (.ref D8)).Perm (ps.eraseIdx b ++ [Value.ref D8]) := swap_perm hp hb h0 (by rw [hhd, ed])
        have hap2 : Apart2 (upd τ (.ref D8) x) (ps.eraseIdx b ++ [Value.ref D8]) := hap11.step hb hfr (by rw [← hx])
        have hTq : ∀ u ∈ ps.eraseIdx b ++ [Value.ref D8], T3s ((D8, tx) :: nn) u (upd τ (.ref D8) x u) := fun u hu => by
          rcases List.mem_append.mp hu with hu | hu
          · exact hT8 u (List.mem_of_mem_eraseIdx hu)
          · rw [List.mem_singleton.mp hu]; exact hT8x
        have hsame : hs.map (fun u => (upd τ (.ref D8) x u).key) = hs.map fun u => (τ u).key := List.map_congr_left fun u hu => by
          rw [upd_ne (by rintro rfl; exact hfr (hp.mem_iff.mp hu))]
        have hh1 : HeapFrom (fun u => (upd τ (.ref D8) x u).key) hs 0 := fun i i0 hi i1 => by
          have e1 : hs.getD ((i - 1) / 2) .none ∈ ps := hp.mem_iff.mp (getD_mem' (by omega))
          have e2 : hs.getD i .none ∈ ps := hp.mem_iff.mp (getD_mem' hi)
          dsimp only
          rw [upd_ne (by intro e; rw [e] at e1; exact hfr e1), upd_ne (by intro e; rw [e] at e2; exact hfr e2)]
          exact hh0 i i0 hi i1
        refine heapreplace (fun u => (upd τ (.ref D8) x u).key) (l := D) (vs := hs) (n := c1) (rest := (D8, tx) :: (I2, oI2) :: (D2, listOf ps.toArray c2) :: nn) (by assumption) (by assumption) (by assumption) (News.sub N15 (by walk_at "led_sub")) hoffD (by assumption) rfl (by ktr_room) (by ktr_units) h0 (by rw [hp.length_eq]; omega)
          (fun u hu => ((hT8 u (hp.mem_iff.mp hu)).two).more hsb) (hT8x.two.more hsb) (perm_nodup hsw hap2.key) ?_
        intro h16 tk16 F16 N16
        rw [hhd]
        walk_at "go"
        refine ne_T2_same (T2s.at N16 ((hdueT.two).more fun p hp => .tail _ (l4 hp))) (by ktr_units) ?_
        walk_at "go"
        refine getm_remove (by assumption) (.tail _ (.tail _ (.tail _ (.head _)))) ?_
        walk_at "go"
        refine call_remove (l := D2) (us := ps) (n := c2) (news := (D, listOf (siftupL (fun u => (upd τ (.ref D8) x u).key) (hs.set 0 (.ref D8)) 0).toArray c1) :: (D8, tx) :: (I2, oI2) :: nn) (j := b) (by assumption) (News.sub N16 (by walk_at "led_sub"))
          (List.forall_mem_cons.mpr ⟨n1, List.forall_mem_cons.mpr ⟨Nat.ne_of_gt l143, List.forall_mem_cons.mpr ⟨n3.symm, fun p hp => (hoff11 p hp).2.1⟩⟩⟩) hb (by omega) ed ?_ ?_
        · intro i hi
          have hi' : i < ps.length := by omega
          refine apart_T2 (by ktr_units) ((hT11 _ (getD_mem' hi')).two.more fun p hp => .tail _ (.tail _ (.tail _ (.tail _ hp)))) (hdueT.two.more fun p hp => .tail _ (.tail _ (.tail _ (.tail _ hp)))) ?_
          have := nodup_ne (i := i) (j := b) (by simpa using hi') (by simpa using hb) hκp (by omega)
          simp only [List.getElem_map] at this
          rw [getD_lt hi', ← ed, getD_lt hb]
          exact this
        intro h17 c3 F17 N17
        walk_at "go"
        refine getm_append N17 (.head _) ?_
        walk_at "go"
        refine append_hd (us := ps.eraseIdx b) (v := .ref D8) (by assumption) N17 (List.forall_mem_cons.mpr ⟨n1, List.forall_mem_cons.mpr ⟨Nat.ne_of_gt l143, List.forall_mem_cons.mpr ⟨n3.symm, fun p hp => (hoff11 p hp).2.1⟩⟩⟩) (by rw [List.length_eraseIdx]; split <;> omega) ?_
        intro h18 F18 N18
        have hq1 : (siftupL (fun u => (upd τ (.ref D8) x u).key) (hs.set 0 (.ref D8)) 0).Perm (ps.eraseIdx b ++ [Value.ref D8]) := (siftupL_perm (by rw [List.length_set]; exact h0)).trans hsw
        have hq2 : HeapFrom (fun u => (upd τ (.ref D8) x u).key) (siftupL (fun u => (upd τ (.ref D8) x u).key) (hs.set 0 (.ref D8)) 0) 0 := siftupL_heap (by rw [List.length_set]; exact h0) (heap_set hh1)
        have hq3 : (ps.eraseIdx b ++ [Value.ref D8]).length = hands := by
          rw [List.length_append, List.length_eraseIdx, if_pos hb]
          simp
          omega
        generalize siftupL (fun u => (upd τ (.ref D8) x u).key) (hs.set 0 (.ref D8)) 0 = hs2 at *
        walk_at "go"
        refine call_sorted (κ := fun u => (upd τ (.ref D8) x u).key) (us := hs2) (n := c1) (news := (D2, listOf (ps.eraseIdx b ++ [Value.ref D8]).toArray (c3 + 1)) :: (D, listOf hs2.toArray c1) :: (D8, tx) :: (I2, oI2) :: nn) (by assumption) (by assumption) (.tail _ (.head _)) (by rw [hq1.length_eq]; omega) (by rw [hq1.length_eq]; omega) (fun u hu => ((hTq u (hq1.mem_iff.mp hu)).two).more (by walk_at "led_sub")) (perm_nodup hq1 hap2.key) ?_
        intro Da us1 ca h19 hp1 hr1 F19 N19 la
        walk_at "go"
        refine call_sorted (κ := fun u => (upd τ (.ref D8) x u).key) (us := ps.eraseIdx b ++ [Value.ref D8]) (n := c3 + 1) (news := (Da, listOf us1.toArray ca) :: (D2, listOf (ps.eraseIdx b ++ [Value.ref D8]).toArray (c3 + 1)) :: (D, listOf hs2.toArray c1) :: (D8, tx) :: (I2, oI2) :: nn) (by assumption) N19 (.tail _ (.head _)) (by omega) (by omega) (fun u hu => ((hTq u hu).two).more (by walk_at "led_sub")) hap2.key ?_
        intro Db us2 cb h20 hp2 hr2 F20 N20 lb
        have hsrt : us2 = us1 := rises_one (hp2.trans (hq1.symm.trans hp1.symm)) hr2 hr1
        subst hsrt
        walk_at "go"
        refine ne_lists_same N20 (.tail _ (.head _)) (.head _) (by ktr_units) ?_
        walk_at "go"
        refine ⟨k, by omega, _, _, _, hs2, ps.eraseIdx b ++ [Value.ref D8], (D8, tx) :: nn, _, _, oI2, upd τ (.ref D8) x, rfl, by assumption, News.sub N20 (by walk_at "led_sub"), by rw [show ts.length - k = ts.length - (k + 1) + 1 by omega]; exact it12, by omega, fun p hp => .tail _ (hsub11 p hp), ?_, n1, n2, n3, by walk_at "loc", by walk_at "loc", by walk_at "loc", hq1, hq2, hq3, hTq, hap2, ?_⟩
        · exact List.forall_mem_cons.mpr ⟨⟨Nat.ne_of_gt l142, Nat.ne_of_gt l143, Nat.ne_of_gt l141⟩, hoff11⟩
        · have e : ts.take (ts.length - k) = ts.take (ts.length - (k + 1)) ++ [ts.getD (ts.length - (k + 1)) 0] := by
            rw [show ts.length - k = ts.length - (k + 1) + 1 by omega, List.take_add_one, getD_lt (by omega)]
            simp [show ts.length - (k + 1) < ts.length by omega]
          rw [e, step_map hfr]
          refine hrun.snoc ⟨b, by simpa using hb, fun i hi => ?_, ?_⟩
          · have hi' : i < ps.length := by simpa using hi
            rw [getD_map hb, getD_map hi']
            exact hmin i hi'
          · rw [getD_map hb, hx]
end
end

section
section
variable {w : World} {p : Program} {loose : List Str} {mean : ExcName → Option Value} {mg mb : Str → Option Value} {dp un : Nat} {gd : Option (List Code)} {cn : Str} {cs : Scope} {a : Addr} {ccd : Value} {cl : List (Str × Addr)} {outer : List Env} {A₀ : Around} {base h₀ : Heap} {L : Addr} {m : Str → Option Value} {s : Shared} {Q E : Value → Shared → Prop}
theorem popping (hands : Nat) {l : Addr} {vs : List Value} {ts : List Int} {n : Nat} {rest : List (Addr × Obj)} {u : Tok}
    (B : Below A₀ base outer h₀) (F : Fr h₀ L s.heap m) (X : (hd.heap_39 w.params).In h₀) (N : News h₀ L s.heap ((l, listOf vs.toArray n) :: rest)) (T : Top p loose mean mg mb h₀) (hk : cs.kind = .function)
    (hd : dp + 5 < recursionLimit) (hu : un + 40 < cLine)
    (hz : vs.length < 900) (hI : IntsAre vs ts) (hh : 2 ≤ hands) (hh' : hands ≤ 3)
    (ret : ∀ (D : Addr) (us : List Value) (c tk' : Nat) (h' : Heap) (nn : List (Addr × Obj)) (τ : Value → Tri), Fr h₀ L h' m → News h₀ L h' ((D, listOf us.toArray c) :: nn) → (∀ p ∈ (l, listOf vs.toArray n) :: rest, p ∈ nn) → (∀ p ∈ nn, p.1 ≠ D) → us.length = hands → (∀ u ∈ us, T3s nn u (τ u)) →
      Run ts (start hands) (us.map τ) → Q (.ref D) { s with heap := h', toks := tk' }) :
    wpAny (model PySem.Challenge.rw_dm5007_01.row.prog w) (ktrTop dp un gd cn cs L a ccd cl outer) (call (.ref 96) [.ref l, .int hands u]) Q E s := by
  revert X; k_fill; intro X
  refine wpAny_call ?_
  k_dflt cell_enter
  rename_i g' L' h' FG' F' N' B' X' T'
  obtain ⟨m1, F1, e1, e2⟩ : ∃ m1, Fr g' L' h' m1 ∧ m1 "times" = some (.ref l) ∧ m1 "hands" = some (.int hands u) := ⟨_, F', rfl, rfl⟩
  clear F'
  have hsm : Builtin.Range.small 0 hands 1 = true := by
    obtain rfl | rfl : hands = 2 ∨ hands = 3 := by omega
    · decide
    · decide
  walk_at "go"
  refine for_start ?_
  walk_at "go"
  rename_i D hA lA hB tkA D2 hC lC hD F4 N4
  refine range1 F4 N4 ?_
  intro r h5 tk5 t4 t5 F5 N5 lr
  walk_at "go"
  refine iter_range F5 N5 (.head _) hsm ?_
  intro I h6 F6 N6 lI
  rw [rangeSize0] at N6
  obtain ⟨lC1, lC2, lC3⟩ := lC
  obtain ⟨lA1, lA2⟩ := lA
  have hDD : D ≠ D2 := Nat.ne_of_lt lC1
  have hID : D ≠ I := Nat.ne_of_lt (lI _ (.tail _ (.tail _ (.head _))))
  have hID2 : D2 ≠ I := Nat.ne_of_lt (lI _ (.tail _ (.head _)))
  refine for_ind (I := fun k s' => ∃ (h : Heap) (tk : Nat) (mm : Str → Option Value) (hs ps : List Value) (nn : List (Addr × Obj)) (c1 c2 : Nat) (τ : Value → Tri), s' = { s with heap := h, toks := tk } ∧ Fr g' L' h mm ∧ News g' L' h ((I, rangeIt ((hands:Int) - k) k 1) :: (D, listOf hs.toArray c1) :: (D2, listOf ps.toArray c2) :: nn) ∧ k ≤ hands ∧
      (∀ p ∈ (l, listOf vs.toArray n) :: rest, p ∈ nn) ∧ (∀ p ∈ nn, p.1 ≠ D ∧ p.1 ≠ D2 ∧ p.1 ≠ I) ∧ mm "times" = some (.ref l) ∧ mm "heap" = some (.ref D) ∧ mm "plain" = some (.ref D2) ∧
      (hs.map τ).Perm (ps.map τ) ∧ HeapFrom (fun u => (τ u).key) hs 0 ∧ (∀ u ∈ ps, T3s nn u (τ u)) ∧ (∀ u ∈ hs, T3s nn u (τ u)) ∧ ps.map τ = start (hands - k)) ?hE (n := hands) ?init ?turn
  case hE => with_unfolding_all passes_own
  case init =>
    refine ⟨_, _, _, [], [], (l, listOf vs.toArray n) :: rest, 0, 0, fun _ => z3, rfl, F6, ?_, Nat.le_refl _, fun _ h => h, ?_, by walk_at "loc", by walk_at "loc", by walk_at "loc", List.Perm.refl _, (fun i h1 h2 => absurd h2 (by simp)), (fun u hu => nomatch hu), (fun u hu => nomatch hu), ?_⟩
    · rw [Int.sub_self]
      exact News.sub N6 (by walk_at "led_sub")
    · intro p hp
      rcases List.mem_cons.mp hp with rfl | hp
      · exact ⟨Nat.ne_of_lt lA1, Nat.ne_of_lt lC2, Nat.ne_of_lt (lI _ (.tail _ (.tail _ (.tail _ (.head _)))))⟩
      · exact ⟨Nat.ne_of_lt (allLt_mem lA2 hp), Nat.ne_of_lt (allLt_mem lC3 hp), Nat.ne_of_lt (lI _ (.tail _ (.tail _ (.tail _ (.tail _ hp)))))⟩
    · rw [Nat.sub_self]; rfl
  case turn =>
    rintro k s' ⟨h, tk, mm, hs, ps, nn, c1, c2, τ, rfl, F11, N11, hk, hsub11, hoff11, f1, f2, f3, hp, hh0, hTp, hTh, hst⟩
    have hI11 : ∀ x y, ∀ p ∈ (D, x) :: (D2, y) :: nn, p.1 ≠ I := fun x y => List.forall_mem_cons.mpr ⟨hID, List.forall_mem_cons.mpr ⟨hID2, fun p hp => (hoff11 p hp).2.2⟩⟩
    have hlp : ps.length = hands - k := by
      have := congrArg List.length hst
      simpa [start] using this
    have hlh : hs.length = hands - k := by
      have := hp.length_eq
      rw [List.length_map, List.length_map] at this
      omega
    cases k with
    | zero =>
      refine next_range_end rfl F11 N11 (hI11 _ _) (by omega) ?_
      intro h12 F12 N12
      walk_at "go"
      have hTpl : ps.length = hands := by omega
      have hap0 : Apart2 τ ps := by
        unfold Apart2
        have e : (ps.map fun u => (τ u).2.1) = (ps.map τ).map (·.2.1) := by rw [List.map_map]; rfl
        rw [e, hst]
        exact start_apart _
      rw [Nat.sub_zero] at hst
      refine for_start ?_
      walk_at "go"
      refine iter_list (l := l) (its := vs) (by assumption) N12 ?_ ?_
      · exact News.isList N12 (.tail _ (.tail _ (hsub11 _ (.head _))))
      intro J o2 h13 F13 N13 it13 lJ _
      have hoffJ : ∀ p ∈ nn, p.1 ≠ D ∧ p.1 ≠ D2 ∧ p.1 ≠ J := fun p hp => ⟨(hoff11 p hp).1, (hoff11 p hp).2.1, Nat.ne_of_lt (lJ p (.tail _ (.tail _ hp)))⟩
      have hJD : D ≠ J := Nat.ne_of_lt (lJ _ (.head _))
      have hJD2 : D2 ≠ J := Nat.ne_of_lt (lJ _ (.tail _ (.head _)))
      refine for_ind (I := fun k s' => ∃ (h : Heap) (tk : Nat) (mm : Str → Option Value) (hs ps : List Value) (nn : List (Addr × Obj)) (c1 c2 : Nat) (oI : Obj) (τ : Value → Tri), s' = { s with heap := h, toks := tk } ∧ Fr g' L' h mm ∧ News g' L' h ((D, listOf hs.toArray c1) :: (D2, listOf ps.toArray c2) :: (J, oI) :: nn) ∧ ListIt oI l (ts.length - k) ∧ k ≤ ts.length ∧
        (∀ p ∈ (l, listOf vs.toArray n) :: rest, p ∈ nn) ∧ (∀ p ∈ nn, p.1 ≠ D ∧ p.1 ≠ D2 ∧ p.1 ≠ J) ∧ mm "times" = some (.ref l) ∧ mm "heap" = some (.ref D) ∧ mm "plain" = some (.ref D2) ∧
        (hs.map τ).Perm (ps.map τ) ∧ HeapFrom (fun u => (τ u).key) hs 0 ∧ ps.length = hands ∧ (∀ u ∈ ps, T3s nn u (τ u)) ∧ (∀ u ∈ hs, T3s nn u (τ u)) ∧ Apart2 τ ps ∧ Run (ts.take (ts.length - k)) (start hands) (ps.map τ)) ?hE2 (n := ts.length) ?init2 ?turn2
      case hE2 => with_unfolding_all passes_own
      case init2 =>
        refine ⟨_, _, _, hs, ps, nn, _, _, o2, τ, rfl, F13, News.sub N13 (by walk_at "led_sub"), by rw [Nat.sub_self]; exact it13, Nat.le_refl _, hsub11, hoffJ, by walk_at "loc", by walk_at "loc", by walk_at "loc", hp, hh0, hTpl, hTp, hTh, hap0, ?_⟩
        rw [Nat.sub_self]
        exact hst
      case turn2 =>
        clear hst hTpl hp hh0 hTp hTh hap0 hoffJ
        rintro k s' ⟨h, tk, mm, hs, ps, nn, c1, c2, oI, τ, rfl, F11, N11, it11, hk, hsub11, hoff11, f1, f2, f3, hp, hh0, hlen11, hTp, hTh, hap11, hrun⟩
        have hvl : vs.length = ts.length := hI.length
        have hls : h.IsList l vs.toArray := N11.isList (.tail _ (.tail _ (.tail _ (hsub11 _ (.head _)))))
        have N11' := News.sub (news' := (J, oI) :: (D, listOf hs.toArray c1) :: (D2, listOf ps.toArray c2) :: nn) N11 (by walk_at "led_sub")
        have hI11 : ∀ p ∈ (D, listOf hs.toArray c1) :: (D2, listOf ps.toArray c2) :: nn, p.1 ≠ J := List.forall_mem_cons.mpr ⟨hJD, List.forall_mem_cons.mpr ⟨hJD2, fun p hp => (hoff11 p hp).2.2⟩⟩
        cases k with
        | zero =>
          refine next_list_end rfl F11 N11' hI11 it11 hls (by omega) ?_
          intro h12 F12 N12
          walk_at "go"
          refine ret D2 ps c2 _ _ ((D, listOf hs.toArray c1) :: nn) τ (by assumption) (News.sub (by assumption) (by walk_at "led_sub")) (fun p hp => .tail _ (hsub11 p hp)) (List.forall_mem_cons.mpr ⟨hDD, fun p hp => (hoff11 p hp).2.1⟩) hlen11 (fun u hu => (hTp u hu).tail) ?_
          rw [Nat.sub_zero, List.take_length] at hrun
          exact hrun
        | succ k =>
          refine next_list F11 N11' hI11 it11 hls (by omega) ?_
          intro oI2 h12 F12 N12 it12
          obtain ⟨tt, ett⟩ := ints_at hI (i := ts.length - (k + 1)) (by omega)
          rw [ett]
          walk_at "go"
          have l3 : ∀ {p : Addr × Obj}, p ∈ nn → p ∈ (J, oI2) :: (D, listOf hs.toArray c1) :: (D2, listOf ps.toArray c2) :: nn := fun hp => .tail _ (.tail _ (.tail _ hp))
          have hlh : hs.length = hands := by
            have := hp.length_eq
            rw [List.length_map, List.length_map] at this
            omega
          refine call_min (κ := fun u => (τ u).key) (us := ps) (n := c2) (news := (J, oI2) :: (D, listOf hs.toArray c1) :: (D2, listOf ps.toArray c2) :: nn) (by ktr_units) rfl (by assumption) (by assumption) (.tail _ (.tail _ (.head _))) (by omega) (fun u hu => ((hTp u hu).two).more fun p hp => l3 hp) hap11.key ?_
          intro b h13 tk13 hb hmin F13 N13
          obtain ⟨ad, nd, td1, td2, td3, ed, md⟩ := hTp _ (getD_mem' hb)
          rw [ed]
          walk_at "go"
          refine tup3_0 (by assumption) (l3 md) ?_
          walk_at "go"
          refine tup3_1 (by assumption) (l3 md) ?_
          walk_at "go"
          refine tup3_2 (by assumption) (l3 md) ?_
          walk_at "go"
          rename_i D8 h14 l14 h15 F15 N15
          obtain ⟨l141, l142, l143, l144⟩ := l14
          generalize hx : ((((τ (ps.getD b .none)).1 + ts.getD (ts.length - (k + 1)) 0, (τ (ps.getD b .none)).2.1, (τ (ps.getD b .none)).2.2 + 1)) : Tri) = x at *
          obtain ⟨tx, N15, hxT⟩ : ∃ tx : Obj, News g' L' h15 ((D8, tx) :: (J, oI2) :: (D, listOf hs.toArray c1) :: (D2, listOf ps.toArray c2) :: nn) ∧ T3s [(D8, tx)] (.ref D8) x := ⟨_, N15, D8, _, _, _, _, rfl, by rw [← hx]; exact .head _⟩
          have l4 : ∀ {p : Addr × Obj}, p ∈ nn → p ∈ (D8, tx) :: (J, oI2) :: (D2, listOf ps.toArray c2) :: nn := fun hp => .tail _ (.tail _ (.tail _ hp))
          have hfp : Value.ref D8 ∉ ps := fresh_T3 hTp l144
          have hfh : Value.ref D8 ∉ hs := fresh_T3 hTh l144
          have h0 : 0 < hs.length := by omega
          have hhd : τ (hs.getD 0 .none) = τ (ps.getD b .none) := tri_head hp hap11 hh0 h0 hb hmin
          have hdueT : T3s nn (.ref ad) (τ (ps.getD b .none)) := ⟨ad, nd, td1, td2, td3, rfl, md⟩
          have htopT : T3s nn (hs.getD 0 .none) (τ (ps.getD b .none)) := by
            have := hTh _ (getD_mem' (d := Value.none) h0)
            rwa [hhd] at this
          have hoffD : ∀ p ∈ (D8, tx) :: (J, oI2) :: (D2, listOf ps.toArray c2) :: nn, p.1 ≠ D := List.forall_mem_cons.mpr ⟨Nat.ne_of_gt l142, List.forall_mem_cons.mpr ⟨hJD.symm, List.forall_mem_cons.mpr ⟨hDD.symm, fun p hp => (hoff11 p hp).1⟩⟩⟩
          have hoffD2 : ∀ x, ∀ p ∈ (D, x) :: (D8, tx) :: (J, oI2) :: nn, p.1 ≠ D2 := fun x => List.forall_mem_cons.mpr ⟨hDD, List.forall_mem_cons.mpr ⟨Nat.ne_of_gt l143, List.forall_mem_cons.mpr ⟨hJD2.symm, fun p hp => (hoff11 p hp).2.1⟩⟩⟩
          have hκh : (hs.map fun u => (τ u).key).Nodup := (Apart2.of_map hp hap11).key
          refine heappop (fun u => (τ u).key) (l := D) (vs := hs) (n := c1) (rest := (D8, tx) :: (J, oI2) :: (D2, listOf ps.toArray c2) :: nn) (by assumption) (by assumption) (by assumption) (News.sub N15 (by walk_at "led_sub")) hoffD (by assumption) rfl (by ktr_room) (by ktr_units) (by omega) (by omega)
            (fun u hu => ((hTh u hu).two).more fun p hp => l4 hp) hκh ?_
          intro h16 tk16 F16 N16
          have hq1 : (hs.getD 0 .none :: siftupL (fun u => (τ u).key) (hs.dropLast.set 0 (hs.getD (hs.length - 1) .none)) 0).Perm hs := siftup_pop_perm (by omega)
          have hq2 : HeapFrom (fun u => (τ u).key) (siftupL (fun u => (τ u).key) (hs.dropLast.set 0 (hs.getD (hs.length - 1) .none)) 0) 0 := heap_pop (by omega) hh0
          generalize siftupL (fun u => (τ u).key) (hs.dropLast.set 0 (hs.getD (hs.length - 1) .none)) 0 = hs1 at *
          have hsub1 : ∀ u ∈ hs1, u ∈ hs := fun u hu => hq1.mem_iff.mp (.tail _ hu)
          have hlen1 : hs1.length + 1 = hs.length := by
            have := hq1.length_eq
            simpa using this
          have hf1 : Value.ref D8 ∉ hs1 := fun hm => hfh (hsub1 _ hm)
          have hgm := give_map (x := x) hp hb hfp hfh hhd hq1
          have hap2 : Apart2 (upd τ (.ref D8) x) (ps.eraseIdx b ++ [Value.ref D8]) := hap11.step hb hfp (by rw [← hx])
          have hT8x : T3s ((D8, tx) :: nn) (.ref D8) (upd τ (.ref D8) x (.ref D8)) := by
            rw [upd_self]
            exact hxT.more fun p hp => by rw [List.mem_singleton.mp hp]; exact .head _
          have hT8h : ∀ u ∈ hs1 ++ [Value.ref D8], T3s ((D8, tx) :: nn) u (upd τ (.ref D8) x u) := fun u hu => by
            rcases List.mem_append.mp hu with hu | hu
            · exact T3s.upd_old hTh hfh (fun p hp => .tail _ hp) u (hsub1 u hu)
            · rw [List.mem_singleton.mp hu]; exact hT8x
          have hT8p : ∀ u ∈ ps.eraseIdx b ++ [Value.ref D8], T3s ((D8, tx) :: nn) u (upd τ (.ref D8) x u) := fun u hu => by
            rcases List.mem_append.mp hu with hu | hu
            · exact T3s.upd_old hTp hfp (fun p hp => .tail _ hp) u (List.mem_of_mem_eraseIdx hu)
            · rw [List.mem_singleton.mp hu]; exact hT8x
          have hsb : ∀ (q : Addr × Obj), q ∈ (D8, tx) :: nn → q ∈ (D8, tx) :: (J, oI2) :: (D2, listOf ps.toArray c2) :: nn := fun q hq => by
            rcases List.mem_cons.mp hq with rfl | hq
            · exact .head _
            · exact l4 hq
          walk_at "go"
          refine ne_T3 N16 (htopT.more fun p hp => .tail _ (l4 hp)) (hdueT.more fun p hp => .tail _ (l4 hp)) (by ktr_units) ?_
          walk_at "go"
          refine heappush (fun u => (upd τ (.ref D8) x u).key) (l := D) (vs := hs1) (n := c1 + 1) (rest := (D8, tx) :: (J, oI2) :: (D2, listOf ps.toArray c2) :: nn) (by assumption) (by assumption) (by assumption) (by assumption) hoffD (by assumption) rfl (by ktr_room) (by ktr_units) (by omega)
            (fun u hu => ((hT8h u (List.mem_append_left _ hu)).two).more hsb) (hT8x.two.more hsb) (Apart2.of_map hgm hap2).key ?_
          intro h17 tk17 F17 N17
          have hr1 : (sdn (fun u => (upd τ (.ref D8) x u).key) (hs1 ++ [Value.ref D8]) (.ref D8) 0 hs1.length).Perm (hs1 ++ [Value.ref D8]) := sdn_end_perm
          have hr2 : HeapFrom (fun u => (upd τ (.ref D8) x u).key) (sdn (fun u => (upd τ (.ref D8) x u).key) (hs1 ++ [Value.ref D8]) (.ref D8) 0 hs1.length) 0 := push_heap (heap_upd hf1 hq2)
          generalize sdn (fun u => (upd τ (.ref D8) x u).key) (hs1 ++ [Value.ref D8]) (.ref D8) 0 hs1.length = hs2 at *
          walk_at "go"
          refine getm_remove N17 (.tail _ (.tail _ (.tail _ (.head _)))) ?_
          walk_at "go"
          refine call_remove (l := D2) (us := ps) (n := c2) (news := (D, listOf hs2.toArray (c1 + 1 + 1)) :: (D8, tx) :: (J, oI2) :: nn) (j := b) (by assumption) (News.sub N17 (by walk_at "led_sub"))
            (hoffD2 _) hb (by omega) ed ?_ ?_
          · intro i hi
            have hi' : i < ps.length := by omega
            refine apart_T2 (by ktr_units) ((hTp _ (getD_mem' hi')).two.more fun p hp => .tail _ (.tail _ (.tail _ (.tail _ hp)))) (hdueT.two.more fun p hp => .tail _ (.tail _ (.tail _ (.tail _ hp)))) ?_
            have := nodup_ne (i := i) (j := b) (by simpa using hi') (by simpa using hb) hap11.key (by omega)
            simp only [List.getElem_map] at this
            rw [getD_lt hi', getD_lt hb]
            exact this
          intro h18 c3 F18 N18
          walk_at "go"
          refine getm_append N18 (.head _) ?_
          walk_at "go"
          refine append_hd (us := ps.eraseIdx b) (v := .ref D8) (by assumption) N18 (hoffD2 _) (by rw [List.length_eraseIdx]; split <;> omega) ?_
          intro h19 F19 N19
          have hq3 : (ps.eraseIdx b ++ [Value.ref D8]).length = hands := by
            rw [List.length_append, List.length_eraseIdx, if_pos hb]
            simp
            omega
          have hl2 : hs2.length = hands := by rw [hr1.length_eq]; simp; omega
          have hgm2 : (hs2.map (upd τ (.ref D8) x)).Perm ((ps.eraseIdx b ++ [Value.ref D8]).map (upd τ (.ref D8) x)) := (hr1.map _).trans hgm
          have hT82 : ∀ u ∈ hs2, T3s ((D8, tx) :: nn) u (upd τ (.ref D8) x u) := fun u hu => hT8h u (hr1.mem_iff.mp hu)
          walk_at "go"
          refine call_sorted (κ := fun u => (upd τ (.ref D8) x u).key) (us := hs2) (n := c1 + 1 + 1) (news := (D2, listOf (ps.eraseIdx b ++ [Value.ref D8]).toArray (c3 + 1)) :: (D, listOf hs2.toArray (c1 + 1 + 1)) :: (D8, tx) :: (J, oI2) :: nn) (by assumption) (by assumption) (.tail _ (.head _)) (by omega) (by omega) (fun u hu => ((hT82 u hu).two).more (by walk_at "led_sub")) (Apart2.of_map hgm2 hap2).key ?_
          intro Da us1 ca h20 hp1 hs1' F20 N20 la
          walk_at "go"
          refine call_sorted (κ := fun u => (upd τ (.ref D8) x u).key) (us := ps.eraseIdx b ++ [Value.ref D8]) (n := c3 + 1) (news := (Da, listOf us1.toArray ca) :: (D2, listOf (ps.eraseIdx b ++ [Value.ref D8]).toArray (c3 + 1)) :: (D, listOf hs2.toArray (c1 + 1 + 1)) :: (D8, tx) :: (J, oI2) :: nn) (by assumption) N20 (.tail _ (.head _)) (by omega) (by omega) (fun u hu => ((hT8p u hu).two).more (by walk_at "led_sub")) hap2.key ?_
          intro Db us2 cb h21 hp2 hs2' F21 N21 lb
          walk_at "go"
          refine ne_lists_T3 (τ := upd τ (.ref D8) x) N21 (.tail _ (.head _)) (.head _) (fun u hu => (hT82 u (hp1.mem_iff.mp hu)).more (by walk_at "led_sub")) (fun u hu => (hT8p u (hp2.mem_iff.mp hu)).more (by walk_at "led_sub")) (sorted_map_eq hgm2 hp1 hp2 hs1' hs2') (by ktr_units) ?_
          walk_at "go"
          refine ⟨k, by omega, _, _, _, hs2, ps.eraseIdx b ++ [Value.ref D8], (D8, tx) :: nn, _, _, oI2, upd τ (.ref D8) x, rfl, by assumption, News.sub N21 (by walk_at "led_sub"), by rw [show ts.length - k = ts.length - (k + 1) + 1 by omega]; exact it12, by omega, fun p hp => .tail _ (hsub11 p hp), ?_, by walk_at "loc", by walk_at "loc", by walk_at "loc", hgm2, hr2, hq3, hT8p, hT82, hap2, ?_⟩
          · exact List.forall_mem_cons.mpr ⟨⟨Nat.ne_of_gt l142, Nat.ne_of_gt l143, Nat.ne_of_gt l141⟩, hoff11⟩
          · have e : ts.take (ts.length - k) = ts.take (ts.length - (k + 1)) ++ [ts.getD (ts.length - (k + 1)) 0] := by
              rw [show ts.length - k = ts.length - (k + 1) + 1 by omega, List.take_add_one, getD_lt (by omega)]
              simp [show ts.length - (k + 1) < ts.length by omega]
            rw [e, step_map hfp]
            refine hrun.snoc ⟨b, by simpa using hb, fun i hi => ?_, ?_⟩
            · have hi' : i < ps.length := by simpa using hi
              rw [getD_map hb, getD_map hi']
              exact hmin i hi'
            · rw [getD_map hb, hx]
    | succ k =>
      refine next_range F11 N11 (hI11 _ _) (by omega) ?_
      intro t6 h12 tk12 F12 N12
      have e6 : ((hands:Int) - ((k + 1 : Nat) : Int)) + 1 = (hands:Int) - (k : Nat) := by omega
      have e7 : (((k + 1 : Nat) : Int)) - 1 = (k : Nat) := by omega
      have e8 : ((hands:Int) - ((k + 1 : Nat) : Int)) = ((hands - (k + 1) : Nat) : Int) := by omega
      rw [e6, e7] at N12
      rw [e8]
      walk_at "go"
      rename_i hE Da h13 F13 N13 l13
      obtain ⟨l131, l132, l133, l134⟩ := l13
      obtain ⟨ta, N13, hxa⟩ : ∃ tx : Obj, News g' L' h13 ((Da, tx) :: (I, rangeIt ((hands:Int) - k) k 1) :: (D, listOf hs.toArray c1) :: (D2, listOf ps.toArray c2) :: nn) ∧ T3s [(Da, tx)] (.ref Da) (0, ((hands - (k + 1) : Nat) : Int), 0) := ⟨_, N13, Da, _, _, _, _, rfl, .head _⟩
      generalize hx : ((0, ((hands - (k + 1) : Nat) : Int), 0) : Tri) = x at hxa
      have hfh : Value.ref Da ∉ hs := fresh_T3 hTh l134
      have hfp : Value.ref Da ∉ ps := fresh_T3 hTp l134
      have hoffD : ∀ p ∈ (Da, ta) :: (I, rangeIt ((hands:Int) - k) k 1) :: (D2, listOf ps.toArray c2) :: nn, p.1 ≠ D := List.forall_mem_cons.mpr ⟨Nat.ne_of_gt l132, List.forall_mem_cons.mpr ⟨hID.symm, List.forall_mem_cons.mpr ⟨hDD.symm, fun p hp => (hoff11 p hp).1⟩⟩⟩
      have hTax : T3s ((Da, ta) :: nn) (.ref Da) (upd τ (.ref Da) x (.ref Da)) := by
        rw [upd_self]
        exact hxa.more fun p hp => by rw [List.mem_singleton.mp hp]; exact .head _
      have hTha : ∀ u ∈ hs ++ [Value.ref Da], T3s ((Da, ta) :: nn) u (upd τ (.ref Da) x u) := fun u hu => by
        rcases List.mem_append.mp hu with hu | hu
        · exact T3s.upd_old hTh hfh (fun p hp => .tail _ hp) u hu
        · rw [List.mem_singleton.mp hu]; exact hTax
      have hsb : ∀ (q : Addr × Obj), q ∈ (Da, ta) :: nn → q ∈ (Da, ta) :: (I, rangeIt ((hands:Int) - k) k 1) :: (D2, listOf ps.toArray c2) :: nn := fun q hq => by
        rcases List.mem_cons.mp hq with rfl | hq
        · exact .head _
        · exact .tail _ (.tail _ (.tail _ hq))
      have hmapA : ((hs ++ [Value.ref Da]).map (upd τ (.ref Da) x)).Perm (start (hands - k)) := by
        rw [map_snoc hfh]
        have : start (hands - k) = start (hands - (k + 1)) ++ [x] := by
          rw [show hands - k = hands - (k + 1) + 1 by omega, ← hx]
          unfold start
          rw [List.range_succ, List.map_append]; rfl
        rw [this, ← hst]
        exact hp.append_right _
      have hndA : ((hs ++ [Value.ref Da]).map fun u => (upd τ (.ref Da) x u).key).Nodup := by
        have e : ((hs ++ [Value.ref Da]).map fun u => (upd τ (.ref Da) x u).key) = ((hs ++ [Value.ref Da]).map (upd τ (.ref Da) x)).map Tri.key := by rw [List.map_map]; rfl
        rw [e]
        exact (hmapA.map _).nodup_iff.mpr (start_key _)
      refine heappush (fun u => (upd τ (.ref Da) x u).key) (l := D) (vs := hs) (n := c1) (rest := (Da, ta) :: (I, rangeIt ((hands:Int) - k) k 1) :: (D2, listOf ps.toArray c2) :: nn) (by assumption) (by assumption) (by assumption) (News.sub N13 (by walk_at "led_sub")) hoffD (by assumption) rfl (by ktr_room) (by ktr_units) (by omega)
        (fun u hu => ((hTha u (List.mem_append_left _ hu)).two).more hsb) (hTax.two.more hsb) hndA ?_
      intro h14 tk14 F14 N14
      walk_at "go"
      refine getm_append N14 (.tail _ (.tail _ (.tail _ (.head _)))) ?_
      walk_at "go"
      rename_i Db h15 F15 N15 l15
      obtain ⟨l151, l152, l153, l154, l155⟩ := l15
      obtain ⟨tb, N15, hxb⟩ : ∃ tx : Obj, News g' L' h15 ((Db, tx) :: (D, listOf (sdn (fun u => (upd τ (.ref Da) x u).key) (hs ++ [Value.ref Da]) (.ref Da) 0 hs.length).toArray (c1 + 1)) :: (Da, ta) :: (I, rangeIt ((hands:Int) - k) k 1) :: (D2, listOf ps.toArray c2) :: nn) ∧ T3s [(Db, tx)] (.ref Db) x := ⟨_, N15, Db, _, _, _, _, rfl, by rw [← hx]; exact .head _⟩
      refine append_hd (l := D2) (us := ps) (n := c2) (v := .ref Db) (rest := (Db, tb) :: (D, listOf (sdn (fun u => (upd τ (.ref Da) x u).key) (hs ++ [Value.ref Da]) (.ref Da) 0 hs.length).toArray (c1 + 1)) :: (Da, ta) :: (I, rangeIt ((hands:Int) - k) k 1) :: nn) (by assumption) (News.sub N15 (by walk_at "led_sub"))
        (List.forall_mem_cons.mpr ⟨Nat.ne_of_gt l154, List.forall_mem_cons.mpr ⟨hDD, List.forall_mem_cons.mpr ⟨Nat.ne_of_gt l133, List.forall_mem_cons.mpr ⟨hID2.symm, fun p hp => (hoff11 p hp).2.1⟩⟩⟩⟩) (by omega) ?_
      intro h16 F16 N16
      have hq1 : (sdn (fun u => (upd τ (.ref Da) x u).key) (hs ++ [Value.ref Da]) (.ref Da) 0 hs.length).Perm (hs ++ [Value.ref Da]) := sdn_end_perm
      have hq2 : HeapFrom (fun u => (upd τ (.ref Da) x u).key) (sdn (fun u => (upd τ (.ref Da) x u).key) (hs ++ [Value.ref Da]) (.ref Da) 0 hs.length) 0 := push_heap (heap_upd hfh hh0)
      generalize sdn (fun u => (upd τ (.ref Da) x u).key) (hs ++ [Value.ref Da]) (.ref Da) 0 hs.length = hs2 at *
      have hfb : Value.ref Db ∉ hs2 := fun hm => fresh_T3 hTha (D := Db) ⟨l152, l155⟩ (hq1.mem_iff.mp hm)
      have hfbp : Value.ref Db ∉ ps := fresh_T3 hTp l155
      have hst1 : (ps ++ [Value.ref Db]).map (upd (upd τ (.ref Da) x) (.ref Db) x) = start (hands - k) := by
        rw [map_snoc hfbp, map_upd hfp, hst, show hands - k = hands - (k + 1) + 1 by omega, ← hx]
        unfold start
        rw [List.range_succ, List.map_append]; rfl
      have hTbx : T3s ((Db, tb) :: (Da, ta) :: nn) (.ref Db) (upd (upd τ (.ref Da) x) (.ref Db) x (.ref Db)) := by
        rw [upd_self]
        exact hxb.more fun p hp => by rw [List.mem_singleton.mp hp]; exact .head _
      walk_at "go"
      refine ⟨k, by omega, _, _, _, hs2, ps ++ [Value.ref Db], (Db, tb) :: (Da, ta) :: nn, _, _, upd (upd τ (.ref Da) x) (.ref Db) x, rfl, by assumption, News.sub N16 (by walk_at "led_sub"), by omega, fun p hp => .tail _ (.tail _ (hsub11 p hp)), ?_, by walk_at "loc", by walk_at "loc", by walk_at "loc", ?_, heap_upd hfb hq2, ?_, ?_, hst1⟩
      · exact List.forall_mem_cons.mpr ⟨⟨Nat.ne_of_gt l151, Nat.ne_of_gt l154, Nat.ne_of_gt l153⟩, List.forall_mem_cons.mpr ⟨⟨Nat.ne_of_gt l132, Nat.ne_of_gt l133, Nat.ne_of_gt l131⟩, hoff11⟩⟩
      · rw [hst1, map_upd hfb]
        exact (hq1.map _).trans hmapA
      · intro u hu
        rcases List.mem_append.mp hu with hu | hu
        · exact T3s.upd_old (T3s.upd_old hTp hfp (news' := (Da, ta) :: nn) (fun p hp => .tail _ hp)) hfbp (fun p hp => .tail _ hp) u hu
        · rw [List.mem_singleton.mp hu]; exact hTbx
      · exact T3s.upd_old (fun u hu => hTha u (hq1.mem_iff.mp hu)) hfb (fun p hp => .tail _ hp)
end
end

section
section
variable {w : World} {p : Program} {loose : List Str} {mean : ExcName → Option Value} {mg mb : Str → Option Value} {dp un : Nat} {gd : Option (List Code)} {cn : Str} {cs : Scope} {a : Addr} {ccd : Value} {cl : List (Str × Addr)} {outer : List Env} {A₀ : Around} {base h₀ : Heap} {L : Addr} {m : Str → Option Value} {s : Shared} {Q E : Value → Shared → Prop}
theorem spanOf {l : Addr} {us : List Value} {τ : Value → Tri} {n : Nat} {rest : List (Addr × Obj)}
    (B : Below A₀ base outer h₀) (F : Fr h₀ L s.heap m) (X : (hd.heap_39 w.params).In h₀) (N : News h₀ L s.heap ((l, listOf us.toArray n) :: rest)) (T : Top p loose mean mg mb h₀) (hk : cs.kind = .function)
    (hd : dp + 2 < recursionLimit) (hu : un + 16 < cLine)
    (h0 : 0 < us.length) (hz : us.length < 900) (hT : ∀ u ∈ us, T3s rest u (τ u))
    (ret : ∀ (M : Int) (t : Tok) (tk' : Nat) (h' : Heap), Fr h₀ L h' m → News h₀ L h' ((l, listOf us.toArray n) :: rest) → M ∈ us.map (fun u => (τ u).1) → (∀ a ∈ us.map (fun u => (τ u).1), a ≤ M) → Q (.int M t) { s with heap := h', toks := tk' }) :
    wpAny (model PySem.Challenge.rw_dm5007_01.row.prog w) (ktrTop dp un gd cn cs L a ccd cl outer) (call (.ref 106) [.ref l]) Q E s := by
  revert X; k_fill; intro X
  refine wpAny_call ?_
  k_dflt cell_enter
  rename_i g' L' h' FG' F' N' B' X' T'
  obtain ⟨m1, F1, e1⟩ : ∃ m1, Fr g' L' h' m1 ∧ m1 "done" = some (.ref l) := ⟨_, F', rfl⟩
  clear F'
  walk_at "go"
  refine' listcomp_eval (cl := []) ?c2 ?c3 ?c4 ?c5 ?_ ?c7
  case c2 => rfl
  case c3 => decide
  case c4 => rfl
  case c5 => decide
  case c7 => (intro x; with_unfolding_all rfl)
  walk_at "go"
  refine iter_list (l := l) (its := us) (by assumption) N' (News.isList N' (.head _)) ?_
  intro I o h4 F4 N4 it4 lI _
  refine comp_items (fun i x => ∃ t, x = .int (τ (us.getD i .none)).1 t) (ItRule.list (.head _)) F4 N4 (fun p hp => Nat.ne_of_lt (lI p hp)) it4 rfl (by omega) (fun _ => rfl) ?_ ?_
  · intro i D C oD oC oI mC h tk Q' hi F5 N5 hO hy hQ
    obtain ⟨a, na, t1, t2, t3, ea, ma⟩ := hT _ (getD_mem' (d := Value.none) hi)
    rw [ea] at hy
    walk_at "go"
    refine tup3_0 N5 (.tail _ (.tail _ (.tail _ (.tail _ ma)))) ?_
    exact hQ _ _ _ F5 N5 ⟨t1, rfl⟩
  · intro acc n' mC D C oC h tk F5 N5 hO hoff hne hlen hP
    refine comp_end F5 N5 hO hoff hne ?_
    intro h7 F7 N7 hD
    dsimp only
    walk_at "go"
    refine kso_max (ns := us.map fun u => (τ u).1) F7 N7 (News.isList N7 (.head _)) (ints_of (by simpa using hlen) fun i hi => ?_) (by simpa using h0) rfl ?_
    · have hi' : i < us.length := by simpa using hi
      obtain ⟨t, e⟩ := hP i hi'
      refine ⟨t, ?_⟩
      rw [e, getD_lt hi', getD_lt hi, List.getElem_map]
    intro h8 M t8 tk8 F8 N8 hM hM'
    walk_at "go"
    exact ret M _ _ _ (by assumption) (News.sub (by assumption) (by walk_at "led_sub")) hM hM'
end
end

section
section
variable {w : World} {p : Program} {loose : List Str} {mean : ExcName → Option Value} {mg mb : Str → Option Value} {dp un : Nat} {gd : Option (List Code)} {cn : Str} {cs : Scope} {a : Addr} {ccd : Value} {cl : List (Str × Addr)} {outer : List Env} {A₀ : Around} {base h₀ : Heap} {L : Addr} {m : Str → Option Value} {s : Shared} {Q E : Value → Shared → Prop}
theorem falling (ρ : Value → Int × Int) {l : Addr} {vs : List Value} {n : Nat} {rest : List (Addr × Obj)}
    (B : Below A₀ base outer h₀) (F : Fr h₀ L s.heap m) (X : (hd.heap_39 w.params).In h₀) (N : News h₀ L s.heap ((l, listOf vs.toArray n) :: rest)) (T : Top p loose mean mg mb h₀) (hk : cs.kind = .function)
    (hd : dp + 2 < recursionLimit) (hu : un + 16 < cLine)
    (hz : vs.length < 900) (hρ : ∀ u ∈ vs, L2s rest u (ρ u)) (hup : vs.Pairwise fun u v => (ρ u).2 < (ρ v).2)
    (ret : ∀ (D : Addr) (us : List Value) (c tk' : Nat) (h' : Heap), Fr h₀ L h' m → News h₀ L h' ((D, listOf us.toArray c) :: (l, listOf vs.toArray n) :: rest) → (∀ p ∈ (l, listOf vs.toArray n) :: rest, p.1 ≠ D) → us.Perm vs → Rises (fkey ρ) us → Q (.ref D) { s with heap := h', toks := tk' }) :
    wpAny (model PySem.Challenge.rw_dm5007_01.row.prog w) (ktrTop dp un gd cn cs L a ccd cl outer) (call (.ref 84) [.ref l]) Q E s := by
  revert X; k_fill; intro X
  refine wpAny_call ?_
  k_dflt cell_enter
  rename_i g' L' h' FG' F' N' B' X' T'
  obtain ⟨m1, F1, e1⟩ : ∃ m1, Fr g' L' h' m1 ∧ m1 "rows" = some (.ref l) := ⟨_, F', rfl⟩
  clear F'
  walk_at "go"
  refine list_copyK F1 N' (N'.isList (.head _)) ?_ (by rw [List.size_toArray, sizeLine_eq]; omega)
  intro D c1 h2 F2 N2 lD
  walk_at "go"
  rename_i O h4 l4 h5 F5 N5
  obtain ⟨l41, l42, l43⟩ := l4
  have hDl : l ≠ D := Nat.ne_of_lt (lD _ (.head _))
  have hDr : ∀ p ∈ rest, p.1 ≠ D := fun p hp => Nat.ne_of_lt (lD p (.tail _ hp))
  have hOr : ∀ p ∈ rest, p.1 ≠ O := fun p hp => Nat.ne_of_lt (allLt_mem l43 hp)
  have hOl : l ≠ O := Nat.ne_of_lt l42
  have hDO : D ≠ O := Nat.ne_of_lt l41
  refine whl_at (I := fun k s' => ∃ (h : Heap) (tk : Nat) (mm : Str → Option Value) (out left : List Value) (c d : Nat), s' = { s with heap := h, toks := tk } ∧ Fr g' L' h mm ∧ News g' L' h ((O, listOf out.toArray c) :: (D, listOf left.toArray d) :: (l, listOf vs.toArray n) :: rest) ∧ k = left.length ∧
    mm "left" = some (.ref D) ∧ mm "out" = some (.ref O) ∧ left.length ≤ vs.length ∧ out.length ≤ vs.length ∧ Rises (fkey ρ) out ∧ (∀ x ∈ out, ∀ y ∈ left, klt (fkey ρ x) (fkey ρ y) = true) ∧ (out ++ left).Perm vs ∧ left.Pairwise fun u v => (ρ u).2 < (ρ v).2) ?hE (n := vs.length) ?init ?turn
  case hE => with_unfolding_all passes_own
  case init => exact ⟨_, _, _, [], vs, 0, c1, rfl, F5, N5, rfl, by walk_at "loc", by walk_at "loc", Nat.le_refl _, Nat.zero_le _, .nil, (fun x hx => nomatch hx), List.Perm.refl _, hup⟩
  case turn =>
    rintro k s' ⟨h, tk, mm, out, left, c, d, rfl, F6, N6, rfl, f1, f2, z1, z2, i1, i2, i3, i4⟩
    walk_at "go"
    rename_i Z h7 F7 N7 l7
    cases left with
    | nil =>
      refine ne_lists_same (us := []) N7 (.tail _ (.tail _ (.head _))) (.head _) (by ktr_units) ?_
      walk_at "go"
      refine WhlIf.no rfl ?_
      walk_at "go"
      refine ret O out c _ _ (by assumption) (News.sub (by assumption) (by walk_at "led_sub")) (List.forall_mem_cons.mpr ⟨hOl, hOr⟩) (by rw [List.append_nil] at i3; exact i3) i1
    | cons x0 left0 =>
      generalize hleft : x0 :: left0 = left at *
      have hpos : 0 < left.length := by rw [← hleft]; simp
      refine ne_lists_len (vs := []) N7 (.tail _ (.tail _ (.head _))) (.head _) (show left.length ≠ 0 by omega) (by ktr_units) ?_
      walk_at "go"
      refine WhlIf.yes rfl ?_
      walk_at "go"
      refine get_at (us := left) (n := d) (rest := []) 0 (one_of N7 (.tail _ (.tail _ (.head _)))) rfl hpos (by omega) ?_
      walk_at "go"
      refine for_start ?_
      walk_at "go"
      rename_i h8 F8 N8
      refine iter_list (l := D) (its := left) (by assumption) N8 (News.isList N8 (.tail _ (.tail _ (.head _)))) ?_
      intro I o9 h9 F9 N9 it9 lI _
      have hmem : ∀ j, j < left.length → L2s rest (left.getD j .none) (ρ (left.getD j .none)) := fun j hj => hρ _ (i3.mem_iff.mp (List.mem_append_right _ (getD_mem' hj)))
      have hIO : O ≠ I := Nat.ne_of_lt (lI _ (.tail _ (.head _)))
      have hID : D ≠ I := Nat.ne_of_lt (lI _ (.tail _ (.tail _ (.head _))))
      have hIr : ∀ p ∈ (l, listOf vs.toArray n) :: rest, p.1 ≠ I := fun p hp => Nat.ne_of_lt (lI p (.tail _ (.tail _ (.tail _ hp))))
      refine for_ind (I := fun k s' => ∃ (h : Heap) (tk : Nat) (mm : Str → Option Value) (b : Nat) (oI : Obj), s' = { s with heap := h, toks := tk } ∧ Fr g' L' h mm ∧ News g' L' h ((I, oI) :: (O, listOf out.toArray c) :: (D, listOf left.toArray d) :: (l, listOf vs.toArray n) :: rest) ∧ ListIt oI D (left.length - k) ∧ k ≤ left.length ∧
        mm "left" = some (.ref D) ∧ mm "out" = some (.ref O) ∧ mm "best" = some (left.getD b .none) ∧ b < left.length ∧ b ≤ left.length - k ∧ ∀ j, j < left.length - k → kle (fkey ρ (left.getD b .none)) (fkey ρ (left.getD j .none))) ?hE2 (n := left.length) ?init2 ?turn2
      case hE2 => with_unfolding_all passes_own
      case init2 => exact ⟨_, _, _, 0, o9, rfl, F9, News.sub N9 (by walk_at "led_sub"), by rw [Nat.sub_self]; exact it9, Nat.le_refl _, by walk_at "loc", by walk_at "loc", by walk_at "loc", hpos, Nat.zero_le _, fun j hj => absurd hj (by omega)⟩
      case turn2 =>
        rintro k s' ⟨h, tk, mm, b, oI, rfl, F10, N10, it10, hk, f1, f2, f3, hb, hbk, hbest⟩
        have hI10 : ∀ p ∈ (O, listOf out.toArray c) :: (D, listOf left.toArray d) :: (l, listOf vs.toArray n) :: rest, p.1 ≠ I := List.forall_mem_cons.mpr ⟨hIO, List.forall_mem_cons.mpr ⟨hID, hIr⟩⟩
        have hls : h.IsList D left.toArray := N10.isList (.tail _ (.tail _ (.head _)))
        cases k with
        | zero =>
          refine next_list_end rfl F10 N10 hI10 it10 hls (by omega) ?_
          intro h12 F12 N12
          walk_at "go"
          refine getm_remove (by assumption) (.tail _ (.head _)) ?_
          walk_at "go"
          refine call_remove (l := D) (us := left) (n := d) (news := (O, listOf out.toArray c) :: (l, listOf vs.toArray n) :: rest) (j := b) (by assumption) (News.sub N12 (by walk_at "led_sub")) (List.forall_mem_cons.mpr ⟨hDO.symm, List.forall_mem_cons.mpr ⟨hDl, hDr⟩⟩) hb (by omega) rfl ?_ ?_
          · intro i hi
            have hi' : i < left.length := by omega
            refine apart_L2 (by ktr_units) ((hmem _ hi').more fun p hp => .tail _ (.tail _ (.tail _ hp))) ((hmem _ hb).more fun p hp => .tail _ (.tail _ (.tail _ hp))) ?_
            rw [getD_lt hi', getD_lt hb]
            exact up_ne i4 hi' hb (by omega)
          intro h13 d2 F13 N13
          walk_at "go"
          refine getm_append N13 (.tail _ (.head _)) ?_
          walk_at "go"
          refine append_hd (l := O) (us := out) (n := c) (rest := (D, listOf (left.eraseIdx b).toArray d2) :: (l, listOf vs.toArray n) :: rest) (by assumption) (News.sub N13 (by walk_at "led_sub")) (List.forall_mem_cons.mpr ⟨hDO, List.forall_mem_cons.mpr ⟨hOl, hOr⟩⟩) (by omega) ?_
          intro h14 F14 N14
          obtain ⟨j1, j2, j3, j4⟩ := fall_step i1 i2 i3 i4 hb (fun j hj => hbest j (by omega))
          have hlen : out.length + left.length = vs.length := by
            have := i3.length_eq
            rwa [List.length_append] at this
          walk_at "go"
          refine ⟨left.length - 1, by omega, _, _, _, out ++ [left.getD b .none], left.eraseIdx b, _, _, rfl, by assumption, N14, by rw [List.length_eraseIdx, if_pos hb], by walk_at "loc", by walk_at "loc", by rw [List.length_eraseIdx, if_pos hb]; omega, by rw [List.length_append]; simp; omega, j1, j2, j3, j4⟩
        | succ k =>
          refine next_list F10 N10 hI10 it10 hls (by omega) ?_
          intro oI2 h12 F12 N12 it12
          obtain ⟨ai, ni, ti1, ti2, ei, mi⟩ := hmem (left.length - (k + 1)) (by omega)
          obtain ⟨ab, nb, tb1, tb2, eb, mb⟩ := hmem b hb
          rw [ei]
          rw [eb] at f3
          walk_at "go"
          refine lst2_0 (by assumption) (.tail _ (.tail _ (.tail _ (.tail _ mi)))) ?_
          walk_at "go"
          refine lst2_0 (by assumption) (.tail _ (.tail _ (.tail _ (.tail _ mb)))) ?_
          walk_at "go"
          · rename_i hlt tkx hB F13 N13
            refine ⟨k, by omega, _, _, _, left.length - (k + 1), oI2, rfl, F13, N13, by rw [show left.length - k = left.length - (k + 1) + 1 by omega]; exact it12, by omega, by walk_at "loc", by walk_at "loc", by rw [ei]; walk_at "loc", by omega, by omega, fun j hj => ?_⟩
            by_cases hj' : j < left.length - (k + 1)
            · refine kle_trans ?_ (hbest j hj')
              unfold kle fkey
              exact .inl (Int.neg_lt_neg hlt)
            · obtain rfl : j = left.length - (k + 1) := by omega
              exact kle_refl _
          · rename_i hB F13 N13 tkA hnlt
            refine ⟨k, by omega, _, _, _, b, oI2, rfl, F13, N13, by rw [show left.length - k = left.length - (k + 1) + 1 by omega]; exact it12, by omega, by walk_at "loc", by walk_at "loc", by rw [eb]; walk_at "loc", by omega, by omega, fun j hj => ?_⟩
            by_cases hj' : j < left.length - (k + 1)
            · exact hbest j hj'
            · obtain rfl : j = left.length - (k + 1) := by omega
              have hkk : (ρ (left.getD b .none)).2 ≤ (ρ (left.getD (left.length - (k + 1)) .none)).2 := by
                by_cases hbj : b = left.length - (k + 1)
                · rw [hbj]; exact Int.le_refl _
                · have := List.pairwise_iff_getElem.mp i4 b (left.length - (k + 1)) hb (by omega) (by omega)
                  rw [getD_lt hb, getD_lt (by omega)]
                  exact Int.le_of_lt this
              unfold kle fkey
              dsimp only
              omega
end
end

section
local macro_rules | `(tactic| walk_at "loadName") => `(tactic| (k_here; k_dflt (refine' loadX_L ?k1 ?k2 ?_; (case k1 => k_asm); (case k2 => walk_at "loc"); k_whole)))
theorem seeds (w : World) : ∃ (l : List Value), (hd.heap_39 w.params).lookup 63 = some ⟨.type "tuple", none, .seq l.toArray 0, #[]⟩ ∧ l.length = 7 ∧ ∀ v ∈ l, ∃ x t, v = Value.int x t := by
  refine ⟨[.int 5 257, .int 3 258, .int 7 259, .int 2 260, .int 9 261, .int 6 262, .int 4 263], rfl, rfl, ?_⟩
  intro v hv
  simp only [List.mem_cons, List.mem_nil_iff, or_false] at hv
  rcases hv with rfl | rfl | rfl | rfl | rfl | rfl | rfl <;> exact ⟨_, _, rfl⟩
section
variable {w : World} {p : Program} {loose : List Str} {mean : ExcName → Option Value} {mg mb : Str → Option Value} {dp un : Nat} {gd : Option (List Code)} {cn : Str} {cs : Scope} {a : Addr} {ccd : Value} {cl : List (Str × Addr)} {outer : List Env} {A₀ : Around} {base h₀ : Heap} {L : Addr} {m : Str → Option Value} {s : Shared} {Q E : Value → Shared → Prop}
theorem rowsOf {a0 : Addr} {vs : List Value} {ns : List Int} {rest : List (Addr × Obj)}
    (B : Below A₀ base outer h₀) (F : Fr h₀ L s.heap m) (X : (hd.heap_39 w.params).In h₀) (N : News h₀ L s.heap rest) (T : Top p loose mean mg mb h₀) (hk : cs.kind = .function)
    (hd : dp + 2 < recursionLimit) (hu : un + 16 < cLine)
    (hS : h₀.IsList a0 vs.toArray) (hI : IntsAre vs ns) (hz : ns.length ≤ 63)
    (ret : ∀ (T D : Addr) (hands : Nat) (us : List Value) (ts : List Int) (c tk' : Nat) (t : Tok) (h' : Heap) (nn : List (Addr × Obj)), Fr h₀ L h' m → News h₀ L h' ((T, prO (.int hands t) (.ref D)) :: (D, listOf us.toArray c) :: nn) → T ≠ D → (∀ p ∈ nn, p.1 ≠ T ∧ p.1 ≠ D) → (∀ p ∈ rest, p ∈ nn) →
      us.length = ts.length → (∀ i, i < ts.length → L2s nn (us.getD i .none) (ts.getD i 0, (i : Int))) → (∀ x ∈ ts, 1 ≤ x) → (hands = 2 ∧ 4 ≤ ts.length ∧ ts.length ≤ 7 ∨ hands = 3 ∧ 3 ≤ ts.length ∧ ts.length ≤ 6) → Q (.ref T) { s with heap := h', toks := tk' }) :
    wpAny (model PySem.Challenge.rw_dm5007_01.row.prog w) (ktrTop dp un gd cn cs L a ccd cl outer) (call (.ref 77) [.ref a0]) Q E s := by
  revert X; k_fill; intro X
  refine wpAny_call ?_
  k_dflt cell_enter
  rename_i g' L' h' FG' F' N' B' X' T'
  obtain ⟨m1, F1, e1⟩ : ∃ m1, Fr g' L' h' m1 ∧ m1 "script" = some (.ref a0) := ⟨_, F', rfl⟩
  clear F'
  have hSg : g'.IsList a0 vs.toArray := by
    obtain ⟨o, ho, r⟩ := hS
    exact ⟨o, FG'.keep _ _ ho, r⟩
  walk_at "go"
  have hLs : ∀ h m', Fr g' L' h m' → h.IsList a0 vs.toArray := fun h m' F => by
    obtain ⟨o, ho, r⟩ := hSg
    exact ⟨o, F.keep _ _ ho, r⟩
  have hvl := hI.length
  refine sum_at F1 N' rfl (hLs _ _ F1) hI ?_
  intro h2 tk2 t2 F2 N2
  obtain ⟨hn, ehn, hn23⟩ : ∃ hn : Nat, 2 + ns.sum.fmod 2 = (hn : Int) ∧ (hn = 2 ∨ hn = 3) := by
    have h1 := Int.fmod_eq_emod_of_nonneg ns.sum (b := 2) (by decide)
    exact ⟨(2 + ns.sum.fmod 2).toNat, by omega, by omega⟩
  walk_at "go"
  rename_i h3 F3 N3
  rw [ehn] at F3
  obtain ⟨m3, t3, F3, f31, f32⟩ : ∃ m3 t3, Fr g' L' h3 m3 ∧ m3 "script" = some (.ref a0) ∧ m3 "hands" = some (.int hn t3) := ⟨_, _, F3, by walk_at "loc", by walk_at "loc"⟩
  refine len_lst (hLs _ _ F3) (by omega) ?_
  intro t4 tk4
  obtain ⟨cn, ecn, hcn⟩ : ∃ cn : Nat, 3 + ((vs.length : Int)).fmod 4 + 3 - (hn : Int) = (cn : Int) ∧ (hn = 2 ∧ 4 ≤ cn ∧ cn ≤ 7 ∨ hn = 3 ∧ 3 ≤ cn ∧ cn ≤ 6) := by
    have h1 := Int.fmod_eq_emod_of_nonneg (vs.length : Int) (b := 4) (by decide)
    exact ⟨(3 + ((vs.length : Int)).fmod 4 + 3 - (hn : Int)).toNat, by omega, by omega⟩
  walk_at "go"
  rename_i h4 F4 N4
  rw [ecn] at F4
  obtain ⟨m4, t5, F4, f41, f42, f43⟩ : ∃ m4 t4, Fr g' L' h4 m4 ∧ m4 "script" = some (.ref a0) ∧ m4 "hands" = some (.int hn t3) ∧ m4 "count" = some (.int cn t4) := ⟨_, _, F4, by walk_at "loc", by walk_at "loc", by walk_at "loc"⟩
  refine sum_at F4 N4 rfl (hLs _ _ F4) hI ?_
  intro h5 tk5 t6 F5 N5
  walk_at "go"
  rename_i h6 tkx R h6b lR h7 F7 N7
  obtain ⟨m7, t7, sm, F7, f71, f72, f73, f74, f75⟩ : ∃ m7 t4 sm, Fr g' L' h7 m7 ∧ m7 "script" = some (.ref a0) ∧ m7 "hands" = some (.int hn t3) ∧ m7 "count" = some (.int cn t4) ∧ m7 "small" = some (.bool sm) ∧ m7 "rows" = some (.ref R) := ⟨_, _, _, F7, by walk_at "loc", by walk_at "loc", by walk_at "loc", by walk_at "loc", by walk_at "loc"⟩
  have hsm : Builtin.Range.small 0 cn 1 = true := by
    obtain rfl | rfl | rfl | rfl | rfl : cn = 3 ∨ cn = 4 ∨ cn = 5 ∨ cn = 6 ∨ cn = 7 := by omega
    all_goals decide
  refine for_start ?_
  walk_at "go"
  refine range1 (by assumption) (by assumption) ?_
  intro r h8 tk8 t8 t9 F8 N8 lr
  walk_at "go"
  refine iter_range F8 N8 (.head _) hsm ?_
  intro I h9 F9 N9 lI
  rw [rangeSize0] at N9
  have hRI : R ≠ I := Nat.ne_of_lt (lI _ (.tail _ (.head _)))
  refine for_ind (I := fun k s' => ∃ (h : Heap) (tk : Nat) (mm : Str → Option Value) (us : List Value) (ts : List Int) (nn : List (Addr × Obj)) (c : Nat), s' = { s with heap := h, toks := tk } ∧ Fr g' L' h mm ∧ News g' L' h ((I, rangeIt ((cn:Int) - k) k 1) :: (R, listOf us.toArray c) :: nn) ∧ k ≤ cn ∧
      (∀ p ∈ rest, p ∈ nn) ∧ (∀ p ∈ nn, p.1 ≠ R ∧ p.1 ≠ I) ∧ mm "script" = some (.ref a0) ∧ mm "hands" = some (.int hn t3) ∧ mm "count" = some (.int cn t7) ∧ mm "small" = some (.bool sm) ∧ mm "rows" = some (.ref R) ∧
      us.length = cn - k ∧ ts.length = cn - k ∧ (∀ i, i < cn - k → L2s nn (us.getD i .none) (ts.getD i 0, (i : Int))) ∧ ∀ x ∈ ts, 1 ≤ x) ?hE (n := cn) ?init ?turn
  case hE => with_unfolding_all passes_own
  case init =>
    refine ⟨_, _, _, [], [], rest, 0, rfl, F9, ?_, Nat.le_refl _, fun _ h => h, fun p hp => ⟨Nat.ne_of_lt (lR p hp), Nat.ne_of_lt (lI _ (.tail _ (.tail _ hp)))⟩, f71, f72, f73, f74, f75, by simp, by simp, fun i hi => absurd hi (by omega), fun x hx => nomatch hx⟩
    rw [Int.sub_self]
    exact News.sub N9 (by walk_at "led_sub")
  case turn =>
    rintro k s' ⟨h, tk, mm, us, ts, nn, c, rfl, F11, N11, hk, hsub, hoff, f1, f2, f3, f4, f5, hlu, hlt, hL, hpos⟩
    have hI11 : ∀ x, ∀ p ∈ (R, x) :: nn, p.1 ≠ I := fun x => List.forall_mem_cons.mpr ⟨hRI, fun p hp => (hoff p hp).2⟩
    cases k with
    | zero =>
      refine next_range_end rfl F11 N11 (hI11 _) (by omega) ?_
      intro h12 F12 N12
      walk_at "go"
      rename_i T h13 F13 N13 l13 kF kN Tc kX
      refine ret T R hn us ts c _ _ _ nn kF kN (Nat.ne_of_gt l13.1) (fun p hp => ⟨Nat.ne_of_lt (allLt_mem l13.2 hp), (hoff p hp).1⟩) hsub (by omega) (fun i hi => hL i (by omega)) hpos ?_
      omega
    | succ k =>
      refine next_range F11 N11 (hI11 _) (by omega) ?_
      intro t12 h12 tk12 F12 N12
      have e6 : ((cn:Int) - ((k + 1 : Nat) : Int)) + 1 = (cn:Int) - (k : Nat) := by omega
      have e7 : (((k + 1 : Nat) : Int)) - 1 = (k : Nat) := by omega
      have e8 : ((cn:Int) - ((k + 1 : Nat) : Int)) = ((cn - (k + 1) : Nat) : Int) := by omega
      rw [e6, e7] at N12
      rw [e8]
      walk_at "go"
      rename_i h13 F13 N13
      refine slice_ints_any F13 N13 (hLs _ _ F13) hI (IsPart.int _ _) IsPart.none (IsPart.int _ _) (by intro e; injection e with e; omega) hz ?_
      intro D h14 ws ms hms hws F14 N14 l14
      walk_at "go"
      refine sum_at F14 N14 rfl (News.isList N14 (.head _)) hms ?_
      intro h15 tk15 t15 F15 N15
      walk_at "go"
      obtain ⟨sl, hsl, hsl7, hsli⟩ := seeds w
      obtain ⟨sx, stk, esx⟩ := hsli (sl.getD (cn - (k + 1)) .none) (getD_mem' (by omega))
      refine topTup_K (F := F15) (X₀ := X') hsl (by omega) (by omega) (j := cn - (k + 1)) ?_ (v := .int sx stk) ?_ ?_
      · unfold seqIndex?
        simp
        omega
      · rw [← esx, getD_lt (by omega)]
        simp [show cn - (k + 1) < sl.length by omega]
      obtain ⟨xx, exx, hxx⟩ : ∃ xx : Int, (if ms.sum + sx < 0 then -(ms.sum + sx) else ms.sum + sx) = xx ∧ 0 ≤ xx := ⟨_, rfl, by split <;> omega⟩
      walk_at "go"
      rename_i tx1 _ h16 F16 N16
      rw [exx] at F16
      refine getm_append N16 (.tail _ (.tail _ (.head _))) ?_
      have hlt16 : ∀ p ∈ (D, listOf ws.toArray 0) :: (I, rangeIt ((cn:Int) - k) k 1) :: (R, listOf us.toArray c) :: nn, p.1 < h16.objs.size := fun p hp => Heap.lt_size (N16 p hp).1
      have hfin : ∀ (h17 : Heap) (tk17 : Nat) (yy : Int) (ty : Tok) (mm' : Str → Option Value) (D8 : Addr) (tl : Obj), tl = listOf [Value.int yy ty, .int ((cn - (k + 1) : Nat) : Int) t12].toArray 0 → (∀ p ∈ (D, listOf ws.toArray 0) :: (I, rangeIt ((cn:Int) - k) k 1) :: (R, listOf us.toArray c) :: nn, p.1 < D8) → 1 ≤ yy → Fr g' L' h17 mm' →
          News g' L' h17 ((R, listOf (us ++ [Value.ref D8]).toArray (c + 1)) :: (D8, tl) :: (I, rangeIt ((cn:Int) - k) k 1) :: nn) → mm' "script" = some (.ref a0) → mm' "hands" = some (.int hn t3) → mm' "count" = some (.int cn t7) → mm' "small" = some (.bool sm) → mm' "rows" = some (.ref R) →
          ∃ j, j < k + 1 ∧ ∃ (h : Heap) (tk : Nat) (mm : Str → Option Value) (us : List Value) (ts : List Int) (nn : List (Addr × Obj)) (c : Nat), ({ s with heap := h17, toks := tk17 } : Shared) = { s with heap := h, toks := tk } ∧ Fr g' L' h mm ∧ News g' L' h ((I, rangeIt ((cn:Int) - j) j 1) :: (R, listOf us.toArray c) :: nn) ∧ j ≤ cn ∧
          (∀ p ∈ rest, p ∈ nn) ∧ (∀ p ∈ nn, p.1 ≠ R ∧ p.1 ≠ I) ∧ mm "script" = some (.ref a0) ∧ mm "hands" = some (.int hn t3) ∧ mm "count" = some (.int cn t7) ∧ mm "small" = some (.bool sm) ∧ mm "rows" = some (.ref R) ∧
          us.length = cn - j ∧ ts.length = cn - j ∧ (∀ i, i < cn - j → L2s nn (us.getD i .none) (ts.getD i 0, (i : Int))) ∧ ∀ x ∈ ts, 1 ≤ x := by
        intro h17 tk17 yy ty mm' D8 tl etl hlt8 hyy F17 N17 q1 q2 q3 q4 q5
        subst etl
        refine ⟨k, by omega, h17, tk17, mm', us ++ [Value.ref D8], ts ++ [yy], (D8, listOf [Value.int yy ty, .int ((cn - (k + 1) : Nat) : Int) t12].toArray 0) :: nn, c + 1, rfl, F17, News.sub N17 (by walk_at "led_sub"), by omega, fun p hp => .tail _ (hsub p hp), List.forall_mem_cons.mpr ⟨⟨Nat.ne_of_gt (hlt8 _ (.tail _ (.tail _ (.head _)))), Nat.ne_of_gt (hlt8 _ (.tail _ (.head _)))⟩, hoff⟩, q1, q2, q3, q4, q5, by rw [List.length_append]; simp; omega, by rw [List.length_append]; simp; omega, ?_, ?_⟩
        · intro i hi
          by_cases hc : i < cn - (k + 1)
          · have e1 : (us ++ [Value.ref D8]).getD i .none = us.getD i .none := by
              rw [getD_lt (by rw [List.length_append]; omega), getD_lt (by omega), List.getElem_append_left]
            have e2 : (ts ++ [yy]).getD i 0 = ts.getD i 0 := by
              rw [getD_lt (by rw [List.length_append]; omega), getD_lt (by omega), List.getElem_append_left]
            rw [e1, e2]
            exact (hL i hc).tail
          · obtain rfl : i = cn - (k + 1) := by omega
            have e1 : (us ++ [Value.ref D8]).getD (cn - (k + 1)) .none = .ref D8 := by rw [← hlu]; simp
            have e2 : (ts ++ [yy]).getD (cn - (k + 1)) 0 = yy := by rw [← hlt]; simp
            rw [e1, e2]
            exact ⟨D8, _, _, _, rfl, .head _⟩
        · intro x hx
          rcases List.mem_append.mp hx with hx | hx
          · exact hpos x hx
          · rw [List.mem_singleton.mp hx]; exact hyy
      have hoffR : ∀ tl, ∀ p ∈ (h16.objs.size, tl) :: (D, listOf ws.toArray 0) :: (I, rangeIt ((cn:Int) - k) k 1) :: nn, p.1 ≠ R := fun tl => List.forall_mem_cons.mpr ⟨Nat.ne_of_gt (hlt16 _ (.tail _ (.tail _ (.head _)))), List.forall_mem_cons.mpr ⟨Nat.ne_of_gt (l14 _ (.tail _ (.head _))), List.forall_mem_cons.mpr ⟨hRI.symm, fun p hp => (hoff p hp).1⟩⟩⟩
      have h9 := Int.fmod_eq_emod_of_nonneg xx (b := 9) (by decide)
      cases sm with
      | true =>
        walk_at "go"
        rename_i h17 F17 N17
        refine append_hd (l := R) (us := us) (n := c) (v := .ref h16.objs.size) (by assumption) (News.sub N17 (by walk_at "led_sub")) (hoffR _) (by omega) ?_
        intro h18 F18 N18
        walk_at "go"
        exact hfin _ _ (xx.fmod 9 + 1) _ _ h16.objs.size _ rfl hlt16 (by omega) (by assumption) (News.sub N18 (by walk_at "led_sub")) (by walk_at "loc") (by walk_at "loc") (by walk_at "loc") (by walk_at "loc") (by walk_at "loc")
      | false =>
        walk_at "go"
        rename_i h17 F17 N17
        refine append_hd (l := R) (us := us) (n := c) (v := .ref h16.objs.size) (by assumption) (News.sub N17 (by walk_at "led_sub")) (hoffR _) (by omega) ?_
        intro h18 F18 N18
        walk_at "go"
        exact hfin _ _ (xx + 1) _ _ h16.objs.size _ rfl hlt16 (by omega) (by assumption) (News.sub N18 (by walk_at "led_sub")) (by walk_at "loc") (by walk_at "loc") (by walk_at "loc") (by walk_at "loc") (by walk_at "loc")
end
end

section
local macro_rules | `(tactic| walk_at "loadName") => `(tactic| (k_here; k_dflt (refine' loadX_L ?k1 ?k2 ?_; (case k1 => k_asm); (case k2 => walk_at "loc"); k_whole)))
local macro_rules | `(tactic| walk_at "go2") => `(tactic| repeat' (first | (k_unfold; (try dsimp only)) | ((fail_if_success (with_reducible show wpAny _ _ (eval (PySem.Expr.Call _ _ _ _) _) _ _ _)); walk_at "stop"; first | walk1 | (dsimp only; walk1) | (leave1; walk_say "STEP leave1"; (try dsimp only)) | (dsimp only [WEnd, NextIs]))))
section
variable {w : World} {p : Program} {loose : List Str} {mean : ExcName → Option Value} {mg mb : Str → Option Value} {dp un : Nat} {gd : Option (List Code)} {cn : Str} {cs : Scope} {a : Addr} {ccd : Value} {cl : List (Str × Addr)} {outer : List Env} {A₀ : Around} {base h₀ : Heap} {L : Addr} {m : Str → Option Value} {s : Shared} {Q E : Value → Shared → Prop}
theorem largest (ρ : Value → Int × Int) {l I : Addr} {vs : List Value} {n q : Nat} {o : Obj} {rest : List (Addr × Obj)} {u : Tok}
    (B : Below A₀ base [] h₀) (F : Fr h₀ L s.heap m) (X : (hd.heap_39 w.params).In h₀) (XB : (hd.heap_39 w.params).In base) (TB : Top p loose mean mg mb base) (N : News h₀ L s.heap ((I, o) :: (l, listOf vs.toArray n) :: rest)) (hI : ∀ p ∈ (l, listOf vs.toArray n) :: rest, p.1 ≠ I) (T : Top p loose mean mg mb h₀) (hk : cs.kind = .function)
    (hd : dp + 5 < recursionLimit) (hu : un + 40 < cLine)
    (it : ListIt o l 0) (hq : 2 ≤ q) (hq1 : q ≤ vs.length) (hq2 : vs.length ≤ q + 1)
    (hz : vs.length < 60) (hρ : ∀ u ∈ vs, L2s rest u (ρ u)) (hup : vs.Pairwise fun u v => (ρ u).2 < (ρ v).2)
    (ret : ∀ (D : Addr) (us zs : List Value) (c tk' : Nat) (h' : Heap), Fr h₀ L h' m → News h₀ L h' ((D, listOf us.toArray c) :: (l, listOf vs.toArray n) :: rest) → (∀ p ∈ (l, listOf vs.toArray n) :: rest, p.1 ≠ D) → (us ++ zs).Perm vs → Rises (fkey ρ) (us ++ zs) → us.length = q → Q (.ref D) { s with heap := h', toks := tk' }) :
    wpAny (model PySem.Challenge.rw_dm5007_01.row.prog w) (ktrTop dp un gd cn cs L a ccd [] []) (call (.ref 62) [.int q u, .ref I] [(Str.ofString "key", .ref 70)]) Q E s := by
  revert X XB; k_fill; intro X XB
  refine wpAny_call ?_
  k_dflt (refine' code_defSC B F X N T ?kA ?k6 ?k7 ?k8 ?k9 ?kB ?kD ?_ ?c1 ?c2 ?c3 ?c4; (case c1 => assumption); (case kA => exact rfl); (case k6 => k_is); (case k7 => k_is); (case k8 => ktr_room); (case k9 => first | exact BindsTo.of_eq rfl | exact binds_K (X.keeps F.keep) rfl (by k_is) rfl rfl rfl); (case kB => exact rfl); (case kD => decide +kernel); (case c2 => exact rfl); (case c3 => exact rfl); (case c4 => exact rfl); k_whole; intro g' L' h' tk' cells' FG' F' N' Y' B' X' T' l1; (try k_lt l1); k_cells Y'; (try simp only [List.cons_append, List.nil_append] at N'); (try dsimp only); (try k_lift B'); (try k_fold))
  rename_i oK dK
  obtain ⟨m1, F1, e1, e2⟩ : ∃ m1, Fr g' L' h' m1 ∧ m1 "n" = some (.int q u) ∧ m1 "iterable" = some (.ref I) := ⟨_, F', rfl, rfl⟩
  have dK' : oK.data = .cell (some (.ref 70)) := dK
  clear F' dK
  obtain ⟨l11, l12, l13⟩ := l1
  walk_at "go"
  · exfalso
    omega
  refine wpAny_Try_except ?_
  walk_at "go"
  refine len_no ⟨o, (N' _ (.tail _ (.head _))).1, it.1⟩ rfl ?_
  intro h2 tk2 e hx
  refine' caught_two (T1 := "TypeError") (T2 := "AttributeError") (c2 := false) B' F1 N' hx XB TB ?a1 ?a2 ?a3 ?b1 ?b2 ?b3 ?d1 ?d2 ?d3 ?d4 ?d5 ?d6 ?_ ?f1 ?f2 ?f3 ?f4 ?f5 ?f6
  case a1 => k_is
  case b1 => k_is
  case a2 => decide +kernel
  case b2 => decide +kernel
  case a3 => decide
  case b3 => decide
  case d1 => exact isSubtype_of_subB (by decide +kernel)
  case d2 => exact isSubtype_of_subB (by decide +kernel)
  case d3 => exact isSubtype_of_subB (by decide +kernel)
  case d4 => exact isSubtype_of_subB (by decide +kernel)
  case d5 => exact isSubtype_of_subB (by decide +kernel)
  case d6 => exact isSubtype_of_subB (by decide +kernel)
  case f1 => rfl
  case f2 => rfl
  case f3 => rfl
  case f4 => decide
  case f5 => decide
  case f6 => with_unfolding_all passes_own
  intro h3 g3 KT F3 N3 B3 X3 T3
  clear B' X' T' F1 N' hx
  walk_at "go"
  refine call_iter_it (N3 _ (.tail _ (.head _))).1 it ?_
  walk_at "go"
  rename_i h4 F4 N4
  refine' listcomp_assign (cl := [(Str.ofString "key", L' + 1)]) ?c1 ?c2 ?c3 ?c4 ?c5 ?_ ?c7
  case c1 => rfl
  case c2 => rfl
  case c3 => decide
  case c4 => rfl
  case c5 => decide
  case c7 => (intro x; with_unfolding_all rfl)
  walk_at "go"
  have hsmR : Builtin.Range.small 0 (-(q : Int)) (-1) = true := small_down (by decide) (by decide) (by omega) (by omega)
  refine range3 F4 N4 (by decide) (PyProof.noPylong_small (by decide)) ?_
  intro r h5 F5 N5 lr
  walk_at "go"
  refine zip_start F5 N5 hsmR (.head _) (.tail _ (.tail _ (.head _))) it ?_
  intro z TI TO i1 h6 F6 N6 DZ apZ
  refine zip_self (N6 _ (.head _)).1 ?_
  have apB : Ap5 ((L' + 1, oK) :: (l, listOf vs.toArray n) :: rest) z TI TO i1 I := by
    intro p hp
    rcases List.mem_cons.mp hp with rfl | hp
    · have h5 := apZ _ (.tail _ (.head _))
      exact ⟨h5.1, h5.2.1, h5.2.2.1, h5.2.2.2, Nat.ne_of_gt (Nat.lt_succ_of_lt l11)⟩
    · have h5 := apZ _ (.tail _ (.tail _ (.tail _ hp)))
      exact ⟨h5.1, h5.2.1, h5.2.2.1, h5.2.2.2, hI p hp⟩
  rw [rangeSizeDown] at N6
  refine ⟨g3, _, _, fun k acc nw => k ≤ q ∧ ∃ (oI : Obj) (a b : Value) (nn : List (Addr × Obj)), nw = (z, zipO .none TI TO) :: (TI, prO (.ref i1) (.ref I)) :: (TO, prO a b) :: (i1, rangeIt (-((q - k : Nat) : Int)) k (-1)) :: (I, oI) :: nn ∧ (∀ p ∈ (L' + 1, oK) :: (l, listOf vs.toArray n) :: rest, p ∈ nn) ∧ Ap5 nn z TI TO i1 I ∧ ListIt oI l (q - k) ∧
      acc.length = q - k ∧ ∀ i < q - k, R3s nn (acc.getD i .none) ((ρ (vs.getD i .none)).1, -(i : Int)) (vs.getD i .none),
    fun acc nw => ∃ (oI : Obj) (nn : List (Addr × Obj)), nw = (I, oI) :: nn ∧ (∀ p ∈ (L' + 1, oK) :: (l, listOf vs.toArray n) :: rest, p ∈ nn) ∧ (∀ p ∈ nn, p.1 ≠ I) ∧ ListIt oI l q ∧ acc.length = q ∧ ∀ i < q, R3s nn (acc.getD i .none) ((ρ (vs.getD i .none)).1, -(i : Int)) (vs.getD i .none), q, F6,
    News.sub (news' := (z, zipO .none TI TO) :: (TI, prO (.ref i1) (.ref I)) :: (TO, prO .none .none) :: (i1, rangeIt 0 q (-1)) :: (I, o) :: (L' + 1, oK) :: (l, listOf vs.toArray n) :: rest) N6 (by walk_at "led_sub"), ?kJ, ?kS, ?kT, ?kF⟩
  case kJ => exact ⟨Nat.le_refl _, o, .none, .none, _, by rw [Nat.sub_self]; rfl, fun _ h => h, apB, by rw [Nat.sub_self]; exact it, by simp, fun i hi => absurd hi (by omega)⟩
  case kS => exact fun s' Q' E' N hq => zip_self (N _ (.head _)).1 hq
  case kT =>
    rintro D C hDC hlt k acc nw n₂ mC s' ⟨hk, oI, va, vb, nn, rfl, hsub, hap, itI, hlen, hP⟩ ⟨h7, tk7, oC, rfl, F7, N7, hO7, hoff, hne⟩
    change News g3 L' h7 ((D, listOf acc.toArray n₂) :: (C, oC) :: (z, zipO .none TI TO) :: (TI, prO (.ref i1) (.ref I)) :: (TO, prO va vb) :: (i1, rangeIt (-((q - k : Nat) : Int)) k (-1)) :: (I, oI) :: nn) at N7
    change Off _ D C at hoff
    change D ≠ C at hne
    have oz := hoff (z, _) (.head _)
    have oTI := hoff (TI, _) (.tail _ (.head _))
    have oTO := hoff (TO, _) (.tail _ (.tail _ (.head _)))
    have oi1 := hoff (i1, _) (.tail _ (.tail _ (.tail _ (.head _))))
    have oII := hoff (I, _) (.tail _ (.tail _ (.tail _ (.tail _ (.head _)))))
    have onn : Off nn D C := fun p hp => hoff p (.tail _ (.tail _ (.tail _ (.tail _ (.tail _ hp)))))
    have apD : Ap5 ((D, listOf acc.toArray n₂) :: (C, oC) :: nn) z TI TO i1 I := by
      intro p hp
      rcases List.mem_cons.mp hp with rfl | hp
      · exact ⟨oz.1.symm, oTI.1.symm, oTO.1.symm, oi1.1.symm, oII.1.symm⟩
      · rcases List.mem_cons.mp hp with rfl | hp
        · exact ⟨oz.2.symm, oTI.2.symm, oTO.2.symm, oi1.2.symm, oII.2.symm⟩
        · exact hap p hp
    have N7' : News g3 L' h7 ((z, zipO .none TI TO) :: (TI, prO (.ref i1) (.ref I)) :: (TO, prO va vb) :: (i1, rangeIt (-((q - k : Nat) : Int)) k (-1)) :: (I, oI) :: (D, listOf acc.toArray n₂) :: (C, oC) :: nn) := News.sub N7 (by walk_at "led_sub")
    cases k with
    | zero =>
      refine zip_fin rfl F7 N7' DZ apD (by decide) ?_
      intro h8 F8 N8
      refine ⟨(I, oI) :: nn, mC, ⟨h8, _, oC, rfl, F8, News.sub N8 (by walk_at "led_sub"), hO7, fun p hp => ?_, hne⟩, oI, nn, rfl, hsub, fun p hp => (hap p hp).2.2.2.2, itI, by omega, fun i hi => hP i (by omega)⟩
      rcases List.mem_cons.mp hp with rfl | hp
      · exact oII
      · exact onn p hp
    | succ k =>
      obtain ⟨ar, nr, tr1, tr2, er, mr⟩ := hρ (vs.getD (q - (k + 1)) .none) (getD_mem' (by omega))
      refine zip_next F7 N7' DZ apD itI (.tail _ (.tail _ (hsub _ (.tail _ (.head _))))) (by omega) (by omega) ?_
      intro T t h8 tk8 oI2 F8 N8 it8 hT hTlt
      rw [er] at N8
      dsimp only
      have e6 : (-((q - (k + 1) : Nat) : Int)) + -1 = -((q - k : Nat) : Int) := by omega
      have e7 : (((k + 1 : Nat) : Int)) - 1 = (k : Nat) := by omega
      rw [e6, e7] at N8
      refine zip_let_led F8 (news := (T, prO (.int (-((q - (k + 1) : Nat) : Int)) t) (.ref ar)) :: (TI, prO (.ref i1) (.ref I)) :: (TO, prO (.int (-((q - (k + 1) : Nat) : Int)) t) (.ref ar)) :: (i1, rangeIt (-((q - k : Nat) : Int)) k (-1)) :: (I, oI2) :: (D, listOf acc.toArray n₂) :: (C, oC) :: nn) (News.sub N8 (by walk_at "led_sub")) ?_ ?_
      · refine List.forall_mem_cons.mpr ⟨hT.1, List.forall_mem_cons.mpr ⟨DZ.zTI.symm, List.forall_mem_cons.mpr ⟨DZ.zTO.symm, List.forall_mem_cons.mpr ⟨DZ.z1.symm, List.forall_mem_cons.mpr ⟨DZ.z2.symm, fun p hp => (apD p hp).1⟩⟩⟩⟩⟩
      intro h9 F9 N9
      have hTD := hTlt _ (.head _)
      have hTC := hTlt _ (.tail _ (.head _))
      have offC : ∀ p ∈ (z, zipO .none TI TO) :: (T, prO (.int (-((q - (k + 1) : Nat) : Int)) t) (.ref ar)) :: (TI, prO (.ref i1) (.ref I)) :: (TO, prO (.int (-((q - (k + 1) : Nat) : Int)) t) (.ref ar)) :: (i1, rangeIt (-((q - k : Nat) : Int)) k (-1)) :: (I, oI2) :: nn, p.1 ≠ D ∧ p.1 ≠ C := by
        refine List.forall_mem_cons.mpr ⟨oz, List.forall_mem_cons.mpr ⟨⟨Nat.ne_of_gt hTD, Nat.ne_of_gt hTC⟩, List.forall_mem_cons.mpr ⟨oTI, List.forall_mem_cons.mpr ⟨oTO, List.forall_mem_cons.mpr ⟨oi1, List.forall_mem_cons.mpr ⟨oII, onn⟩⟩⟩⟩⟩⟩
      refine comp_unpack2 (C := C) (x := (D, listOf acc.toArray n₂)) (news := (z, zipO .none TI TO) :: (T, prO (.int (-((q - (k + 1) : Nat) : Int)) t) (.ref ar)) :: (TI, prO (.ref i1) (.ref I)) :: (TO, prO (.int (-((q - (k + 1) : Nat) : Int)) t) (.ref ar)) :: (i1, rangeIt (-((q - k : Nat) : Int)) k (-1)) :: (I, oI2) :: nn) F9 (News.sub N9 (by walk_at "led_sub")) hO7 hne (fun p hp => (offC p hp).2) (.tail _ (.head _)) rfl rfl rfl rfl ?_
      intro h10 tk10 oC10 F10 N10 hO10
      have l8 : ∀ {p : Addr × Obj}, p ∈ nn → p ∈ (D, listOf acc.toArray n₂) :: (C, oC10) :: (z, zipO .none TI TO) :: (T, prO (.int (-((q - (k + 1) : Nat) : Int)) t) (.ref ar)) :: (TI, prO (.ref i1) (.ref I)) :: (TO, prO (.int (-((q - (k + 1) : Nat) : Int)) t) (.ref ar)) :: (i1, rangeIt (-((q - k : Nat) : Int)) k (-1)) :: (I, oI2) :: nn := fun hp => .tail _ (.tail _ (.tail _ (.tail _ (.tail _ (.tail _ (.tail _ (.tail _ hp)))))))
      walk1
      walk1
      walk1
      refine Call_ ?_
      refine comp_cell (c := L' + 1) (o := oK) (v := .ref 70) N10 dK' (l8 (hsub _ (.head _))) ?c1 ?c2 ?c3 ?_
      case c1 => kernel_rfl
      case c2 => kernel_rfl
      case c3 => kernel_rfl
      refine' callWith_K ?k1 ?k2 ?_; (case k1 => k_asm); (case k2 => k_is)
      walk1
      refine comp_load (v := .ref ar) N10 hO10 ?c4 (.tail _ (.head _)) rfl ?c5 ?_
      case c4 => walk_at "loc"
      case c5 => kernel_rfl
      walk1
      walk1
      refine timeOf (a' := ar) B3 F10 X3 N10 T3 rfl (by ktr_room) (by ktr_units) (l8 (hsub _ (.tail _ (.tail _ mr)))) ?_
      intro tk11 h11 F11 N11
      walk1
      refine comp_load (v := .int (-((q - (k + 1) : Nat) : Int)) t) N11 hO10 ?c6 (.tail _ (.head _)) rfl ?c7 ?_
      case c6 => walk_at "loc"
      case c7 => kernel_rfl
      walk1
      refine comp_load (v := .ref ar) N11 hO10 ?c8 (.tail _ (.head _)) rfl ?c9 ?_
      case c8 => walk_at "loc"
      case c9 => kernel_rfl
      walk1
      walk1
      rename_i T2 h12 F12 N12 l12
      obtain ⟨l121, l122, l123, l124, l125, l126, l127, l128, l129⟩ := l12
      (try k_unfold)
      (try dsimp only)
      obtain ⟨tx, N12, hxT⟩ : ∃ tx : Obj, News g3 L' h12 ((T2, tx) :: (D, listOf acc.toArray n₂) :: (C, oC10) :: (z, zipO .none TI TO) :: (T, prO (.int (-((q - (k + 1) : Nat) : Int)) t) (.ref ar)) :: (TI, prO (.ref i1) (.ref I)) :: (TO, prO (.int (-((q - (k + 1) : Nat) : Int)) t) (.ref ar)) :: (i1, rangeIt (-((q - k : Nat) : Int)) k (-1)) :: (I, oI2) :: nn) ∧ R3s [(T2, tx)] (.ref T2) ((ρ (vs.getD (q - (k + 1)) .none)).1, -((q - (k + 1) : Nat) : Int)) (.ref ar) := ⟨_, N12, T2, _, _, _, rfl, .head _⟩
      refine ⟨k, (z, zipO .none TI TO) :: (TI, prO (.ref i1) (.ref I)) :: (TO, prO (.int (-((q - (k + 1) : Nat) : Int)) t) (.ref ar)) :: (i1, rangeIt (-((q - k : Nat) : Int)) k (-1)) :: (I, oI2) :: (T2, tx) :: (T, prO (.int (-((q - (k + 1) : Nat) : Int)) t) (.ref ar)) :: nn, _, by omega, ⟨h12, _, oC10, rfl, F12, News.sub N12 (by walk_at "led_sub"), hO10, ?_, hne⟩, by omega, by omega, oI2, _, _, _, rfl, fun p hp => .tail _ (.tail _ (hsub p hp)), ?_, by rw [show q - k = q - (k + 1) + 1 by omega]; exact it8, by rw [List.length_append, hlen]; simp; omega, ?_⟩
      · refine List.forall_mem_cons.mpr ⟨oz, List.forall_mem_cons.mpr ⟨oTI, List.forall_mem_cons.mpr ⟨oTO, List.forall_mem_cons.mpr ⟨oi1, List.forall_mem_cons.mpr ⟨oII, List.forall_mem_cons.mpr ⟨⟨Nat.ne_of_gt l121, Nat.ne_of_gt l122⟩, List.forall_mem_cons.mpr ⟨⟨Nat.ne_of_gt hTD, Nat.ne_of_gt hTC⟩, onn⟩⟩⟩⟩⟩⟩⟩
      · exact List.forall_mem_cons.mpr ⟨⟨Nat.ne_of_gt l123, Nat.ne_of_gt l125, Nat.ne_of_gt l126, Nat.ne_of_gt l127, Nat.ne_of_gt l128⟩, List.forall_mem_cons.mpr ⟨hT, hap⟩⟩
      · intro i hi
        by_cases hc : i < q - (k + 1)
        · have : (acc ++ [Value.ref T2]).getD i .none = acc.getD i .none := by
            rw [getD_lt (by rw [List.length_append]; omega), getD_lt (by omega), List.getElem_append_left]
          rw [this]
          exact (hP i hc).more fun p hp => .tail _ (.tail _ hp)
        · obtain rfl : i = q - (k + 1) := by omega
          have : (acc ++ [Value.ref T2]).getD (q - (k + 1)) .none = .ref T2 := by
            rw [← hlen]; simp
          rw [this, er]
          rw [er] at hxT
          exact hxT.more fun p hp => by rw [List.mem_singleton.mp hp]; exact .head _
  case kF =>
    rintro rs nw n₂ mC D C s' ⟨h7, tk7, oC, rfl, F7, N7, hO7, hoff, hne⟩ ⟨oI, nn, rfl, hsub, hapI, itI, hlen, hP⟩
    change News g3 L' h7 ((D, listOf rs.toArray n₂) :: (C, oC) :: (I, oI) :: nn) at N7
    change Off _ D C at hoff
    change D ≠ C at hne
    walk_at "go"
    rename_i h8 F8 N8
    refine comp_end (by assumption) (by assumption) hO7 hoff hne ?_
    intro h9 F9 N9 hD
    (try dsimp only)
    walk_at "go"
    refine truthy_at N9 (by omega) ?_
    intro tk9
    have he : rs.isEmpty = false := by
      cases rs with
      | nil => simp at hlen; omega
      | cons _ _ => rfl
    rw [he]
    walk_at "go"
    obtain ⟨hK9, hR9⟩ := kept_start (ρ := ρ) (vs := vs) (News.sub N9 (fun p hp => .tail _ (.tail _ hp))) hlen hP
    generalize hι : rowH h9 = ι at *
    refine heapify (ki ρ vs ι) (by assumption) (by assumption) (by assumption) N9 hD (by assumption) rfl (by ktr_room) (by ktr_units) (by omega) (fun u hu => (hR9 u hu).two.tail) (ki_nodup hK9.nodup) ?_
    intro h10 tk10 F10 N10
    have hp10 : (hfy (ki ρ vs ι) rs (rs.length / 2)).Perm rs := hfy_perm _ _ (by omega)
    have hh10 : HeapFrom (ki ρ vs ι) (hfy (ki ρ vs ι) rs (rs.length / 2)) 0 := hfy_heap _ _ (by omega) heap_trivial
    generalize hfy (ki ρ vs ι) rs (rs.length / 2) = hs at *
    have hK10 : Kept ρ vs ι hs [] q := ⟨((hp10.map ι).append_right []).trans hK9.1, fun w hw => nomatch hw⟩
    have hR10 : ∀ u ∈ hs, R3s nn u (ki ρ vs ι u) (vs.getD (ι u) .none) := fun u hu => hR9 u (hp10.mem_iff.mp hu)
    have hl10 : hs.length = q := by rw [hp10.length_eq, hlen]
    walk_at "go"
    obtain ⟨a0, n0, t01, t02, e0, m0⟩ := hR10 _ (getD_mem' (d := Value.none) (show 0 < hs.length by omega))
    refine get_at 0 N10 rfl (by omega) (by omega) ?_
    rw [e0]
    walk_at "go"
    refine kba_turn (value' := PySem.Expr.Name (PySem.Str.ofString "_") ⟨0, 0, 0, 0⟩) (fun _ => rfl) ?_
    refine tup3_0 N10 (.tail _ (.tail _ m0)) ?_
    walk_at "go"
    refine for_start ?_
    walk_at "go"
    rename_i h11 F11 N11
    refine wpAny_pyIter_listiter (l := l) (i := q) ⟨oI, (N11 _ (.tail _ (.head _))).1, itI.1, itI.2⟩ ?_
    have hDI : I ≠ D := hD _ (.head _)
    have hoff10 : ∀ p ∈ nn, p.1 ≠ D ∧ p.1 ≠ I := fun p hp => ⟨hD _ (.tail _ hp), hapI p hp⟩
    refine for_ind (I := fun k s' => ∃ (h : Heap) (tk : Nat) (mm : Str → Option Value) (hs : List Value) (nn : List (Addr × Obj)) (oI : Obj) (ι : Value → Nat) (ws : List Nat) (o topv : Int) (t1 t2 : Tok), s' = { s with heap := h, toks := tk } ∧ Fr g3 L' h mm ∧ News g3 L' h ((D, listOf hs.toArray n₂) :: (I, oI) :: nn) ∧ ListIt oI l (vs.length - k) ∧ k ≤ vs.length - q ∧
      (∀ p ∈ (L' + 1, oK) :: (l, listOf vs.toArray n) :: rest, p ∈ nn) ∧ (∀ p ∈ nn, p.1 ≠ D ∧ p.1 ≠ I) ∧ mm "result" = some (.ref D) ∧ mm "_heapreplace" = some (.ref 35) ∧ mm "top" = some (.int topv t1) ∧ mm "order" = some (.int o t2) ∧
      hs.length = q ∧ (∀ u ∈ hs, R3s nn u (ki ρ vs ι u) (vs.getD (ι u) .none)) ∧ Kept ρ vs ι hs ws (vs.length - k) ∧ ws.length = vs.length - k - q ∧ (k = vs.length - q → topv = (ki ρ vs ι (hs.getD 0 .none)).1 ∧ o = -(q : Int) ∧ HeapFrom (ki ρ vs ι) hs 0)) ?hE (n := vs.length - q) ?init ?turn
    case hE => with_unfolding_all passes_own
    case init =>
      have e1 : vs.length - (vs.length - q) = q := by omega
      refine ⟨_, _, _, hs, nn, oI, ι, [], _, _, _, _, rfl, by assumption, N11, by rw [e1]; exact itI, Nat.le_refl _, hsub, hoff10, by walk_at "loc", by walk_at "loc", by walk_at "loc", by walk_at "loc", hl10, hR10, by rw [e1]; exact hK10, by rw [e1]; simp, fun _ => ⟨by rw [e0], rfl, hh10⟩⟩
    case turn =>
      clear hK10 hR10 hl10 hh10 hp10 m0 e0 hoff10 hsub itI
      rintro k s' ⟨h, tk, mm, hs, nn, oI, ι, ws, o, topv, t1, t2, rfl, F12, N12, it12, hk, hsub, hoff, f1, f2, f3, f4, hlen, hR, hK, hw, hfst⟩
      have N12' : News g3 L' h ((I, oI) :: (D, listOf hs.toArray n₂) :: nn) := News.sub N12 (by walk_at "led_sub")
      have hI12 : ∀ p ∈ (D, listOf hs.toArray n₂) :: nn, p.1 ≠ I := List.forall_mem_cons.mpr ⟨hDI.symm, fun p hp => (hoff p hp).2⟩
      have hls : h.IsList l vs.toArray := N12.isList (.tail _ (.tail _ (hsub _ (.tail _ (.head _)))))
      cases k with
      | zero =>
        refine next_list_end rfl F12 N12' hI12 it12 hls (by omega) ?_
        intro h13 F13 N13
        walk_at "go"
        have N13' : News g3 L' h13 ((D, listOf hs.toArray n₂) :: nn) := N13
        refine getm_sort (by assumption) (.head _) ?_
        walk_at "go"
        refine callWith_builtin_kwB (by rfl) (by rfl) (evalArgs_kw2_nil (by rfl) ?_)
        walk_at "go"
        refine call_sort_back (κ := ki ρ vs ι) F13 N13' (fun p hp => (hoff p hp).1) (by omega) (by omega) (fun u hu => (hR u hu).two) (ki_nodup hK.nodup) ?_
        intro hs2 c2 h14 hp14 hr14 F14 N14
        have hlen14 : hs2.length = q := by rw [hp14.length_eq, hlen]
        walk_at "go"
        refine' listcomp_eval (cl := []) ?cc2 ?cc3 ?cc4 ?cc5 ?_ ?cc7
        case cc2 => rfl
        case cc3 => decide
        case cc4 => rfl
        case cc5 => decide
        case cc7 => (intro x; with_unfolding_all rfl)
        walk_at "go"
        refine iter_list (l := D) (its := hs2) (by assumption) N14 (News.isList N14 (.head _)) ?_
        intro J oJ h15 F15 N15 it15 lJ _
        refine comp_items3 (base := (D, listOf hs2.toArray c2) :: nn) (l := D) (n := c2) (fun i x => x = vs.getD (ι (hs2.getD i .none)) .none) (fun i => ki ρ vs ι (hs2.getD i .none)) (fun i => vs.getD (ι (hs2.getD i .none)) .none) (.head _) F15 N15 (fun p hp => Nat.ne_of_lt (lJ p hp)) it15 rfl (by omega)
          (fun i hi => (hR _ (hp14.mem_iff.mp (getD_mem' hi))).more fun p hp => .tail _ hp) (fun _ => rfl) (fun _ => rfl) (fun _ => rfl) ?_ ?_
        · intro i D' C' oD oC' oJ' mC' h16 tk16 Q' hi F16 N16 hO hy hQ
          walk_at "go"
          exact hQ _ _ _ F16 N16 rfl
        · intro acc n' mC' D' C' oC' h16 tk16 F16 N16 hO hoff' hne' hlen' hP'
          dsimp only
          refine comp_end2 F16 N16 hO hoff' hne' ?_
          intro h17 F17 N17 hD17
          walk_at "go"
          have hacc : acc = hs2.map fun u => vs.getD (ι u) .none := by
            apply List.ext_getElem
            · rw [hlen', List.length_map]
            · intro i i1 i2
              have i3 : i < hs2.length := by simpa using i2
              have := hP' i i3
              rw [getD_lt i1, getD_lt i3] at this
              rw [this, List.getElem_map]
          obtain ⟨p1, p2⟩ := kept_end hup hK (by rw [hw]; omega) hp14 hr14
          rw [← hacc] at p1 p2
          have hin : ∀ p ∈ (l, listOf vs.toArray n) :: rest, p ∈ (D, listOf hs2.toArray c2) :: nn := fun p hp => .tail _ (hsub p (.tail _ hp))
          refine ret D' acc (ws.map fun i => vs.getD i .none) n' _ _ (by assumption) (News.sub (by assumption) (List.forall_mem_cons.mpr ⟨.head _, fun p hp => .tail _ (hin p hp)⟩)) (fun p hp => hD17 p (hin p hp)) p1 p2 ?_
          rw [hlen', hlen14]
      | succ k =>
        obtain rfl : k = 0 := by omega
        have hvq : vs.length = q + 1 := by omega
        have e1 : vs.length - (0 + 1) = q := by omega
        rw [e1] at it12 hK hw
        obtain ⟨g1, g2, g3'⟩ := hfst (by omega)
        refine next_list F12 N12' hI12 it12 hls (by omega) ?_
        intro oI2 h13 F13 N13 it13
        obtain ⟨ar, nr, tr1, tr2, er, mr⟩ := hρ (vs.getD q .none) (getD_mem' (by omega))
        rw [er]
        walk_at "go2"
        rename_i h14 F14 N14
        refine Call_ ?_
        refine nameX_C N14 ?x1 (.tail _ (.tail _ (hsub _ (.head _)))) dK' ?_
        case x1 => kernel_rfl
        refine' callWith_K ?k1 ?k2 ?_; (case k1 => k_asm); (case k2 => k_is)
        walk_at "go2"
        refine timeOf (a' := ar) B3 (by assumption) X3 (by assumption) T3 rfl (by ktr_room) (by ktr_units) (.tail _ (.tail _ (hsub _ (.tail _ (.tail _ mr))))) ?_
        intro tk15 h15 F15 N15
        walk_at "go2"
        · have hlt : topv < (ρ (vs.getD q .none)).1 := by assumption
          rw [g1] at hlt
          have h0 : 0 < hs.length := by omega
          have ewh : ws = [] := List.length_eq_zero_iff.mp (by rw [hw]; omega)
          subst ewh
          walk_at "go"
          rename_i D8 h16 F16 N16 l16
          obtain ⟨l161, l162, l163⟩ := l16
          have hκv : ki ρ vs (updN ι (.ref D8) q) (.ref D8) = ((ρ (vs.getD q .none)).1, -(q : Int)) := by unfold ki; rw [updN_self]
          rw [g2] at N16
          obtain ⟨tx, N16, hxT⟩ : ∃ tx : Obj, News g3 L' h16 ((D8, tx) :: (I, oI2) :: (D, listOf hs.toArray n₂) :: nn) ∧ R3s [(D8, tx)] (.ref D8) (ki ρ vs (updN ι (.ref D8) q) (.ref D8)) (vs.getD (updN ι (.ref D8) q (.ref D8)) .none) := by
            rw [hκv, updN_self, er]
            rw [er] at N16
            exact ⟨_, N16, D8, _, _, _, rfl, .head _⟩
          have hfr : Value.ref D8 ∉ hs := fun hm => by
            obtain ⟨a', n', t1, t2, e', hm'⟩ := hR _ hm
            injection e' with e'
            rw [e'] at l163
            exact Nat.lt_irrefl _ (allLt_mem l163 hm')
          have hRn : ∀ u ∈ hs, R3s nn u (ki ρ vs (updN ι (.ref D8) q) u) (vs.getD (updN ι (.ref D8) q u) .none) := fun u hu => by
            unfold ki
            rw [updN_ne (by rintro rfl; exact hfr hu)]
            exact hR u hu
          have hkeep : ∀ hs' : List Value, hs'.Perm (hs.set 0 (.ref D8)) → Kept ρ vs (updN ι (.ref D8) q) hs' [ι (hs.getD 0 .none)] (q + 1) := fun hs' hp => kept_out hup (by omega) hK g3' h0 hfr hlt hp
          refine heapreplace (ki ρ vs (updN ι (.ref D8) q)) (l := D) (vs := hs) (n := n₂) (rest := (D8, tx) :: (I, oI2) :: nn) B3 (by assumption) X3 (News.sub N16 (by walk_at "led_sub")) (List.forall_mem_cons.mpr ⟨Nat.ne_of_gt l162, List.forall_mem_cons.mpr ⟨hDI, fun p hp => (hoff p hp).1⟩⟩) T3 rfl (by ktr_room) (by ktr_units) h0 (by omega)
            (fun u hu => (hRn u hu).two.more fun p hp => .tail _ (.tail _ hp)) (hxT.two.more fun p hp => by rw [List.mem_singleton.mp hp]; exact .head _) (ki_nodup (hkeep _ (List.Perm.refl _)).nodup) ?_
          intro h17 tk17 F17 N17
          have hp17 : (siftupL (ki ρ vs (updN ι (.ref D8) q)) (hs.set 0 (.ref D8)) 0).Perm (hs.set 0 (.ref D8)) := siftupL_perm (by rw [List.length_set]; exact h0)
          generalize siftupL (ki ρ vs (updN ι (.ref D8) q)) (hs.set 0 (.ref D8)) 0 = hs2 at *
          have hl17 : hs2.length = q := by rw [hp17.length_eq, List.length_set, hlen]
          have hK17 := hkeep hs2 hp17
          have hR17 : ∀ u ∈ hs2, R3s ((D8, tx) :: nn) u (ki ρ vs (updN ι (.ref D8) q) u) (vs.getD (updN ι (.ref D8) q u) .none) := fun u hu => by
            rcases List.mem_or_eq_of_mem_set (hp17.mem_iff.mp hu) with h1 | h1
            · exact (hRn u h1).more fun p hp => .tail _ hp
            · rw [h1]
              exact hxT.more fun p hp => by rw [List.mem_singleton.mp hp]; exact .head _
          walk_at "go"
          obtain ⟨a2, m2, t21, t22, e2', mm2⟩ := hR17 _ (getD_mem' (d := Value.none) (show 0 < hs2.length by omega))
          refine get_at (us := hs2) (n := n₂) 0 N17 rfl (by omega) (by omega) ?_
          rw [e2']
          have mm3 : ∀ p ∈ (D8, tx) :: nn, p ∈ (D, listOf hs2.toArray n₂) :: (D8, tx) :: (I, oI2) :: nn := fun p hp => by
            rcases List.mem_cons.mp hp with rfl | hp
            · exact .tail _ (.head _)
            · exact .tail _ (.tail _ (.tail _ hp))
          walk_at "go"
          refine fr_unpack3 (by assumption) (by assumption) (mm3 _ mm2) rfl rfl ?u1 ?u2 ?u3 ?_
          case u1 => kernel_rfl
          case u2 => kernel_rfl
          case u3 => kernel_rfl
          intro h18 tk18 F18 N18
          walk_at "go"
          have ev : vs.length - 0 = q + 1 := by omega
          refine ⟨0, by omega, _, _, _, hs2, (D8, tx) :: nn, oI2, updN ι (.ref D8) q, [ι (hs.getD 0 .none)], _, _, _, _, rfl, by assumption, News.sub (by assumption) (by walk_at "led_sub"), by rw [ev]; exact it13, by omega, fun p hp => .tail _ (hsub p hp), List.forall_mem_cons.mpr ⟨⟨Nat.ne_of_gt l162, Nat.ne_of_gt l161⟩, hoff⟩, by walk_at "loc", by walk_at "loc", by walk_at "loc", by walk_at "loc", hl17, hR17, by rw [ev]; exact hK17, by rw [ev]; simp, fun he => absurd he (by omega)⟩
        · have hnlt : ¬ topv < (ρ (vs.getD q .none)).1 := by assumption
          rw [g1] at hnlt
          have ewh : ws = [] := List.length_eq_zero_iff.mp (by rw [hw]; omega)
          subst ewh
          have ev : vs.length - 0 = q + 1 := by omega
          refine ⟨0, by omega, _, _, _, hs, nn, oI2, ι, [q], _, _, _, _, rfl, by assumption, News.sub (by assumption) (by walk_at "led_sub"), by rw [ev]; exact it13, by omega, hsub, hoff, by walk_at "loc", by walk_at "loc", by walk_at "loc", by walk_at "loc", hlen, hR, by rw [ev]; exact kept_in hup (by omega) hK g3' hnlt, by rw [ev]; simp, fun he => absurd he (by omega)⟩
end
end

section
local macro_rules | `(tactic| walk_at "go2") => `(tactic| repeat' (first | (k_unfold; (try dsimp only)) | ((fail_if_success (with_reducible show wpAny _ _ (eval (PySem.Expr.Call _ _ _ _) _) _ _ _)); walk_at "stop"; first | walk1 | (dsimp only; walk1) | (leave1; walk_say "STEP leave1"; (try dsimp only)) | (dsimp only [WEnd, NextIs]))))
section
variable {w : World} {p : Program} {loose : List Str} {mean : ExcName → Option Value} {mg mb : Str → Option Value} {dp un : Nat} {gd : Option (List Code)} {cn : Str} {cs : Scope} {a : Addr} {ccd : Value} {cl : List (Str × Addr)} {outer : List Env} {A₀ : Around} {base h₀ : Heap} {L : Addr} {m : Str → Option Value} {s : Shared} {Q E : Value → Shared → Prop}
theorem largestL (ρ : Value → Int × Int) {l : Addr} {vs : List Value} {n q : Nat} {rest : List (Addr × Obj)} {u : Tok}
    (B : Below A₀ base outer h₀) (F : Fr h₀ L s.heap m) (X : (hd.heap_39 w.params).In h₀) (N : News h₀ L s.heap ((l, listOf vs.toArray n) :: rest)) (T : Top p loose mean mg mb h₀) (hk : cs.kind = .function)
    (hd : dp + 5 < recursionLimit) (hu : un + 40 < cLine)
    (hq : 2 ≤ q) (hq1 : q = vs.length) (hz : vs.length < 60) (hρ : ∀ u ∈ vs, L2s rest u (ρ u))
    (ret : ∀ (D : Addr) (us : List Value) (c tk' : Nat) (h' : Heap) (nn : List (Addr × Obj)), Fr h₀ L h' m → News h₀ L h' ((D, listOf us.toArray c) :: nn) → (∀ p ∈ (l, listOf vs.toArray n) :: rest, p ∈ nn) → (∀ p ∈ nn, p.1 ≠ D) → us.Perm vs → us.Pairwise (fun u v => (ρ v).1 ≤ (ρ u).1) → Q (.ref D) { s with heap := h', toks := tk' }) :
    wpAny (model PySem.Challenge.rw_dm5007_01.row.prog w) (ktrTop dp un gd cn cs L a ccd cl outer) (call (.ref 62) [.int q u, .ref l] [(Str.ofString "key", .ref 70)]) Q E s := by
  revert X; k_fill; intro X
  refine wpAny_call ?_
  k_dflt (walk_at "cells_enter")
  rename_i g' L' h' tk' FG' F' B' X' T' l1 oK dK N'
  obtain ⟨m1, F1, e1, e2⟩ : ∃ m1, Fr g' L' h' m1 ∧ m1 "n" = some (.int q u) ∧ m1 "iterable" = some (.ref l) := ⟨_, F', rfl, rfl⟩
  have dK' : oK.data = .cell (some (.ref 70)) := dK
  clear F' dK
  obtain ⟨l11, l12⟩ := l1
  walk_at "go"
  · exfalso
    omega
  refine wpAny_Try_except ?_
  walk_at "go"
  refine len_lst (News.isList N' (.tail _ (.head _))) (by omega) ?_
  intro t2 tk2
  walk_at "go"
  rename_i h3 F3 N3
  refine ksk_sorted (kw := [(Str.ofString "key", .ref 70), (Str.ofString "reverse", .bool true)]) (b := true) (f := .ref 70) (kz := vs.map fun v => (ρ v).1) F3 N3 (News.isList N3 (.tail _ (.head _))) (by rw [List.length_map]) (by omega) (ksk_s2 _ _ _) (fun x => ksk_l2 _ _ _) (fun x => ksk_t2 _ _ _) ?turn ?_
  case turn =>
    intro i v k hv hk h tk own F4 N4
    have hm : v ∈ vs := List.mem_of_getElem? hv
    obtain ⟨ar, nr, tr1, tr2, er, mr⟩ := hρ _ hm
    have ek : k = (ρ v).1 := by
      rw [List.getElem?_map, hv] at hk
      simpa using hk.symm
    rw [er]
    refine timeOf (a' := ar) B' F4 X' N4 T' rfl (by ktr_room) (by ktr_units) (List.mem_append_left _ (.tail _ (.tail _ mr))) ?_
    intro tk5 h5 F5 N5
    rw [ek]
    exact ⟨h5, tk5, tr1, rfl, rfl, F5, N5⟩
  intro D h4 tk4 out c4 F4 N4 l4 ho
  walk_at "go"
  obtain ⟨ps, hp1, hp2, hp3⟩ := ho
  have hol : out.toList.length = vs.length := by
    rw [hp2, List.length_map, hp1.length_eq, List.length_zip, List.length_map]
    omega
  have hos : out.size = q := by rw [← Array.length_toList, hol, hq1]
  refine kba_turn (value' := PySem.Expr.Name (PySem.Str.ofString "_") ⟨0, 0, 0, 0⟩) (fun _ => rfl) ?_
  refine kmk_slice (its := out) (lo := none) (hi := some (q : Int)) F4 N4 ⟨_, (N4 _ (.head _)).1, rfl, c4, rfl⟩ IsPart.none (IsPart.int _ _) ?_ (by with_unfolding_all rfl) (by intro _; with_unfolding_all rfl) (by rw [hos, sizeLine_eq]; omega)
  intro D2 h5 F5 N5 l5
  have epick : slicePick out none (some (q : Int)) none = out := by
    rw [kms_pick_eq]
    apply Array.toList_inj.mp
    show ((out.toList.drop (kms_lo none out.toList.length)).take (kms_hi (some (q : Int)) out.toList.length - kms_lo none out.toList.length)) = out.toList
    have e1 : kms_lo none out.toList.length = 0 := rfl
    have e2 : kms_hi (some (q : Int)) out.toList.length = out.toList.length := by
      unfold kms_hi
      dsimp only
      rw [if_neg (by omega)]
      omega
    rw [e1, e2, List.drop_zero, Nat.sub_zero, List.take_length]
  rw [epick] at N5
  walk_at "go"
  have hz1 : ∀ p ∈ (vs.map fun v => (ρ v).1).zip vs, p.1 = (ρ p.2).1 := fun p hp => by
    rw [List.zip_map_left] at hp
    obtain ⟨⟨x, y⟩, hxy, rfl⟩ := List.mem_map.mp hp
    obtain ⟨i, hi, e⟩ := List.getElem_of_mem hxy
    rw [List.getElem_zip] at e
    injection e with e1 e2
    show (ρ x).1 = (ρ y).1
    rw [← e1, ← e2]
  have hsnd : ((vs.map fun v => (ρ v).1).zip vs).map Prod.snd = vs := List.map_snd_zip (by simp)
  have N6 : News h₀ L h5 ((D2, listOf out.toList.toArray 0) :: (D, seqObj "list" out c4) :: (L' + 1, oK) :: (l, listOf vs.toArray n) :: rest) := by
    rw [Array.toArray_toList]
    assumption
  refine ret D2 out.toList 0 _ _ ((D, seqObj "list" out c4) :: (L' + 1, oK) :: (l, listOf vs.toArray n) :: rest) (by assumption) N6 (fun p hp => .tail _ (.tail _ hp)) (fun p hp => Nat.ne_of_lt (l5 p hp)) ?_ ?_
  · rw [hp2]
    have := hp1.map Prod.snd
    rwa [hsnd] at this
  · rw [hp2, List.pairwise_map]
    refine hp3.imp_of_mem fun {a b} ha hb hab => ?_
    rw [← hz1 a (hp1.mem_iff.mp ha), ← hz1 b (hp1.mem_iff.mp hb)]
    simpa using hab
end
end

section
local macro_rules | `(tactic| walk_at "eval Name") => `(tactic| (k_here; (with_reducible show wpAny _ _ (eval (PySem.Expr.Name _ _) (PySem.compEnvC _ _ _ _)) _ _ _); refine' comp_B ?k1 ?k2 ?k3 ?k4 ?k5 ?k6 ?_; (case k1 => k_asm); (case k2 => k_asm); (case k3 => k_asm); (case k4 => k_is); (case k5 => boot_by_name); (case k6 => decide)))
local macro_rules | `(tactic| walk_at "loadName") => `(tactic| (k_here; k_dflt (refine' loadX_L ?k1 ?k2 ?_; (case k1 => k_asm); (case k2 => walk_at "loc"); k_whole)))
local macro_rules | `(tactic| walk_at "go3") => `(tactic| repeat' (first | (k_unfold; (try dsimp only)) | ((fail_if_success (with_reducible show wpAny _ _ (eval (PySem.Expr.Dict _ _ _) _) _ _ _)); (fail_if_success (with_reducible show wpAny _ _ (binaryOp .Mult (Value.ref _) _) _ _ _)); walk_at "stop"; first | walk1 | (dsimp only; walk1) | (leave1; walk_say "STEP leave1"; (try dsimp only)) | (dsimp only [WEnd, NextIs]))))
theorem ints_set : ∀ {vs : List Value} {ns : List Int} {i : Nat} {v : Int} {t : Tok}, IntsAre vs ns → IntsAre (vs.set i (.int v t)) (ns.set i v)
  | _, _, _, _, _, .nil => .nil
  | _, _, 0, v, t, .cons n t' h => .cons v t h
  | _, _, i + 1, v, t, .cons n t' h => .cons n t' (ints_set h)
theorem ints_rep {t : Tok} : ∀ {k : Nat}, IntsAre (List.replicate k (.int 0 t)) (List.replicate k 0)
  | 0 => .nil
  | k + 1 => .cons 0 t ints_rep
theorem pow_bound {n k : Nat} (h : n ≤ 3 ^ k) (hk : k ≤ 7) : n ≤ 2187 := Nat.le_trans h (Nat.le_trans (Nat.pow_le_pow_right (by decide) hk) (by decide))
section
variable {w : World} {p : Program} {loose : List Str} {mean : ExcName → Option Value} {mg mb : Str → Option Value} {dp un : Nat} {gd : Option (List Code)} {cn : Str} {cs : Scope} {a : Addr} {ccd : Value} {cl : List (Str × Addr)} {outer : List Env} {A₀ : Around} {base h₀ : Heap} {L : Addr} {m : Str → Option Value} {s : Shared} {Q E : Value → Shared → Prop}
theorem leastOf (hands : Nat) {l : Addr} {vs : List Value} {ts : List Int} {n : Nat} {rest : List (Addr × Obj)} {u : Tok}
    (B : Below A₀ base outer h₀) (F : Fr h₀ L s.heap m) (X : (hd.heap_39 w.params).In h₀) (N : News h₀ L s.heap ((l, listOf vs.toArray n) :: rest)) (T : Top p loose mean mg mb h₀) (hk : cs.kind = .function)
    (hd : dp + 2 < recursionLimit) (hu : un + 16 < cLine)
    (hz : ts.length ≤ 7) (hI : IntsAre vs ts) (hh : hands = 2 ∨ hands = 3)
    (ret : ∀ (b : Int) (t : Tok) (tk' : Nat) (h' : Heap), Fr h₀ L h' m → News h₀ L h' ((l, listOf vs.toArray n) :: rest) → Best hands ts b → Q (.int b t) { s with heap := h', toks := tk' }) :
    wpAny (model PySem.Challenge.rw_dm5007_01.row.prog w) (ktrTop dp un gd cn cs L a ccd cl outer) (call (.ref 101) [.ref l, .int hands u]) Q E s := by
  revert X; k_fill; intro X
  refine wpAny_call ?_
  k_dflt cell_enter
  rename_i g' L' h' FG' F' N' B' X' T'
  obtain ⟨m1, F1, e1, e2⟩ : ∃ m1, Fr g' L' h' m1 ∧ m1 "times" = some (.ref l) ∧ m1 "hands" = some (.int hands u) := ⟨_, F', rfl, rfl⟩
  clear F'
  walk_at "go3"
  refine dict_one F1 N' T'.nolimit ?_
  intro D0 h2 F2 N2 lD0 lo0
  walk_at "go3"
  rename_i Tz h3 F3 N3 l3
  obtain ⟨l31, l32, l33⟩ := l3
  refine mul_tup F3 N3 (.head _) hh ?_
  intro Tk h4 F4 N4 l4
  walk_at "go3"
  refine ⟨Tk, List.replicate hands 0, (Tk, tupOf (List.replicate hands (.int 0 tk)) 0) :: (Tz, tupOf [.int 0 tk] 0) :: (l, listOf vs.toArray n) :: rest, rfl, F4, News.sub N4 (by walk_at "led_sub"), ?_, ⟨_, 0, .head _, ints_rep⟩, by ktr_units, ?_⟩
  · exact List.forall_mem_cons.mpr ⟨Nat.ne_of_gt (l4 _ (.tail _ (.head _))), List.forall_mem_cons.mpr ⟨Nat.ne_of_gt l31, fun p hp => Nat.ne_of_lt (lD0 p hp)⟩⟩
  intro h5 tk5 o5 ep5 F5 N5 x5
  walk_at "go3"
  rename_i h6 F6 N6
  have hsm : Builtin.Range.small 0 hands 1 = true := by
    rcases hh with rfl | rfl
    · decide
    · decide
  refine for_start ?_
  walk_at "go3"
  refine iter_list (l := l) (its := vs) (by assumption) N6 (News.isList N6 (.tail _ (.tail _ (.tail _ (.head _))))) ?_
  intro I oI0 h7 F7 N7 it7 lI _
  have hvl : vs.length = ts.length := hI.length
  refine for_ind (I := fun k s' => ∃ (h : Heap) (tk : Nat) (mm : Str → Option Value) (Ds : Addr) (oS : Obj) (xs : List (List Int × Addr × Value)) (ep : Nat) (nn : List (Addr × Obj)) (oI : Obj), s' = { s with heap := h, toks := tk } ∧ Fr g' L' h mm ∧ News g' L' h ((I, oI) :: (Ds, oS) :: nn) ∧ ListIt oI l (ts.length - k) ∧ k ≤ ts.length ∧
    TDict PySem.Challenge.rw_dm5007_01.row.prog w nn oS xs ep ∧ (Ds == sysModules) = false ∧ (∀ p ∈ (l, listOf vs.toArray n) :: rest, p ∈ nn) ∧ (∀ p ∈ nn, p.1 ≠ I ∧ p.1 ≠ Ds) ∧ Ds ≠ I ∧ mm "times" = some (.ref l) ∧ mm "hands" = some (.int hands u) ∧ mm "states" = some (.ref Ds) ∧
    Reach hands (ts.take (ts.length - k)) (xs.map (·.1)) ∧ xs.length ≤ 3 ^ (ts.length - k)) ?hE (n := ts.length) ?init ?turn
  case hE => with_unfolding_all passes_own
  case init =>
    refine ⟨_, _, _, D0, o5, _, ep5, _, oI0, rfl, F7, N7, by rw [Nat.sub_self]; exact it7, Nat.le_refl _, x5, lo0, fun p hp => .tail _ (.tail _ hp), fun p hp => ⟨Nat.ne_of_lt (lI p (.tail _ hp)), ?_⟩, Nat.ne_of_lt (lI _ (.head _)), by walk_at "loc", by walk_at "loc", by walk_at "loc", ?_, by rw [Nat.sub_self]; simp⟩
    · revert p
      exact List.forall_mem_cons.mpr ⟨Nat.ne_of_gt (l4 _ (.tail _ (.head _))), List.forall_mem_cons.mpr ⟨Nat.ne_of_gt l31, fun p hp => Nat.ne_of_lt (lD0 p hp)⟩⟩
    · rw [Nat.sub_self]
      exact Reach.init hands
  case turn =>
    clear x5 it7 lI N7 F7
    (try clear N6 F6)
    (try clear N5 F5)
    (try clear N4 F4)
    (try clear N3 F3)
    (try clear N2 F2)
    rintro k s' ⟨h, tk, mm, Ds, oS, xs, ep, nn, oI, rfl, F11, N11, it11, hk, hT11, lo11, hsub11, hoff11, hDI, f1, f2, f3, hrch, hxl⟩
    have hls : h.IsList l vs.toArray := N11.isList (.tail _ (.tail _ (hsub11 _ (.head _))))
    have hI11 : ∀ p ∈ (Ds, oS) :: nn, p.1 ≠ I := List.forall_mem_cons.mpr ⟨hDI, fun p hp => (hoff11 p hp).1⟩
    have hx7 := pow_bound hxl (by omega)
    cases k with
    | zero =>
      refine next_list_end rfl F11 N11 hI11 it11 hls (by omega) ?_
      intro h12 F12 N12
      walk_at "go3"
      rw [Nat.sub_zero, List.take_length] at hrch
      refine' listcomp_eval (cl := []) ?c2 ?c3 ?c4 ?c5 ?_ ?c7
      case c2 => rfl
      case c3 => decide
      case c4 => rfl
      case c5 => decide
      case c7 => (intro x; with_unfolding_all rfl)
      walk_at "go3"
      refine iter_T lo11 (by assumption) N12 (.head _) hT11 ?_
      intro J oJ h13 F13 N13 it13 lJ
      have hlen := hrch.len
      have hm0 : ∃ m', hands = m' + 1 := ⟨hands - 1, by omega⟩
      have hxpos : 0 < xs.length := by
        obtain ⟨m', rfl⟩ := hm0
        have := hrch.pos
        rwa [List.length_map] at this
      refine comp_items (fun i x => ∃ M t, x = .int M t ∧ M ∈ (xs.map (·.1)).getD i [] ∧ ∀ a ∈ (xs.map (·.1)).getD i [], a ≤ M) (ItRule.dictT (d := Ds) (o := oS) (ep := ep) (.head _) hT11) F13 N13 (fun p hp => Nat.ne_of_lt (lJ p hp)) it13 rfl (by rw [List.length_map]; omega) (fun _ => rfl) ?_ ?_
      · intro i D C oD oC oI mC h tk Q' hi F14 N14 hO hy hQ
        have hi' : i < xs.length := by simpa using hi
        rw [getD_lt hi, List.getElem_map] at hy
        obtain ⟨_, _, _, _, hTx, _⟩ := hT11
        obtain ⟨tvs, tn, tm, tI⟩ := hTx _ (List.getElem_mem hi')
        walk_at "go3"
        refine max_tup rfl F14 N14 (.tail _ (.tail _ (.tail _ (.tail _ tm)))) tI (by rw [hlen _ (List.mem_map_of_mem (List.getElem_mem hi'))]; omega) ?_
        intro h15 M t tk15 F15 N15 hM1 hM2
        refine hQ _ _ _ F15 N15 ⟨M, t, rfl, ?_, ?_⟩
        · rw [getD_lt (by simpa using hi'), List.getElem_map]; exact hM1
        · rw [getD_lt (by simpa using hi'), List.getElem_map]; exact hM2
      · intro acc n' mC D C oC h tk F14 N14 hO hoff hne hlenA hP
        dsimp only
        refine comp_end2 F14 N14 hO hoff hne ?_
        intro h15 F15 N15 hD
        walk_at "go3"
        obtain ⟨Ms, hMl, hMi, hMx⟩ : ∃ Ms : List Int, Ms.length = xs.length ∧ IntsAre acc Ms ∧ ∀ i, i < xs.length → Ms.getD i 0 ∈ (xs.map (·.1)).getD i [] ∧ ∀ a ∈ (xs.map (·.1)).getD i [], a ≤ Ms.getD i 0 := by
          have hl1 : acc.length = xs.length := by simpa using hlenA
          refine ⟨acc.map numOf, by simp [hl1], ints_of (by simp) fun i hi => ?_, fun i hi => ?_⟩
          · have hi' : i < acc.length := by simpa using hi
            obtain ⟨M, t, e, _⟩ := hP i (by simp; omega)
            refine ⟨t, ?_⟩
            rw [getD_lt hi, List.getElem_map, ← getD_lt (d := Value.none) hi', e]
            rfl
          · obtain ⟨M, t, e, q1, q2⟩ := hP i (by simpa using hi)
            have e2 : (acc.map numOf).getD i 0 = M := by
              rw [getD_lt (by simp; omega), List.getElem_map, ← getD_lt (d := Value.none) (by omega), e]
              rfl
            rw [e2]
            exact ⟨q1, q2⟩
        refine kso_min (ns := Ms) F15 N15 (News.isList N15 (.head _)) hMi (by omega) rfl ?_
        intro h16 b t16 tk16 F16 N16 hb1 hb2
        walk_at "go3"
        refine ret b _ _ _ (by assumption) (News.sub (by assumption) (fun p hp => .tail _ (.tail _ (hsub11 p hp)))) ?_
        exact hrch.best (by rw [List.length_map]; exact hMl) (fun i hi => hMx i (by simpa using hi)) hb1 hb2
    | succ k =>
      refine next_list F11 N11 hI11 it11 hls (by omega) ?_
      intro oI2 h12 F12 N12 it12
      obtain ⟨tt, ett⟩ := ints_at hI (i := ts.length - (k + 1)) (by omega)
      rw [ett]
      generalize htv : ts.getD (ts.length - (k + 1)) 0 = tv
      walk_at "go3"
      rename_i h13 F13 N13
      refine dict_none F13 N13 T'.nolimit ?_
      intro Df h14 oF epf F14 N14 lDf loF xF
      have hDfI : Df ≠ I := Nat.ne_of_gt (lDf _ (.head _))
      have hDfs : Df ≠ Ds := Nat.ne_of_gt (lDf _ (.tail _ (.head _)))
      walk_at "go3"
      refine for_start ?_
      walk_at "go3"
      refine iter_T lo11 (by assumption) (by assumption) (.tail _ (.tail _ (.head _))) hT11 ?_
      intro J oJ0 h15 F15 N15 it15 lJ
      have hJf : Df ≠ J := Nat.ne_of_lt (lJ _ (.head _))
      have hJI : I ≠ J := Nat.ne_of_lt (lJ _ (.tail _ (.head _)))
      have hJs : Ds ≠ J := Nat.ne_of_lt (lJ _ (.tail _ (.tail _ (.head _))))
      refine for_ind (I := fun j s' => ∃ (h : Heap) (tk : Nat) (mm : Str → Option Value) (oF : Obj) (xf : List (List Int × Addr × Value)) (epf : Nat) (nn2 : List (Addr × Obj)) (oJ : Obj), s' = { s with heap := h, toks := tk } ∧ Fr g' L' h mm ∧ News g' L' h ((J, oJ) :: (Df, oF) :: (Ds, oS) :: (I, oI2) :: nn2) ∧ KdkIter oJ Ds (xs.length - j) xs.length ep ∧ j ≤ xs.length ∧
        TDict PySem.Challenge.rw_dm5007_01.row.prog w nn2 oF xf epf ∧ (∀ p ∈ nn, p ∈ nn2) ∧ (∀ p ∈ nn2, p.1 ≠ J ∧ p.1 ≠ Df ∧ p.1 ≠ Ds ∧ p.1 ≠ I) ∧ mm "times" = some (.ref l) ∧ mm "hands" = some (.int hands u) ∧ mm "t" = some (.int tv tt) ∧ mm "fresh" = some (.ref Df) ∧
        (∀ f ∈ xf.map (·.1), ∃ st ∈ xs.map (·.1), ∃ q, q < hands ∧ f.Perm (st.set q (st.getD q 0 + tv))) ∧
        (∀ i, i < xs.length - j → ∀ q, q < hands → ∃ f ∈ xf.map (·.1), f.Perm (((xs.map (·.1)).getD i []).set q (((xs.map (·.1)).getD i []).getD q 0 + tv))) ∧ xf.length ≤ (xs.length - j) * hands) ?hE2 (n := xs.length) ?init2 ?turn2
      case hE2 => with_unfolding_all passes_own
      case init2 =>
        refine ⟨_, _, _, oF, [], epf, nn, oJ0, rfl, F15, News.sub N15 (by walk_at "led_sub"), by rw [Nat.sub_self]; exact it15, Nat.le_refl _, xF.more_any, fun _ h => h, fun p hp => ⟨Nat.ne_of_lt (lJ p (.tail _ (.tail _ (.tail _ hp)))), Nat.ne_of_lt (lDf p (.tail _ (.tail _ hp))), (hoff11 p hp).2, (hoff11 p hp).1⟩, by walk_at "loc", by walk_at "loc", by walk_at "loc", by walk_at "loc", (fun f hf => nomatch hf), (fun i hi => absurd hi (by omega)), Nat.zero_le _⟩
      case turn2 =>
        clear F15 N15 it15 lJ xF
        (try clear F14 N14)
        (try clear F13 N13)
        rintro j s' ⟨h, tk, mm2, oF, xf, epf, nn2, oJ, rfl, F21, N21, it21, hj, hT21, hsub21, hoff21, q1, q2, q3, q4, hA, hB, hxf⟩
        have hI21 : ∀ x, ∀ p ∈ (Df, x) :: (Ds, oS) :: (I, oI2) :: nn2, p.1 ≠ J := fun x => List.forall_mem_cons.mpr ⟨hJf, List.forall_mem_cons.mpr ⟨hJs, List.forall_mem_cons.mpr ⟨hJI, fun p hp => (hoff21 p hp).1⟩⟩⟩
        have hh3 : hands ≤ 3 := by omega
        cases j with
        | zero =>
          refine next_T_end rfl F21 N21 (hI21 _) it21 (.tail _ (.head _)) hT11 (by omega) ?_
          intro h22 F22 N22
          walk_at "go3"
          have etk : ts.take (ts.length - k) = ts.take (ts.length - (k + 1)) ++ [tv] := by
            rw [← htv, show ts.length - k = ts.length - (k + 1) + 1 by omega, List.take_add_one, getD_lt (by omega)]
            simp [show ts.length - (k + 1) < ts.length by omega]
          refine ⟨k, by omega, _, _, _, Df, oF, xf, epf, (Ds, oS) :: nn2, oI2, rfl, by assumption, News.sub (by assumption) (by walk_at "led_sub"), by rw [show ts.length - k = ts.length - (k + 1) + 1 by omega]; exact it12, by omega, hT21.more fun p hp => .tail _ hp, loF, fun p hp => .tail _ (hsub21 p (hsub11 p hp)), List.forall_mem_cons.mpr ⟨⟨hDI, hDfs.symm⟩, fun p hp => ⟨(hoff21 p hp).2.2.2, (hoff21 p hp).2.1⟩⟩, hDfI, by walk_at "loc", by walk_at "loc", by walk_at "loc", ?_, ?_⟩
          · rw [etk]
            refine hrch.step hA fun st hst q hq => ?_
            obtain ⟨i, hi, rfl⟩ := List.getElem_of_mem hst
            have := hB i (by simpa using hi) q hq
            rwa [getD_lt hi] at this
          · rw [Nat.sub_zero] at hxf
            rw [show ts.length - k = ts.length - (k + 1) + 1 by omega, Nat.pow_succ]
            exact Nat.le_trans hxf (Nat.mul_le_mul hxl hh3)
        | succ j =>
          refine next_T F21 N21 (hI21 _) it21 (.tail _ (.head _)) hT11 (by omega) ?_
          intro oJ2 h22 F22 N22 it22
          walk_at "go3"
          rename_i h23 F23 N23
          have hij : xs.length - (j + 1) < xs.length := by omega
          obtain ⟨tvs, tn, tm, tI⟩ : TupI nn (xs[xs.length - (j + 1)]).2.1 (xs[xs.length - (j + 1)]).1 := by
            obtain ⟨_, _, _, _, hTx, _⟩ := hT11
            exact hTx _ (List.getElem_mem hij)
          have estx : (xs.map (·.1)).getD (xs.length - (j + 1)) [] = (xs[xs.length - (j + 1)]).1 := by
            rw [getD_lt (by simpa using hij), List.getElem_map]
          have hstl : (xs[xs.length - (j + 1)]).1.length = hands := hrch.len _ (List.mem_map_of_mem (List.getElem_mem hij))
          have hstm : (xs[xs.length - (j + 1)]).1 ∈ xs.map (·.1) := List.mem_map_of_mem (List.getElem_mem hij)
          generalize hax : (xs[xs.length - (j + 1)]).2.1 = ax at *
          generalize hst : (xs[xs.length - (j + 1)]).1 = st at *
          have htl : tvs.length = hands := by rw [tI.length, hstl]
          refine for_start ?_
          walk_at "go3"
          refine range1 (by assumption) (by assumption) ?_
          intro r h24 tk24 t24 t25 F24 N24 lr
          walk_at "go3"
          refine iter_range F24 N24 (.head _) hsm ?_
          intro R h25 F25 N25 lR
          rw [rangeSize0] at N25
          have hRJ : J ≠ R := Nat.ne_of_lt (lR _ (.tail _ (.head _)))
          have hRf : Df ≠ R := Nat.ne_of_lt (lR _ (.tail _ (.tail _ (.head _))))
          have hRs : Ds ≠ R := Nat.ne_of_lt (lR _ (.tail _ (.tail _ (.tail _ (.head _)))))
          have hRI : I ≠ R := Nat.ne_of_lt (lR _ (.tail _ (.tail _ (.tail _ (.tail _ (.head _))))))
          refine for_ind (I := fun z s' => ∃ (h : Heap) (tk : Nat) (mm : Str → Option Value) (oF : Obj) (xf : List (List Int × Addr × Value)) (epf : Nat) (nn2 : List (Addr × Obj)), s' = { s with heap := h, toks := tk } ∧ Fr g' L' h mm ∧ News g' L' h ((R, rangeIt ((hands:Int) - z) z 1) :: (J, oJ2) :: (Df, oF) :: (Ds, oS) :: (I, oI2) :: nn2) ∧ z ≤ hands ∧
            TDict PySem.Challenge.rw_dm5007_01.row.prog w nn2 oF xf epf ∧ (∀ p ∈ nn, p ∈ nn2) ∧ (∀ p ∈ nn2, p.1 ≠ J ∧ p.1 ≠ Df ∧ p.1 ≠ Ds ∧ p.1 ≠ I ∧ p.1 ≠ R) ∧ mm "times" = some (.ref l) ∧ mm "hands" = some (.int hands u) ∧ mm "t" = some (.int tv tt) ∧ mm "fresh" = some (.ref Df) ∧ mm "state" = some (.ref ax) ∧
            (∀ f ∈ xf.map (·.1), ∃ st ∈ xs.map (·.1), ∃ q, q < hands ∧ f.Perm (st.set q (st.getD q 0 + tv))) ∧
            (∀ i, i < xs.length - (j + 1) → ∀ q, q < hands → ∃ f ∈ xf.map (·.1), f.Perm (((xs.map (·.1)).getD i []).set q (((xs.map (·.1)).getD i []).getD q 0 + tv))) ∧
            (∀ q, q < hands - z → ∃ f ∈ xf.map (·.1), f.Perm (st.set q (st.getD q 0 + tv))) ∧ xf.length ≤ (xs.length - (j + 1)) * hands + (hands - z)) ?hE3 (n := hands) ?init3 ?turn3
          case hE3 => with_unfolding_all passes_own
          case init3 =>
            refine ⟨_, _, _, oF, xf, epf, nn2, rfl, F25, by rw [Int.sub_self]; exact News.sub N25 (by walk_at "led_sub"), Nat.le_refl _, hT21, hsub21, fun p hp => ⟨(hoff21 p hp).1, (hoff21 p hp).2.1, (hoff21 p hp).2.2.1, (hoff21 p hp).2.2.2, Nat.ne_of_lt (lR p (.tail _ (.tail _ (.tail _ (.tail _ (.tail _ hp))))))⟩, by walk_at "loc", by walk_at "loc", by walk_at "loc", by walk_at "loc", by walk_at "loc", hA, hB, fun q hq => absurd hq (by omega), by omega⟩
          case turn3 =>
            clear F25 N25 lR
            (try clear F24 N24)
            (try clear F23 N23)
            clear hA hB hxf hT21 hoff21 hsub21
            rintro z s' ⟨h, tk, mm3, oF, xf, epf, nn2, rfl, F31, N31, hz3, hT31, hsub31, hoff31, q1, q2, q3, q4, q5, hA, hB, hC, hxf⟩
            have hR31 : ∀ x, ∀ p ∈ (J, oJ2) :: (Df, x) :: (Ds, oS) :: (I, oI2) :: nn2, p.1 ≠ R := fun x => List.forall_mem_cons.mpr ⟨hRJ, List.forall_mem_cons.mpr ⟨hRf, List.forall_mem_cons.mpr ⟨hRs, List.forall_mem_cons.mpr ⟨hRI, fun p hp => (hoff31 p hp).2.2.2.2⟩⟩⟩⟩
            cases z with
            | zero =>
              refine next_range_end rfl F31 N31 (hR31 _) (by omega) ?_
              intro h32 F32 N32
              walk_at "go3"
              refine ⟨j, by omega, _, _, _, oF, xf, epf, nn2, oJ2, rfl, by assumption, by assumption, by rw [show xs.length - j = xs.length - (j + 1) + 1 by omega]; exact it22, by omega, hT31, hsub31, fun p hp => ⟨(hoff31 p hp).1, (hoff31 p hp).2.1, (hoff31 p hp).2.2.1, (hoff31 p hp).2.2.2.1⟩, q1, q2, q3, q4, hA, ?_, ?_⟩
              · intro i hi q hq
                by_cases hc : i < xs.length - (j + 1)
                · exact hB i hc q hq
                · obtain rfl : i = xs.length - (j + 1) := by omega
                  rw [estx]
                  exact hC q hq
              · rw [show xs.length - j = xs.length - (j + 1) + 1 by omega, Nat.add_mul, Nat.one_mul]
                exact hxf
            | succ z =>
              refine next_range F31 N31 (hR31 _) (by omega) ?_
              intro t32 h32 tk32 F32 N32
              have e6 : ((hands:Int) - ((z + 1 : Nat) : Int)) + 1 = (hands:Int) - (z : Nat) := by omega
              have e7 : (((z + 1 : Nat) : Int)) - 1 = (z : Nat) := by omega
              have e8 : ((hands:Int) - ((z + 1 : Nat) : Int)) = ((hands - (z + 1) : Nat) : Int) := by omega
              rw [e6, e7] at N32
              rw [e8]
              walk_at "go3"
              rename_i h33 F33 N33
              refine kup_listOfT (zs := tvs) F33 N33 (.tail _ (.tail _ (.tail _ (.tail _ (.tail _ (hsub31 _ tm)))))) rfl ?_ (by rw [sizeLine_eq]; show tvs.length ≤ _; omega)
              intro Dl c34 h34 F34 N34 l34
              have hq : hands - (z + 1) < tvs.length := by omega
              have hoffL : ∀ p ∈ (R, rangeIt ((hands:Int) - z) z 1) :: (J, oJ2) :: (Df, oF) :: (Ds, oS) :: (I, oI2) :: nn2, p.1 ≠ Dl := fun p hp => Nat.ne_of_lt (l34 p hp)
              walk_at "go3"
              refine get_at (us := tvs) (n := c34) (hands - (z + 1)) (by assumption) rfl hq (by omega) ?_
              obtain ⟨tq, etq⟩ := ints_at tI (i := hands - (z + 1)) (by omega)
              rw [etq]
              walk_at "go3"
              refine set_at (us := tvs) (n := c34) (hands - (z + 1)) (by assumption) (by assumption) hoffL rfl hq (by omega) ?_
              intro h35 F35 N35
              walk_at "go3"
              refine getm_sort N35 (.head _) ?_
              walk_at "go3"
              refine sort_ints (by assumption) N35 hoffL (ints_set tI) (by rw [List.length_set]; omega) ?_
              intro us ms c36 h36 hus hms _ F36 N36
              walk_at "go3"
              refine kde_tupleOf (zs := us) F36 N36 (News.isList N36 (.head _)) ?_ rfl ?_
              · have := hus.length
                have := hms.length_eq
                rw [List.length_set] at this
                rw [List.size_toArray]
                omega
              intro Tn h37 F37 N37 l37
              walk_at "go3"
              have hlf : xf.length ≤ 10000 := by
                have : (xs.length - (j + 1)) * hands ≤ 2187 * 3 := Nat.mul_le_mul (by omega) hh3
                omega
              have hpm : ms.Perm (st.set (hands - (z + 1)) (st.getD (hands - (z + 1)) 0 + tv)) := hms
              refine set_T (d := Df) (o := oF) (news := (Tn, tupOf us 0) :: (Dl, listOf us.toArray c36) :: (R, rangeIt ((hands:Int) - z) z 1) :: (J, oJ2) :: (Ds, oS) :: (I, oI2) :: nn2) (nb := (Tn, tupOf us 0) :: nn2) (xs := xf) (ks := ms) (by ktr_units) F37 (News.sub N37 (by walk_at "led_sub")) ?_ (by walk_at "led_sub") (hT31.more fun p hp => .tail _ hp) ⟨us, 0, .head _, hus⟩ hlf ?_
              · exact List.forall_mem_cons.mpr ⟨Nat.ne_of_gt (l37 _ (.tail _ (.tail _ (.tail _ (.head _))))), List.forall_mem_cons.mpr ⟨Nat.ne_of_gt (l34 _ (.tail _ (.tail _ (.head _)))), List.forall_mem_cons.mpr ⟨hRf.symm, List.forall_mem_cons.mpr ⟨hJf.symm, List.forall_mem_cons.mpr ⟨hDfs.symm, List.forall_mem_cons.mpr ⟨hDfI.symm, fun p hp => (hoff31 p hp).2.1⟩⟩⟩⟩⟩⟩
              intro h38 tk38 o38 ep38 F38 N38 x38
              walk_at "go3"
              refine ⟨z, by omega, _, _, _, o38, _, ep38, (Tn, tupOf us 0) :: nn2, rfl, by assumption, News.sub N38 (by walk_at "led_sub"), by omega, x38, fun p hp => .tail _ (hsub31 p hp), List.forall_mem_cons.mpr ⟨⟨Nat.ne_of_gt (l37 _ (.tail _ (.tail _ (.head _)))), Nat.ne_of_gt (l37 _ (.tail _ (.tail _ (.tail _ (.head _))))), Nat.ne_of_gt (l37 _ (.tail _ (.tail _ (.tail _ (.tail _ (.head _)))))), Nat.ne_of_gt (l37 _ (.tail _ (.tail _ (.tail _ (.tail _ (.tail _ (.head _))))))), Nat.ne_of_gt (l37 _ (.tail _ (.head _)))⟩, hoff31⟩, by walk_at "loc", by walk_at "loc", by walk_at "loc", by walk_at "loc", by walk_at "loc", ?_, ?_, ?_, ?_⟩
              · intro f hf
                rcases (stored_keys f).mp hf with hf | rfl
                · exact hA f hf
                · exact ⟨st, hstm, hands - (z + 1), by omega, hpm⟩
              · intro i hi q hq
                obtain ⟨f, hf, hp⟩ := hB i hi q hq
                exact ⟨f, (stored_keys f).mpr (.inl hf), hp⟩
              · intro q hq
                by_cases hc : q < hands - (z + 1)
                · obtain ⟨f, hf, hp⟩ := hC q hc
                  exact ⟨f, (stored_keys f).mpr (.inl hf), hp⟩
                · obtain rfl : q = hands - (z + 1) := by omega
                  exact ⟨ms, (stored_keys ms).mpr (.inr rfl), hpm⟩
              · refine Nat.le_trans stored_length ?_
                omega
end
end

section
local macro_rules | `(tactic| walk_at "loadName") => `(tactic| (k_here; k_dflt (refine' loadX_L ?k1 ?k2 ?_; (case k1 => k_asm); (case k2 => walk_at "loc"); k_whole)))
local macro_rules | `(tactic| walk_at "go4") => `(tactic| repeat' (first | (k_unfold; (try dsimp only)) | ((fail_if_success (with_reducible show wpAny _ _ (storeName _ _ _) _ _ _)); walk_at "go5") | ((with_reducible show wpAny _ _ (storeName _ _ _) _ _ _); (fail_if_success (with_reducible show wpAny _ _ (storeName _ (PySem.Str.ofString "high") _) _ _ _)); walk_at "go5")))
local macro_rules | `(tactic| walk_at "go5") => `(tactic| ((fail_if_success (with_reducible show wpAny _ _ (binaryOp .Add (Value.ref _) (Value.ref _)) _ _ _)); (fail_if_success (with_reducible show wpAny _ _ (binaryOp .Mult (Value.ref _) _) _ _ _)); (fail_if_success (with_reducible show wpAny _ _ (binaryOp .Mult (Value.int (@HMul.hMul Int Int Int _ (@HMul.hMul Int Int Int _ _ _) _) _) (Value.int _ _)) _ _ _)); walk_at "stop"; first | walk1 | (dsimp only; walk1) | (leave1; walk_say "STEP leave1"; (try dsimp only)) | (dsimp only [WEnd, NextIs])))
section
variable {w : World} {p : Program} {loose : List Str} {mean : ExcName → Option Value} {mg mb : Str → Option Value} {dp un : Nat} {gd : Option (List Code)} {cn : Str} {cs : Scope} {a : Addr} {ccd : Value} {cl : List (Str × Addr)} {outer : List Env} {A₀ : Around} {base h₀ : Heap} {L : Addr} {m : Str → Option Value} {s : Shared} {Q E : Value → Shared → Prop}
theorem madeOf (hands : Nat) (c : Int) {rest : List (Addr × Obj)} {u u2 : Tok}
    (B : Below A₀ base outer h₀) (F : Fr h₀ L s.heap m) (X : (hd.heap_39 w.params).In h₀) (N : News h₀ L s.heap rest) (T : Top p loose mean mg mb h₀) (hk : cs.kind = .function)
    (hd : dp + 7 < recursionLimit) (hu : un + 60 < cLine)
    (hh : hands = 2 ∨ hands = 3) (hc : 1 ≤ c)
    (ret : ∀ (tk' : Nat) (h' : Heap), Fr h₀ L h' m → News h₀ L h' rest → Q (.bool true) { s with heap := h', toks := tk' }) :
    wpAny (model PySem.Challenge.rw_dm5007_01.row.prog w) (ktrTop dp un gd cn cs L a ccd cl outer) (call (.ref 111) [.int hands u, .int c u2]) Q E s := by
  revert X; k_fill; intro X
  refine wpAny_call ?_
  k_dflt (walk_at "cells_enter")
  rename_i g' L' h' tk' FG' F' B' X' T' l1 oK dK N'
  obtain ⟨m1, F1, e1, e2⟩ : ∃ m1, Fr g' L' h' m1 ∧ m1 "hands" = some (.int hands u) ∧ m1 "c" = some (.int c u2) := ⟨_, F', rfl, rfl⟩
  clear F'
  walk_at "go4"
  rename_i D1 h2 F2 N2 l2
  obtain ⟨l21, l22⟩ := l2
  refine storeX_C (k := L' + 1) (o := oK) F2 (News.sub (news' := (L' + 1, oK) :: (D1, listOf ([] : List Value).toArray 0) :: rest) N2 (by walk_at "led_sub")) ?_ dK ?hc1 ?hc2 ?_
  · exact List.forall_mem_cons.mpr ⟨Nat.ne_of_gt l21, fun p hp => Nat.ne_of_lt (Nat.lt_succ_of_lt (l1 p hp))⟩
  case hc1 => kernel_rfl
  case hc2 => kernel_rfl
  intro h3 o3 F3 N3 d3
  walk_at "go4"
  refine for_start ?_
  walk_at "go4"
  refine range3 (by assumption) (by assumption) (by decide) (PyProof.noPylong_small (by decide)) ?_
  intro r h4 F4 N4 lr
  have hsm : Builtin.Range.small (2 * (hands : Int) - 1) hands (-1) = true := by
    rcases hh with rfl | rfl
    · decide
    · decide
  have hsz : Builtin.Range.rangeSize (2 * (hands : Int) - 1) hands (-1) = ((hands - 1 : Nat) : Int) := by
    rcases hh with rfl | rfl
    · decide
    · decide
  walk_at "go4"
  refine iter_range F4 N4 (.head _) hsm ?_
  intro I h5 F5 N5 lI
  rw [hsz] at N5
  have hIK : L' + 1 ≠ I := Nat.ne_of_lt (lI _ (.tail _ (.head _)))
  have hDK : D1 ≠ L' + 1 := Nat.ne_of_gt l21
  have hrK : ∀ p ∈ rest, p.1 ≠ L' + 1 := fun p hp => Nat.ne_of_lt (Nat.lt_succ_of_lt (l1 p hp))
  refine for_ind (I := fun k s' => ∃ (h : Heap) (tk : Nat) (mm : Str → Option Value) (o : Obj) (us : List Value) (D : Addr) (c0 : Nat) (nn : List (Addr × Obj)), s' = { s with heap := h, toks := tk } ∧ Fr g' L' h mm ∧ News g' L' h ((I, rangeIt ((hands:Int) + k) k (-1)) :: (L' + 1, o) :: (D, listOf us.toArray c0) :: nn) ∧ k ≤ hands - 1 ∧
      o.data = .cell (some (.ref D)) ∧ IntsAre us (hiPart hands c (hands - 1 - k)) ∧ (∀ p ∈ rest, p ∈ nn) ∧ (∀ p ∈ nn, p.1 ≠ I ∧ p.1 ≠ L' + 1) ∧ D ≠ I ∧ D ≠ L' + 1 ∧ mm "hands" = some (.int hands u) ∧ mm "c" = some (.int c u2)) ?hE (n := hands - 1) ?init ?turn
  case hE => with_unfolding_all passes_own
  case init =>
    refine ⟨_, _, _, o3, [], D1, 0, rest, rfl, F5, ?_, Nat.le_refl _, d3, by rw [Nat.sub_self]; exact .nil, fun _ h => h, fun p hp => ⟨Nat.ne_of_lt (lI p (.tail _ (.tail _ (.tail _ hp)))), hrK p hp⟩, Nat.ne_of_lt (lI _ (.tail _ (.tail _ (.head _)))), hDK, by walk_at "loc", by walk_at "loc"⟩
    have e1 : 2 * (hands : Int) - 1 = (hands : Int) + ((hands - 1 : Nat) : Int) := by omega
    rw [e1] at N5
    exact News.sub N5 (by walk_at "led_sub")
  case turn =>
    rintro k s' ⟨h, tk, mm, o, us, D, c0, nn, rfl, F11, N11, hk, hd11, hI11, hsub, hoff, hDI, hDK2, f1, f2⟩
    have hoffI : ∀ x, ∀ p ∈ (L' + 1, x) :: (D, listOf us.toArray c0) :: nn, p.1 ≠ I := fun x => List.forall_mem_cons.mpr ⟨hIK, List.forall_mem_cons.mpr ⟨hDI, fun p hp => (hoff p hp).1⟩⟩
    cases k with
    | zero =>
      refine next_range_end rfl F11 N11 (hoffI _) (by omega) ?_
      intro h12 F12 N12
      walk_at "go4"
      rw [Nat.sub_zero] at hI11
      rename_i D2 h13 F13 N13 l13
      obtain ⟨l131, l132, l133⟩ := l13
      obtain ⟨tv, N13⟩ : ∃ tv : Tok, News g' L' h13 ((D2, listOf [Value.int (hands * c) tv].toArray 0) :: (L' + 1, o) :: (D, listOf us.toArray c0) :: nn) := ⟨_, N13⟩
      refine rep_at (l1 := D2) (v := Value.int (hands * c) tv) (k := 3) F13 N13 (.head _) (by omega) ?_
      intro D3 h14 F14 N14 l14
      walk_at "go4"
      have hul := hI11.length
      have hpl : (hiPart hands c (hands - 1)).length ≤ 4 := by
        rw [hiPart_len]; omega
      refine cat_at (l1 := D) (l2 := D3) (us := us) (n1 := c0) (vs := List.replicate 3 (Value.int (hands * c) tv)) (n2 := 0) F14 N14 (.tail _ (.tail _ (.tail _ (.head _)))) (.head _) (by rw [List.length_replicate]; omega) ?_
      intro D4 h15 F15 N15 l15
      walk_at "go4"
      refine storeX_C (k := L' + 1) (o := o) F15 (News.sub (news' := (L' + 1, o) :: (D4, listOf (us ++ List.replicate 3 (Value.int (hands * c) tv)).toArray 0) :: (D3, listOf (List.replicate 3 (Value.int (hands * c) tv)).toArray 0) :: (D2, listOf [Value.int (hands * c) tv].toArray 0) :: (D, listOf us.toArray c0) :: nn) N15 (by walk_at "led_sub")) ?_ hd11 ?hc5 ?hc6 ?_
      · exact List.forall_mem_cons.mpr ⟨Nat.ne_of_gt (l15 _ (.tail _ (.tail _ (.head _)))), List.forall_mem_cons.mpr ⟨Nat.ne_of_gt (l14 _ (.tail _ (.head _))), List.forall_mem_cons.mpr ⟨Nat.ne_of_gt l131, List.forall_mem_cons.mpr ⟨hDK2, fun p hp => (hoff p hp).2⟩⟩⟩⟩
      case hc5 => kernel_rfl
      case hc6 => kernel_rfl
      intro h16 o16 F16 N16 d16
      have hhs : IntsAre (us ++ List.replicate 3 (Value.int (hands * c) tv)) (hiAll hands c) := hI11.append (ints_repv (t := tv))
      have hoff7 : ∀ p ∈ (D3, listOf (List.replicate 3 (Value.int (hands * c) tv)).toArray 0) :: (D2, listOf [Value.int (hands * c) tv].toArray 0) :: (D, listOf us.toArray c0) :: nn, p.1 ≠ L' + 1 ∧ p.1 ≠ D4 := List.forall_mem_cons.mpr ⟨⟨Nat.ne_of_gt (l14 _ (.tail _ (.head _))), Nat.ne_of_lt (l15 _ (.head _))⟩, List.forall_mem_cons.mpr ⟨⟨Nat.ne_of_gt l131, Nat.ne_of_lt (l15 _ (.tail _ (.head _)))⟩, List.forall_mem_cons.mpr ⟨⟨hDK2, Nat.ne_of_lt (l15 _ (.tail _ (.tail _ (.tail _ (.head _)))))⟩, fun p hp => ⟨(hoff p hp).2, Nat.ne_of_lt (l15 p (.tail _ (.tail _ (.tail _ (.tail _ hp)))))⟩⟩⟩⟩
      have hK4 : D4 ≠ L' + 1 := Nat.ne_of_gt (l15 _ (.tail _ (.tail _ (.head _))))
      generalize us ++ List.replicate 3 (Value.int (hands * c) tv) = hs at *
      obtain ⟨nn7, N17, hsub7, hoff7⟩ : ∃ nn7, News g' L' h16 ((L' + 1, o16) :: (D4, listOf hs.toArray 0) :: nn7) ∧ (∀ p ∈ rest, p ∈ nn7) ∧ ∀ p ∈ nn7, p.1 ≠ L' + 1 ∧ p.1 ≠ D4 := ⟨_, N16, fun p hp => .tail _ (.tail _ (.tail _ (hsub p hp))), hoff7⟩
      clear N16 N15 N14 N13
      walk_at "go4"
      refine' listcomp_assign (cl := [(Str.ofString "high", L' + 1)]) ?ca1 ?ca2 ?ca3 ?ca4 ?ca5 ?_ ?ca7
      case ca1 => rfl
      case ca2 => rfl
      case ca3 => decide
      case ca4 => rfl
      case ca5 => decide
      case ca7 => (intro x; with_unfolding_all rfl)
      walk_at "go4"
      have hql : hs.length = 2 * hands + 1 := by rw [hhs.length, hiAll_len hh]
      refine len_lst (News.isList N17 (.tail _ (.head _))) (by omega) ?_
      intro t18 tk18
      walk_at "go4"
      refine range1 (by assumption) N17 ?_
      intro r2 h18 tk19 t19 t20 F18 N18 lr2
      walk_at "go4"
      have hsm2 : Builtin.Range.small 0 hs.length 1 = true := by
        rw [hql]
        rcases hh with rfl | rfl
        · decide
        · decide
      refine iter_range F18 N18 (.head _) hsm2 ?_
      intro I2 h19 F19 N19 lI2
      rw [rangeSize0] at N19
      have hKI : L' + 1 ≠ I2 := Nat.ne_of_lt (lI2 _ (.tail _ (.head _)))
      have h4I : D4 ≠ I2 := Nat.ne_of_lt (lI2 _ (.tail _ (.tail _ (.head _))))
      generalize hq : hs.length = q at *
      refine ⟨g', _, _, fun k acc nw => k ≤ q ∧ ∃ nn, nw = (I2, rangeIt ((q : Int) - k) k 1) :: (L' + 1, o16) :: (D4, listOf hs.toArray 0) :: nn ∧ (∀ p ∈ nn7, p ∈ nn) ∧ (∀ p ∈ nn, p.1 ≠ I2) ∧ acc.length = q - k ∧ ∀ i < q - k, L2s nn (acc.getD i .none) ((hiAll hands c).getD i 0, (i : Int)),
        fun acc nw => ∃ nn, nw = (L' + 1, o16) :: (D4, listOf hs.toArray 0) :: nn ∧ (∀ p ∈ nn7, p ∈ nn) ∧ acc.length = q ∧ ∀ i < q, L2s nn (acc.getD i .none) ((hiAll hands c).getD i 0, (i : Int)), q, F19,
        News.sub (news' := (I2, rangeIt 0 q 1) :: (L' + 1, o16) :: (D4, listOf hs.toArray 0) :: nn7) N19 (by walk_at "led_sub"), ?kJ, ?kS, ?kT, ?kF⟩
      case kJ => exact ⟨Nat.le_refl _, nn7, by rw [Int.sub_self], fun _ h => h, fun p hp => Nat.ne_of_lt (lI2 p (.tail _ (.tail _ (.tail _ hp)))), by simp, fun i hi => absurd hi (by omega)⟩
      case kS => exact fun s' Q' E' N h => iter_rangeIt N (.head _) h
      case kT =>
        rintro D C hDC hlt k acc nw n₂ mC s' ⟨hk, nn, rfl, hsub, hnI, hlen, hτ⟩ ⟨h5, tk5, oC, rfl, F5, N5, hO5, hoff, hne⟩
        change News g' L' h5 ((D, listOf acc.toArray n₂) :: (C, oC) :: (I2, rangeIt ((q : Int) - k) k 1) :: (L' + 1, o16) :: (D4, listOf hs.toArray 0) :: nn) at N5
        change Off _ D C at hoff
        change D ≠ C at hne
        have oI2 := hoff (I2, _) (.head _)
        have oK2 := hoff (L' + 1, _) (.tail _ (.head _))
        have oD4 := hoff (D4, _) (.tail _ (.tail _ (.head _)))
        have onn : Off nn D C := fun p hp => hoff p (.tail _ (.tail _ (.tail _ hp)))
        have N5' := News.sub (news' := (I2, rangeIt ((q : Int) - k) k 1) :: (D, listOf acc.toArray n₂) :: (C, oC) :: (L' + 1, o16) :: (D4, listOf hs.toArray 0) :: nn) N5 (by walk_at "led_sub")
        have hI5 : ∀ p ∈ (D, listOf acc.toArray n₂) :: (C, oC) :: (L' + 1, o16) :: (D4, listOf hs.toArray 0) :: nn, p.1 ≠ I2 := List.forall_mem_cons.mpr ⟨oI2.1.symm, List.forall_mem_cons.mpr ⟨oI2.2.symm, List.forall_mem_cons.mpr ⟨hKI, List.forall_mem_cons.mpr ⟨h4I, hnI⟩⟩⟩⟩
        cases k with
        | zero =>
          refine next_range_end rfl F5 N5' hI5 (by omega) ?_
          intro h6 F6 N6
          exact ⟨(L' + 1, o16) :: (D4, listOf hs.toArray 0) :: nn, mC, ⟨h6, _, oC, rfl, F6, N6, hO5, List.forall_mem_cons.mpr ⟨oK2, List.forall_mem_cons.mpr ⟨oD4, onn⟩⟩, hne⟩, nn, rfl, hsub, by omega, fun i hi => hτ i (by omega)⟩
        | succ k =>
          refine next_range F5 N5' hI5 (by omega) ?_
          intro t6 h6 tk6 F6 N6
          refine wpAny_of_eq (a := ()) (by rfl) ?_
          dsimp only
          have e6 : ((q : Int) - ((k + 1 : Nat) : Int)) + 1 = (q : Int) - (k : Nat) := by omega
          have e7 : (((k + 1 : Nat) : Int)) - 1 = (k : Nat) := by omega
          have e8 : ((q : Int) - ((k + 1 : Nat) : Int)) = ((q - (k + 1) : Nat) : Int) := by omega
          rw [e6, e7] at N6
          rw [e8]
          refine comp_store (x := (D, listOf acc.toArray n₂)) (news := (I2, rangeIt ((q : Int) - k) k 1) :: (L' + 1, o16) :: (D4, listOf hs.toArray 0) :: nn) F6 (News.sub N6 (by walk_at "led_sub")) hO5 hne (List.forall_mem_cons.mpr ⟨oI2.2, List.forall_mem_cons.mpr ⟨oK2.2, List.forall_mem_cons.mpr ⟨oD4.2, fun p hp => (onn p hp).2⟩⟩⟩) rfl rfl ?_
          intro h7 tk7 oC7 F7 N7 hO7
          walk1
          walk1
          walk1
          refine comp_cell (c := L' + 1) (o := o16) (v := .ref D4) N7 d16 (.tail _ (.tail _ (.tail _ (.head _)))) ?x1 ?x2 ?x3 ?_
          case x1 => kernel_rfl
          case x2 => kernel_rfl
          case x3 => kernel_rfl
          refine comp_load (v := .int ((q - (k + 1) : Nat) : Int) t6) N7 hO7 ?y1 (.tail _ (.head _)) rfl ?y2 ?_
          case y1 => walk_at "loc"
          case y2 => kernel_rfl
          refine get_at (us := hs) (n := 0) (rest := []) (q - (k + 1)) (one_of N7 (.tail _ (.tail _ (.tail _ (.tail _ (.head _)))))) rfl (by omega) (by omega) ?_
          obtain ⟨th, eth⟩ := ints_at hhs (i := q - (k + 1)) (by rw [← hhs.length]; omega)
          rw [eth]
          walk1
          refine comp_load (v := .int ((q - (k + 1) : Nat) : Int) t6) N7 hO7 ?y3 (.tail _ (.head _)) rfl ?y4 ?_
          case y3 => walk_at "loc"
          case y4 => kernel_rfl
          walk1
          walk1
          rename_i h8 F8 N8
          have lt8 : ∀ p ∈ (D, listOf acc.toArray n₂) :: (C, oC7) :: (I2, rangeIt ((q : Int) - k) k 1) :: (L' + 1, o16) :: (D4, listOf hs.toArray 0) :: nn, p.1 < h7.objs.size := fun p hp => Heap.lt_size (N7 p hp).1
          refine ⟨k, (I2, rangeIt ((q : Int) - k) k 1) :: (L' + 1, o16) :: (D4, listOf hs.toArray 0) :: (h7.objs.size, listOf [Value.int ((hiAll hands c).getD (q - (k + 1)) 0) th, .int ((q - (k + 1) : Nat) : Int) t6].toArray 0) :: nn, _, by omega, ⟨_, _, _, rfl, F8, News.sub N8 (by walk_at "led_sub"), hO7, ?_, hne⟩, by omega, by omega, (h7.objs.size, listOf [Value.int ((hiAll hands c).getD (q - (k + 1)) 0) th, .int ((q - (k + 1) : Nat) : Int) t6].toArray 0) :: nn, rfl, fun p hp => .tail _ (hsub p hp), List.forall_mem_cons.mpr ⟨Nat.ne_of_gt (lt8 _ (.tail _ (.tail _ (.head _)))), hnI⟩, by rw [List.length_append, hlen]; simp; omega, ?_⟩
          · exact List.forall_mem_cons.mpr ⟨oI2, List.forall_mem_cons.mpr ⟨oK2, List.forall_mem_cons.mpr ⟨oD4, List.forall_mem_cons.mpr ⟨⟨Nat.ne_of_gt (lt8 _ (.head _)), Nat.ne_of_gt (lt8 _ (.tail _ (.head _)))⟩, onn⟩⟩⟩⟩
          · intro i hi
            dsimp only
            by_cases hcc : i < q - (k + 1)
            · have : (acc ++ [Value.ref h7.objs.size]).getD i .none = acc.getD i .none := by
                rw [getD_lt (by rw [List.length_append]; omega), getD_lt (by omega), List.getElem_append_left]
              rw [this]
              exact (hτ i hcc).tail
            · obtain rfl : i = q - (k + 1) := by omega
              have : (acc ++ [Value.ref h7.objs.size]).getD (q - (k + 1)) .none = .ref h7.objs.size := by
                rw [← hlen]; simp
              rw [this]
              exact ⟨h7.objs.size, _, _, _, rfl, .head _⟩
      case kF =>
        rintro rs nw n₂ mC D C s' ⟨h5, tk5, oC, rfl, F5, N5, hO5, hoff, hne⟩ ⟨nn, rfl, hsub, hlen, hτ⟩
        walk1
        rename_i h6 F6 N6
        refine comp_end F6 N6 hO5 hoff hne ?_
        intro h7 F7 N7 hD
        (try dsimp only)
        walk_at "go4"
        refine' listcomp_eval (cl := []) ?cb2 ?cb3 ?cb4 ?cb5 ?_ ?cb7
        case cb2 => rfl
        case cb3 => decide
        case cb4 => rfl
        case cb5 => decide
        case cb7 => (intro x; with_unfolding_all rfl)
        walk_at "go4"
        refine len_lst (News.isList N7 (.head _)) (by omega) ?_
        intro t21 tk21
        walk_at "go4"
        refine' krv_lit (its := rs.toArray) (zs := rs.reverse) F7 N7 ?sl ?sk ?se ?_ ?ss ?st ?sz
        case sl => exact News.isList N7 (.head _)
        case sk => exact IsPart.int _ _
        case se => simp
        case ss => with_unfolding_all rfl
        case st => (intro _; with_unfolding_all rfl)
        case sz => rw [List.size_toArray, sizeLine_eq]; omega
        intro Dr h8 F8 N8 l8
        have hρ : ∀ v ∈ rs, L2s nn v (l2H h8 v) := fun v hv => by
          obtain ⟨i, hi, rfl⟩ := List.getElem_of_mem hv
          have h1 := hτ i (by omega)
          rw [getD_lt hi] at h1
          have h2 := l2H_eq (News.sub N8 (fun p hp => .tail _ (.tail _ (.tail _ (.tail _ hp))))) h1
          rw [h2]
          exact h1
        have hρt : (rs.map fun v => (l2H h8 v).1) = hiAll hands c := by
          apply List.ext_getElem
          · rw [List.length_map, hlen, ← hhs.length, hq]
          · intro i h1 h2
            have h3 : i < rs.length := by simpa using h1
            have h4 := hτ i (by omega)
            rw [getD_lt h3] at h4
            have h5 := l2H_eq (News.sub N8 (fun p hp => .tail _ (.tail _ (.tail _ (.tail _ hp))))) h4
            rw [List.getElem_map, h5, getD_lt h2]
        walk_at "go4"
        rw [show (rs.length : Int) = ((q : Nat) : Int) by rw [hlen]]
        refine largestL (l2H h8) (l := Dr) (vs := rs.reverse) (n := 0) (q := q) (rest := (D, listOf rs.toArray n₂) :: (L' + 1, o16) :: (D4, listOf hs.toArray 0) :: nn) B' F8 X' N8 T' rfl (by ktr_room) (by ktr_units) (by omega) (by rw [List.length_reverse, hlen]) (by rw [List.length_reverse, hlen]; omega) (fun v hv => (hρ v (List.mem_reverse.mp hv)).more fun p hp => .tail _ (.tail _ (.tail _ hp))) ?_
        intro De es c9 tk9 h9 nn9 F9 N9 hsub9 hoff9 hpe hse
        generalize hρg : l2H h8 = ρ at *
        have hts : (es.map fun v => (ρ v).1) = hiAll hands c := by
          refine fall_eq ?_ ?_ (hiAll_fall hh hc)
          · rw [← hρt]
            exact (hpe.trans (List.reverse_perm _)).map _
          · unfold Fall
            rw [List.pairwise_map]
            exact hse
        have hel : es.length = q := by rw [hpe.length_eq, List.length_reverse, hlen]
        walk_at "go4"
        refine iter_list (l := De) (its := es) (by assumption) N9 (News.isList N9 (.head _)) ?_
        intro J oJ h10 F10 N10 it10 lJ _
        refine comp_items (fun i x => ∃ t, x = .int (ρ (es.getD i .none)).1 t) (ItRule.list (l := De) (n := c9) (.head _)) F10 N10 (fun p hp => Nat.ne_of_lt (lJ p hp)) it10 rfl (by omega) (fun _ => rfl) ?_ ?_
        · intro i D' C' oD oC' oI mC' h tk Q' hi F11 N11 hO hy hQ
          obtain ⟨ar, nr, tr1, tr2, er, mr⟩ := hρ _ (List.mem_reverse.mp (hpe.mem_iff.mp (getD_mem' (d := Value.none) hi)))
          rw [er] at hy
          walk_at "go4"
          refine lst2_0 N11 (.tail _ (.tail _ (.tail _ (.tail _ (hsub9 _ (.tail _ (.tail _ (.tail _ (.tail _ mr)))))))) ) ?_
          exact hQ _ _ _ F11 N11 ⟨tr1, rfl⟩
        · intro acc n12 mC' D' C' oC' h tk F11 N11 hO hoff11 hne11 hlenA hP
          dsimp only
          refine comp_end2 F11 N11 hO hoff11 hne11 ?_
          intro h12 F12 N12 hD12
          have hIa : IntsAre acc (hiAll hands c) := by
            rw [← hts]
            refine ints_of (by simpa using hlenA) fun i hi => ?_
            have hi' : i < es.length := by simpa using hi
            obtain ⟨t, e⟩ := hP i hi'
            refine ⟨t, ?_⟩
            rw [e, getD_lt hi', getD_lt hi, List.getElem_map]
          walk_at "go4"
          refine replacing hands (l := D') (vs := acc) (ts := hiAll hands c) (n := n12) (rest := (De, listOf es.toArray c9) :: nn9) B' F12 X' N12 hD12 T' rfl (by ktr_room) (by ktr_units) (by omega) hIa (by omega) (by omega) ?_
          intro D1 us1 c13 tk13 h13 nn13 τ1 F13 N13 hsub13 hoff13 hlen13 hT13 hrun13
          have hin : ∀ p ∈ (D, listOf rs.toArray n₂) :: (L' + 1, o16) :: (D4, listOf hs.toArray 0) :: nn, p ∈ nn13 := fun p hp => hsub13 p (.tail _ (.tail _ (hsub9 p (.tail _ hp))))
          walk_at "go4"
          rename_i h13b F13b N13b h14 F14 N14
          have hlt13 : ∀ p ∈ (D1, listOf us1.toArray c13) :: nn13, p.1 < h13b.objs.size := fun p hp => Heap.lt_size (N13b p hp).1
          dsimp only at N14 ⊢
          generalize h13b.objs.size = Da at *
          have e14 : (hands : Int) * ((hands : Int) - 1) = ((hands * (hands - 1) : Nat) : Int) := by
            rcases hh with rfl | rfl
            · rfl
            · rfl
          have e14b : hands * (hands - 1) ≤ 6 := by
            rcases hh with rfl | rfl
            · decide
            · decide
          rw [e14]
          refine rep_at (l1 := Da) (v := .int c u2) (n1 := 0) (k := hands * (hands - 1)) F14 N14 (.head _) (by omega) ?_
          intro Db h15 F15 N15 l15
          walk_at "go4"
          rename_i h16 F16b N16b
          have hlt15 : ∀ p ∈ (Db, listOf (List.replicate (hands * (hands - 1)) (Value.int c u2)).toArray 0) :: (Da, listOf [Value.int c u2].toArray 0) :: (D1, listOf us1.toArray c13) :: nn13, p.1 < h15.objs.size := fun p hp => Heap.lt_size (N15 p hp).1
          dsimp only at N16b ⊢
          generalize h15.objs.size = Dc at *
          obtain ⟨tc, N16b⟩ : ∃ tc : Tok, News g' L' h16 ((Dc, listOf [Value.int (hands * c) tc].toArray 0) :: (Db, listOf (List.replicate (hands * (hands - 1)) (Value.int c u2)).toArray 0) :: (Da, listOf [Value.int c u2].toArray 0) :: (D1, listOf us1.toArray c13) :: nn13) := ⟨_, N16b⟩
          refine cat_at (l1 := Db) (l2 := Dc) (us := List.replicate (hands * (hands - 1)) (Value.int c u2)) (n1 := 0) (vs := [Value.int (hands * c) tc]) (n2 := 0) F16b N16b (.tail _ (.head _)) (.head _) (by simp; omega) ?_
          intro Dd h17 F17 N17d l17
          walk_at "go4"
          have hId : IntsAre (List.replicate (hands * (hands - 1)) (Value.int c u2) ++ [Value.int (hands * c) tc]) (List.replicate (hands * (hands - 1)) c ++ [(hands : Int) * c]) := ints_repv.append (.cons _ _ .nil)
          refine popping hands (l := Dd) (vs := List.replicate (hands * (hands - 1)) (Value.int c u2) ++ [Value.int (hands * c) tc]) (ts := List.replicate (hands * (hands - 1)) c ++ [(hands : Int) * c]) (n := 0) B' F17 X' N17d T' rfl (by ktr_room) (by ktr_units) (by simp; omega) hId (by omega) (by omega) ?_
          intro D2 us2 c20 tk20 h20 nn20 τ2 F20 N20 hsub20 hoff20 hlen20 hT20 hrun20
          have hin20 : ∀ p ∈ (D1, listOf us1.toArray c13) :: nn13, p ∈ nn20 := fun p hp => hsub20 p (.tail _ (.tail _ (.tail _ (.tail _ hp))))
          replace N20 := News.sub (news' := (L' + 1, o16) :: (D4, listOf hs.toArray 0) :: (D1, listOf us1.toArray c13) :: (D2, listOf us2.toArray c20) :: nn20) N20 (List.forall_mem_cons.mpr ⟨.tail _ (hin20 _ (.tail _ (hin _ (.tail _ (.head _))))), List.forall_mem_cons.mpr ⟨.tail _ (hin20 _ (.tail _ (hin _ (.tail _ (.tail _ (.head _)))))), List.forall_mem_cons.mpr ⟨.tail _ (hin20 _ (.head _)), fun p hp => hp⟩⟩⟩)
          walk_at "go4"
          rename_i h21 F21 N21
          refine sum_at F21 N21 rfl (News.isList N21 (.tail _ (.head _))) hhs ?_
          intro h22 tk22 t22 F22 N22
          rw [hiAll_sum hh]
          walk_at "go4"
          have hm12 : IntMulOk (3 * (hands : Int) * (hands : Int)) c := by
            refine PySem.IntMulOk.of_left (PySem.intBits_le_64 ?_ ?_)
            · rcases hh with rfl | rfl
              · decide
              · decide
            · rcases hh with rfl | rfl
              · decide
              · decide
          refine mul_int ?_ hm12
          walk_at "go4"
          · exact absurd rfl (by assumption)
          have t1 : ∀ M : Int, M ∈ us1.map (fun u => (τ1 u).1) → (∀ a ∈ us1.map (fun u => (τ1 u).1), a ≤ M) → M = (4 * (hands : Int) - 1) * c := fun M q1 q2 => by
            have e : us1.map (fun u => (τ1 u).1) = (us1.map τ1).map (·.1) := by rw [List.map_map]; rfl
            rw [e] at q1 q2
            exact made_first hh hc hrun13 ⟨q1, q2⟩
          have t2 : ∀ M : Int, M ∈ us2.map (fun u => (τ2 u).1) → (∀ a ∈ us2.map (fun u => (τ2 u).1), a ≤ M) → M = (2 * (hands : Int) - 1) * c := fun M q1 q2 => by
            have e : us2.map (fun u => (τ2 u).1) = (us2.map τ2).map (·.1) := by rw [List.map_map]; rfl
            rw [e] at q1 q2
            exact made_second hh hc hrun20 ⟨q1, q2⟩
          refine spanOf (l := D1) (us := us1) (τ := τ1) (n := c13) (rest := (D2, listOf us2.toArray c20) :: nn20) B' F22 X' (News.sub N22 (by walk_at "led_sub")) T' rfl (by ktr_room) (by ktr_units) (by omega) (by omega) (fun v hv => (hT13 v hv).more fun p hp => .tail _ (hin20 p (.tail _ hp))) ?_
          intro M1 t23 tk23 h23 F23 N23 hM1 hM2
          rw [t1 M1 hM1 hM2]
          walk_at "go4"
          · refine spanOf (l := D2) (us := us2) (τ := τ2) (n := c20) (rest := (D1, listOf us1.toArray c13) :: nn20) B' F23 X' (News.sub N23 (by walk_at "led_sub")) T' rfl (by ktr_room) (by ktr_units) (by omega) (by omega) (fun v hv => (hT20 v hv).more fun p hp => .tail _ hp) ?_
            intro M2 t24 tk24 h24 F24 N24 hM3 hM4
            rw [t2 M2 hM3 hM4]
            walk_at "go4"
            rw [beq_self_eq_true]
            exact ret _ _ (by assumption) (News.sub (by assumption) fun p hp => .tail _ (.tail _ (hin20 p (.tail _ (hin p (.tail _ (.tail _ (.tail _ (hsub p (hsub7 p hp)))))))) ))
          · exact absurd rfl (by assumption)
    | succ k =>
      refine next_range F11 N11 (hoffI _) (by omega) ?_
      intro t12 h12 tk12 F12 N12
      have e6 : (hands : Int) + ((k + 1 : Nat) : Int) + -1 = (hands : Int) + (k : Nat) := by omega
      have e7 : (((k + 1 : Nat) : Int)) - 1 = (k : Nat) := by omega
      rw [e6, e7] at N12
      walk_at "go4"
      rename_i h13 tk13 D2 h14 F14 N14 l14
      obtain ⟨l141, l142, l143, l144⟩ := l14
      have hul := hI11.length
      have hpl : (hiPart hands c (hands - 1 - (k + 1))).length ≤ 4 := by
        rw [hiPart_len]; omega
      refine cat_at (l1 := D) (l2 := D2) (us := us) (n1 := c0) (vs := [_, _]) (n2 := 0) F14 N14 (.tail _ (.tail _ (.tail _ (.head _)))) (.head _) (by simp; omega) ?_
      intro D3 h15 F15 N15 l15
      walk_at "go4"
      refine storeX_C (k := L' + 1) (o := o) (news := (D3, listOf (us ++ [_, _]).toArray 0) :: (I, rangeIt ((hands : Int) + k) k (-1)) :: (D2, listOf [_, _].toArray 0) :: (D, listOf us.toArray c0) :: nn) F15 (News.sub N15 (by walk_at "led_sub")) ?_ hd11 ?hc3 ?hc4 ?_
      · exact List.forall_mem_cons.mpr ⟨Nat.ne_of_gt (l15 _ (.tail _ (.tail _ (.head _)))), List.forall_mem_cons.mpr ⟨hIK.symm, List.forall_mem_cons.mpr ⟨Nat.ne_of_gt l142, List.forall_mem_cons.mpr ⟨hDK2, fun p hp => (hoff p hp).2⟩⟩⟩⟩
      case hc3 => kernel_rfl
      case hc4 => kernel_rfl
      intro h16 o16 F16 N16 d16
      walk_at "go4"
      refine ⟨k, by omega, _, _, _, o16, _, D3, 0, (D2, listOf [_, _].toArray 0) :: (D, listOf us.toArray c0) :: nn, rfl, by assumption, News.sub (by assumption) (by walk_at "led_sub"), by omega, d16, ?_, fun p hp => .tail _ (.tail _ (hsub p hp)), List.forall_mem_cons.mpr ⟨⟨Nat.ne_of_gt l141, Nat.ne_of_gt l142⟩, List.forall_mem_cons.mpr ⟨⟨hDI, hDK2⟩, hoff⟩⟩, Nat.ne_of_gt (l15 _ (.tail _ (.head _))), Nat.ne_of_gt (l15 _ (.tail _ (.tail _ (.head _)))), by walk_at "loc", by walk_at "loc"⟩
      rw [show hands - 1 - k = hands - 1 - (k + 1) + 1 by omega, hiPart_succ, show (2 * (hands : Int) - 1 - ((hands - 1 - (k + 1) : Nat) : Int)) = (hands : Int) + ((k + 1 : Nat) : Int) by omega]
      exact hI11.append (.cons _ _ (.cons _ _ .nil))
end
end

section
theorem gt_no {prog : Program} {w : World} {A : Around} {E : Value → Shared → Prop} {s : Shared} {x y : Int} {t u : Tok} {Q : Value → Shared → Prop} (h0 : x ≤ y) (h : Q (.bool false) s) : wpAny (model prog w) A (compareOp .Gt (.int x t) (.int y u)) Q E s :=
  PySem.P.gt_int (by rw [decide_eq_false (Int.not_lt.mpr h0)]; exact h)
theorem good_end {s₀ sA : Shared} {h : Heap} {L : Addr} {m : Str → Option Value} {ns : List Int} {tk : Nat} (hg : sA.gens = #[]) (F : Fr sA.heap L h m) : GoodW PySem.Challenge.rw_dm5007_01.row.claim (classAt s₀.heap) (ExcName.means s₀.heap) [ofPy (PyData.list (List.map PyData.int ns))] sA (Except.ok (Flow.ret (.bool true))) { sA with heap := h, toks := tk } := by
  refine goodW_bool F hg ?_ ?_
  · intro cls
    rfl
  · wrow_post
local macro_rules | `(tactic| walk_at "loadName") => `(tactic| (k_here; k_dflt (refine' loadX_L ?k1 ?k2 ?_; (case k1 => k_asm); (case k2 => walk_at "loc"); k_whole)))
local macro_rules | `(tactic| walk_at "goc") => `(tactic| repeat' (first | (k_unfold; (try dsimp only)) | ((fail_if_success (with_reducible show wpAny _ _ (PySem.call (Value.ref _) _ _) _ _ _)); (fail_if_success (with_reducible show wpAny _ _ (compareOp .Gt _ _) _ _ _)); walk_at "stop"; first | walk1 | (dsimp only; walk1) | (leave1; walk_say "STEP leave1"; (try dsimp only)) | (dsimp only [WEnd, NextIs]))))
local macro_rules | `(tactic| walk_at "go") => `(tactic| repeat' (first | (k_unfold; (try dsimp only)) | ((fail_if_success (with_reducible show wpAny _ _ (PySem.call (Value.ref _) _ _) _ _ _)); walk_at "stop"; first | walk1 | (dsimp only; walk1) | (leave1; walk_say "STEP leave1"; (try dsimp only)) | (dsimp only [WEnd, NextIs]))))
theorem law_holds : PySem.Challenge.rw_dm5007_01.Holds := hd (by
  k_go0
  (all_goals try k_fold)
  (try dsimp only)
  rename_i as4 as3 aS vS asx hL ra w1 r0 hI hr hc1 hc2 K0 hD h1 F1 N1
  rename Shared => sA
  replace K0 : Below callerA sA.heap [] sA.heap := K0
  obtain ⟨m1, F1, e1⟩ : ∃ m1, Fr sA.heap sA.heap.objs.size h1 m1 ∧ m1 "script" = some (.ref aS) := ⟨_, F1, rfl⟩
  walk_at "go"
  refine rowsOf (a0 := aS) (vs := vS) (rest := []) K0 F1 (by assumption) N1 (by assumption) rfl (by ktr_room) (by ktr_units) hL hI (by omega) ?_
  intro TR DR hn us ts c2 tk2 tn h2 nn2 F2 N2 hTR hoff2 _ hlus hL2 hpos hhn
  have hρ2 : ∀ v ∈ us, L2s nn2 v (l2H h2 v) := fun v hv => by
    obtain ⟨i, hi, rfl⟩ := List.getElem_of_mem hv
    have q1 := hL2 i (by omega)
    rw [getD_lt hi] at q1
    have q2 := l2H_eq (News.sub N2 (fun p hp => .tail _ (.tail _ hp))) q1
    rw [q2]
    exact q1
  have hat : ∀ i (hi : i < us.length), l2H h2 us[i] = (ts.getD i 0, (i : Int)) := fun i hi => by
    have q1 := hL2 i (by omega)
    rw [getD_lt hi] at q1
    exact l2H_eq (News.sub N2 (fun p hp => .tail _ (.tail _ hp))) q1
  have hup : us.Pairwise fun u v => (l2H h2 u).2 < (l2H h2 v).2 := by
    rw [List.pairwise_iff_getElem]
    intro i j hi hj hij
    rw [hat i hi, hat j hj]
    show (i : Int) < (j : Int)
    omega
  have hρt : (us.map fun v => (l2H h2 v).1) = ts := by
    apply List.ext_getElem
    · rw [List.length_map, hlus]
    · intro i q1 q2
      rw [List.getElem_map, hat i (by omega), getD_lt q2]
  generalize l2H h2 = ρ at *
  have hul : us.length ≤ 7 := by omega
  have hTDo : ∀ p ∈ nn2, p.1 ≠ DR := fun p hp => (hoff2 p hp).2
  replace N2 := News.sub (news' := (DR, listOf us.toArray c2) :: (TR, prO (.int (hn : Int) tn) (.ref DR)) :: nn2) N2 (by walk_at "led_sub")
  walk_at "go"
  rename_i h3a h3b h3 F3 N3
  refine falling ρ (l := DR) (vs := us) (n := c2) (rest := (TR, prO (.int (hn : Int) tn) (.ref DR)) :: nn2) K0 F3 (by assumption) N3 (by assumption) rfl (by ktr_room) (by ktr_units) (by omega) (fun v hv => (hρ2 v hv).tail) hup ?_
  intro Df fs c4 tk4 h4 F4 N4 hoff4 hpf hrf
  have hfl : fs.length = us.length := hpf.length_eq
  replace N4 := News.sub (news' := (DR, listOf us.toArray c2) :: (Df, listOf fs.toArray c4) :: nn2) N4 (by walk_at "led_sub")
  walk_at "go"
  refine len_lst (News.isList (by assumption) (.head _)) (by omega) ?_
  intro t5 tk5
  walk_at "go"
  rename_i h5 F5 N5
  refine call_iter_l (its := us) F5 N5 (News.isList N5 (.head _)) ?_
  intro I o6 h6 F6 N6 it6 lI _
  walk_at "go"
  refine largest ρ (l := DR) (I := I) (vs := us) (n := c2) (q := us.length) (o := o6) (rest := (Df, listOf fs.toArray c4) :: nn2) K0 F6 (by assumption) (by assumption) (by assumption) N6 (fun p hp => Nat.ne_of_lt (lI p hp)) (by assumption) (by rfl) (by ktr_room) (by ktr_units) it6 (by omega) (by omega) (by omega) (by omega) (fun v hv => (hρ2 v hv).tail) hup ?_
  intro Dt us7 zs7 c7 tk7 h7 F7 N7 hoff7 hp7 hr7 hl7
  obtain rfl : zs7 = [] := by
    have := hp7.length_eq
    rw [List.length_append] at this
    exact List.length_eq_zero_iff.mp (by omega)
  rw [List.append_nil] at hp7 hr7
  obtain rfl : fs = us7 := (rises_one (hp7.trans hpf.symm) hr7 hrf).symm
  clear hp7 hr7 hl7
  walk_at "go"
  rename_i h8 F8 N8
  refine ne_lists_same (us := fs) N8 (.head _) (.tail _ (.tail _ (.head _))) (by ktr_units) ?_
  have hDtR : Dt ≠ DR := fun e => hoff7 _ (.head _) e.symm
  replace N8 := News.sub (news' := (DR, listOf us.toArray c2) :: (Dt, listOf fs.toArray c7) :: (Df, listOf fs.toArray c4) :: nn2) N8 (by walk_at "led_sub")
  walk_at "go"
  refine len_lst (News.isList (by assumption) (.head _)) (by omega) ?_
  intro t9 tk9
  have e9 : (us.length : Int) - 1 = ((us.length - 1 : Nat) : Int) := by omega
  walk_at "go"
  rw [e9]
  refine call_iter_l (its := us) F8 N8 (News.isList N8 (.head _)) ?_
  intro I2 o10 h10 F10 N10 it10 lI2 _
  walk_at "go"
  refine largest ρ (l := DR) (I := I2) (vs := us) (n := c2) (q := us.length - 1) (o := o10) (rest := (Dt, listOf fs.toArray c7) :: (Df, listOf fs.toArray c4) :: nn2) K0 F10 (by assumption) (by assumption) (by assumption) N10 (fun p hp => Nat.ne_of_lt (lI2 p hp)) (by assumption) rfl (by ktr_room) (by ktr_units) it10 (by omega) (by omega) (by omega) (by omega) (fun v hv => (hρ2 v hv).more fun p hp => .tail _ (.tail _ hp)) hup ?_
  intro De us11 zs11 c11 tk11 h11 F11 N11 hoff11 hp11 hr11 hl11
  have hfz : us11 ++ zs11 = fs := rises_one (hp11.trans hpf.symm) hr11 hrf
  obtain rfl : us11 = fs.dropLast := by
    have hz : zs11.length = 1 := by
      have := hp11.length_eq
      rw [List.length_append] at this
      omega
    obtain ⟨z, rfl⟩ := List.length_eq_one_iff.mp hz
    rw [← hfz, List.dropLast_concat]
  clear hp11 hr11 hfz
  walk_at "go"
  refine front_at (l1 := Df) (us := fs) (c1 := c4) F11 N11 (.tail _ (.tail _ (.tail _ (.head _)))) (by omega) ?_
  intro Dg h12 F12 N12 l12
  walk_at "go"
  refine ne_lists_same (us := fs.dropLast) N12 (.tail _ (.head _)) (.head _) (by ktr_units) ?_
  replace N12 := News.sub (news' := (Dt, listOf fs.toArray c7) :: (DR, listOf us.toArray c2) :: nn2) N12 (by walk_at "led_sub")
  have hρf : ∀ v ∈ fs, L2s nn2 v (ρ v) := fun v hv => hρ2 v (hpf.mem_iff.mp hv)
  walk_at "go"
  refine' listcomp_eval (cl := []) ?ca2 ?ca3 ?ca4 ?ca5 ?_ ?ca7
  case ca2 => rfl
  case ca3 => decide
  case ca4 => rfl
  case ca5 => decide
  case ca7 => (intro x; with_unfolding_all rfl)
  walk_at "go"
  refine iter_list (l := Dt) (its := fs) (by assumption) N12 (News.isList N12 (.head _)) ?_
  intro J1 oJ1 hj1 Fj1 Nj1 itj1 lJ1 _
  refine comp_items (fun i x => ∃ t, x = .int (ρ ((fs).getD i .none)).1 t) (ItRule.list (l := Dt) (n := c7) (.head _)) Fj1 Nj1 (fun p hp => Nat.ne_of_lt (lJ1 p hp)) itj1 rfl (by omega) (fun _ => rfl) ?_ ?_
  · intro i D' C' oD oC' oI mC' h tk Q' hi Fx Nx hO hy hQ
    obtain ⟨ar, nr, tr1, tr2, er, mr⟩ := hρf _ (getD_mem' (d := Value.none) hi)
    rw [er] at hy
    walk_at "go"
    refine lst2_0 Nx (.tail _ (.tail _ (.tail _ (.tail _ (.tail _ mr))))) ?_
    exact hQ _ _ _ Fx Nx ⟨tr1, rfl⟩
  intro acc1 na1 mC1 Da1 C1 oC1 ha1 tka1 Fa1 Na1 hO1 hoffa1 hnea1 hlena1 hPa1
  dsimp only
  refine comp_end2 Fa1 Na1 hO1 hoffa1 hnea1 ?_
  intro hb1 Fb1 Nb1 hDb1
  have hIa1 : IntsAre acc1 (fs.map fun v => (ρ v).1) := by
    refine ints_of (by simpa using hlena1) fun i hi => ?_
    have hi' : i < (fs).length := by simpa using hi
    obtain ⟨t, e⟩ := hPa1 i hi'
    refine ⟨t, ?_⟩
    rw [e, getD_lt hi', getD_lt hi, List.getElem_map]
  walk_at "go"
  refine replacing hn (l := Da1) (vs := acc1) (ts := fs.map fun v => (ρ v).1) (n := na1) (rest := (Dt, listOf fs.toArray c7) :: (DR, listOf us.toArray c2) :: nn2) K0 Fb1 (by assumption) Nb1 hDb1 (by assumption) rfl (by ktr_room) (by ktr_units) (by rw [hIa1.length, List.length_map]; omega) hIa1 (by omega) (by omega) ?_
  intro Dd us1 c14 tk14 h14 nn14 τ1 F14 N14 hsub14 hoff14 hlen14 hT14 hrun14
  have hin14 : ∀ p ∈ (DR, listOf us.toArray c2) :: nn2, p ∈ nn14 := fun p hp => hsub14 p (.tail _ (.tail _ hp))
  replace N14 := News.sub (news' := (DR, listOf us.toArray c2) :: (Dd, listOf us1.toArray c14) :: nn14) N14 (List.forall_mem_cons.mpr ⟨.tail _ (hin14 _ (.head _)), fun p hp => hp⟩)
  walk_at "go"
  rename_i h15 F15 N15
  refine' listcomp_eval (cl := []) ?cb2 ?cb3 ?cb4 ?cb5 ?_ ?cb7
  case cb2 => rfl
  case cb3 => decide
  case cb4 => rfl
  case cb5 => decide
  case cb7 => (intro x; with_unfolding_all rfl)
  walk_at "go"
  have hρ14 : ∀ v ∈ us, L2s nn14 v (ρ v) := fun v hv => (hρ2 v hv).more fun p hp => hin14 p (.tail _ hp)
  refine iter_list (l := DR) (its := us) (by assumption) N15 (News.isList N15 (.head _)) ?_
  intro J2 oJ2 hj2 Fj2 Nj2 itj2 lJ2 _
  refine comp_items (fun i x => ∃ t, x = .int (ρ ((us).getD i .none)).1 t) (ItRule.list (l := DR) (n := c2) (.head _)) Fj2 Nj2 (fun p hp => Nat.ne_of_lt (lJ2 p hp)) itj2 rfl (by omega) (fun _ => rfl) ?_ ?_
  · intro i D' C' oD oC' oI mC' h tk Q' hi Fx Nx hO hy hQ
    obtain ⟨ar, nr, tr1, tr2, er, mr⟩ := hρ14 _ (getD_mem' (d := Value.none) hi)
    rw [er] at hy
    walk_at "go"
    refine lst2_0 Nx (.tail _ (.tail _ (.tail _ (.tail _ (.tail _ mr))))) ?_
    exact hQ _ _ _ Fx Nx ⟨tr1, rfl⟩
  intro acc2 na2 mC2 Da2 C2 oC2 ha2 tka2 Fa2 Na2 hO2 hoffa2 hnea2 hlena2 hPa2
  dsimp only
  refine comp_end2 Fa2 Na2 hO2 hoffa2 hnea2 ?_
  intro hb2 Fb2 Nb2 hDb2
  have hIa2 : IntsAre acc2 (ts) := by
    rw [← hρt]
    refine ints_of (by simpa using hlena2) fun i hi => ?_
    have hi' : i < (us).length := by simpa using hi
    obtain ⟨t, e⟩ := hPa2 i hi'
    refine ⟨t, ?_⟩
    rw [e, getD_lt hi', getD_lt hi, List.getElem_map]
  walk_at "go"
  refine popping hn (l := Da2) (vs := acc2) (ts := ts) (n := na2) (rest := (DR, listOf us.toArray c2) :: (Dd, listOf us1.toArray c14) :: nn14) K0 Fb2 (by assumption) Nb2 (by assumption) rfl (by ktr_room) (by ktr_units) (by rw [hIa2.length]; omega) hIa2 (by omega) (by omega) ?_
  intro Dl us2 c16 tk16 h16 nn16 τ2 F16 N16 hsub16 hoff16 hlen16 hT16 hrun16
  have hin16 : ∀ p ∈ (DR, listOf us.toArray c2) :: (Dd, listOf us1.toArray c14) :: nn14, p ∈ nn16 := fun p hp => hsub16 p (.tail _ hp)
  replace N16 := News.sub (news' := (DR, listOf us.toArray c2) :: (Dd, listOf us1.toArray c14) :: (Dl, listOf us2.toArray c16) :: nn16) N16 (List.forall_mem_cons.mpr ⟨.tail _ (hin16 _ (.head _)), List.forall_mem_cons.mpr ⟨.tail _ (hin16 _ (.tail _ (.head _))), fun p hp => hp⟩⟩)
  have hρ16 : ∀ v ∈ us, L2s nn16 v (ρ v) := fun v hv => (hρ14 v hv).more fun p hp => hin16 p (.tail _ (.tail _ hp))
  walk_at "go"
  rename_i h17 F17 N17
  refine' listcomp_eval (cl := []) ?cc2 ?cc3 ?cc4 ?cc5 ?_ ?cc7
  case cc2 => rfl
  case cc3 => decide
  case cc4 => rfl
  case cc5 => decide
  case cc7 => (intro x; with_unfolding_all rfl)
  walk_at "go"
  refine iter_list (l := DR) (its := us) (by assumption) N17 (News.isList N17 (.head _)) ?_
  intro J3 oJ3 hj3 Fj3 Nj3 itj3 lJ3 _
  refine comp_items (fun i x => ∃ t, x = .int (ρ ((us).getD i .none)).1 t) (ItRule.list (l := DR) (n := c2) (.head _)) Fj3 Nj3 (fun p hp => Nat.ne_of_lt (lJ3 p hp)) itj3 rfl (by omega) (fun _ => rfl) ?_ ?_
  · intro i D' C' oD oC' oI mC' h tk Q' hi Fx Nx hO hy hQ
    obtain ⟨ar, nr, tr1, tr2, er, mr⟩ := hρ16 _ (getD_mem' (d := Value.none) hi)
    rw [er] at hy
    walk_at "go"
    refine lst2_0 Nx (.tail _ (.tail _ (.tail _ (.tail _ (.tail _ (.tail _ mr)))))) ?_
    exact hQ _ _ _ Fx Nx ⟨tr1, rfl⟩
  intro acc3 na3 mC3 Da3 C3 oC3 ha3 tka3 Fa3 Na3 hO3 hoffa3 hnea3 hlena3 hPa3
  dsimp only
  refine comp_end2 Fa3 Na3 hO3 hoffa3 hnea3 ?_
  intro hb3 Fb3 Nb3 hDb3
  have hIa3 : IntsAre acc3 (ts) := by
    rw [← hρt]
    refine ints_of (by simpa using hlena3) fun i hi => ?_
    have hi' : i < (us).length := by simpa using hi
    obtain ⟨t, e⟩ := hPa3 i hi'
    refine ⟨t, ?_⟩
    rw [e, getD_lt hi', getD_lt hi, List.getElem_map]
  walk_at "go"
  refine leastOf hn (l := Da3) (vs := acc3) (ts := ts) (n := na3) (rest := (DR, listOf us.toArray c2) :: (Dd, listOf us1.toArray c14) :: (Dl, listOf us2.toArray c16) :: nn16) K0 Fb3 (by assumption) Nb3 (by assumption) rfl (by ktr_room) (by ktr_units) (by omega) hIa3 (by omega) ?_
  intro b tb tk18 h18 F18 N18 hbest
  replace N18 := News.sub (news' := (Dd, listOf us1.toArray c14) :: (Dl, listOf us2.toArray c16) :: (DR, listOf us.toArray c2) :: nn16) N18 (by walk_at "led_sub")
  walk_at "go"
  rename_i h19 F19 N19
  have hdp : (fs.map fun v => (ρ v).1).Perm ts := by
    rw [← hρt]
    exact hpf.map _
  have hdl : (fs.map fun v => (ρ v).1).length = ts.length := hdp.length_eq
  have hdpos : ∀ x ∈ fs.map (fun v => (ρ v).1), 1 ≤ x := fun x hx => hpos x (hdp.mem_iff.mp hx)
  have hdf : Fall (fs.map fun v => (ρ v).1) := by
    unfold Fall
    rw [List.pairwise_map]
    refine hrf.imp fun {a b} hab => ?_
    unfold klt fkey at hab
    rw [decide_eq_true_eq] at hab
    dsimp only at hab
    omega
  have hm7 : hn = 2 ∧ (fs.map fun v => (ρ v).1).length ≤ 7 ∨ hn = 3 ∧ (fs.map fun v => (ρ v).1).length ≤ 6 := by omega
  have hn3 : (hn : Int) ≤ 3 := by omega
  have hn2 : 2 ≤ (hn : Int) := by omega
  have t1 : ∀ M : Int, M ∈ us1.map (fun u => (τ1 u).1) → (∀ a ∈ us1.map (fun u => (τ1 u).1), a ≤ M) → b ≤ M ∧ 3 * (hn : Int) * M ≤ (4 * (hn : Int) - 1) * b := fun M q1 q2 => by
    have e : us1.map (fun u => (τ1 u).1) = (us1.map τ1).map (·.1) := by rw [List.map_map]; rfl
    rw [e] at q1 q2
    exact ⟨span_ge hdpos hrun14 ⟨q1, q2⟩ hdp hbest, grahamLpt hm7 hdpos hdf hrun14 ⟨q1, q2⟩ hdp hbest⟩
  have t2 : ∀ M : Int, M ∈ us2.map (fun u => (τ2 u).1) → (∀ a ∈ us2.map (fun u => (τ2 u).1), a ≤ M) → b ≤ M ∧ (hn : Int) * M ≤ (2 * (hn : Int) - 1) * b := fun M q1 q2 => by
    have e : us2.map (fun u => (τ2 u).1) = (us2.map τ2).map (·.1) := by rw [List.map_map]; rfl
    rw [e] at q1 q2
    exact ⟨span_ge hpos hrun16 ⟨q1, q2⟩ (List.Perm.refl _) hbest, graham (by omega) hpos hrun16 ⟨q1, q2⟩ (List.Perm.refl _) hbest⟩
  have t3 : ∀ u ∈ us1, (τ1 u).2.2 * (hn : Int) * (τ1 u).1 ≤ (((τ1 u).2.2 + 1) * (hn : Int) - 1) * b ∧ 0 ≤ (τ1 u).2.2 ∧ (τ1 u).2.2 ≤ 7 := fun u hu => by
    have q := count_le hdpos hrun14 (List.mem_map_of_mem (f := τ1) hu)
    exact ⟨coffman hm7 hdpos hdf hrun14 hdp hbest (List.mem_map_of_mem (f := τ1) hu), q.1, by omega⟩
  have hT14' : ∀ v ∈ us1, T3s nn16 v (τ1 v) := fun v hv => (hT14 v hv).more fun p hp => hin16 p (.tail _ (.tail _ hp))
  clear hdp hdl hdpos hdf hm7 hrun14 hrun16 hbest hrf hpf hup
  refine spanOf (l := Dd) (us := us1) (τ := τ1) (n := c14) (rest := (Dl, listOf us2.toArray c16) :: (DR, listOf us.toArray c2) :: nn16) K0 F19 (by assumption) N19 (by assumption) rfl (by ktr_room) (by ktr_units) (by omega) (by omega) (fun v hv => (hT14' v hv).more fun p hp => .tail _ (.tail _ hp)) ?_
  intro M1 tm1 tk20 h20 F20 N20 hM1 hM1'
  obtain ⟨f1, f3⟩ := t1 M1 hM1 hM1'
  walk_at "go"
  rename_i h21 F21 N21
  refine spanOf (l := Dl) (us := us2) (τ := τ2) (n := c16) (rest := (Dd, listOf us1.toArray c14) :: (DR, listOf us.toArray c2) :: nn16) K0 F21 (by assumption) (News.sub N21 (by walk_at "led_sub")) (by assumption) rfl (by ktr_room) (by ktr_units) (by omega) (by omega) (fun v hv => (hT16 v hv).more fun p hp => .tail _ (.tail _ hp)) ?_
  intro M2 tm2 tk22 h22 F22 N22 hM2 hM2'
  obtain ⟨f2, f4⟩ := t2 M2 hM2 hM2'
  walk_at "go"
  refine spanOf (l := Dl) (us := us2) (τ := τ2) (n := c16) (rest := (Dd, listOf us1.toArray c14) :: (DR, listOf us.toArray c2) :: nn16) K0 F22 (by assumption) N22 (by assumption) rfl (by ktr_room) (by ktr_units) (by omega) (by omega) (fun v hv => (hT16 v hv).more fun p hp => .tail _ (.tail _ hp)) ?_
  intro M3 tm3 tk23 h23 F23 N23 hM3 hM3'
  obtain ⟨f5, f6⟩ := t2 M3 hM3 hM3'
  clear f4 f3
  walk_at "go"
  refine for_start ?_
  walk_at "go"
  refine iter_list (l := Dd) (its := us1) (by assumption) (by assumption) (News.isList N23 (.tail _ (.head _))) ?_
  intro J9 oJ9 h24 F24 N24 it24 lJ9 _
  refine for_ind (I := fun k s' => ∃ (h : Heap) (tk : Nat) (mm : Str → Option Value) (oJ : Obj), s' = { sA with heap := h, toks := tk } ∧ Fr sA.heap sA.heap.objs.size h mm ∧ News sA.heap sA.heap.objs.size h ((J9, oJ) :: (Dl, listOf us2.toArray c16) :: (Dd, listOf us1.toArray c14) :: (DR, listOf us.toArray c2) :: nn16) ∧ ListIt oJ Dd (us1.length - k) ∧ k ≤ us1.length ∧ mm "script" = some (.ref aS) ∧ mm "hands" = some (.int hn tn) ∧ mm "span" = some (.int M1 tm1) ∧ mm "least" = some (.int b tb)) ?hE (n := us1.length) ?init ?turn
  case hE => with_unfolding_all passes_own
  case init => exact ⟨_, _, _, oJ9, rfl, F24, N24, by rw [Nat.sub_self]; exact it24, Nat.le_refl _, by walk_at "loc", by walk_at "loc", by walk_at "loc", by walk_at "loc"⟩
  case turn =>
    rintro k s' ⟨h, tk, mm, oJ, rfl, F25, N25, it25, hk, g1, g2, g3, g4⟩
    have hJ25 : ∀ p ∈ (Dl, listOf us2.toArray c16) :: (Dd, listOf us1.toArray c14) :: (DR, listOf us.toArray c2) :: nn16, p.1 ≠ J9 := fun p hp => Nat.ne_of_lt (lJ9 p hp)
    have hls : h.IsList Dd us1.toArray := News.isList N25 (.tail _ (.tail _ (.head _)))
    cases k with
    | zero =>
      refine next_list_end rfl F25 N25 hJ25 it25 hls (by omega) ?_
      intro h26 F26 N26
      walk_at "go"
      have hLs : ∀ h' m', Fr sA.heap sA.heap.objs.size h' m' → h'.IsList aS vS.toArray := fun h' m' F => by
        obtain ⟨o, ho, r⟩ := hL
        exact ⟨o, F.keep _ _ ho, r⟩
      refine sum_at F26 N26 rfl (hLs _ _ F26) hI ?_
      intro h27 tk27 t27 F27 N27
      walk_at "go"
      refine madeOf 2 _ (rest := (Dl, listOf us2.toArray c16) :: (Dd, listOf us1.toArray c14) :: (DR, listOf us.toArray c2) :: nn16) K0 F27 (by assumption) N27 (by assumption) rfl (by ktr_room) (by ktr_units) (.inl rfl) (by split <;> omega) ?_
      intro tk28 h28 F28 N28
      walk_at "go"
      refine len_lst (hLs _ _ F28) (by rw [hI.length]; omega) ?_
      intro t29 tk29
      walk_at "go"
      refine madeOf 3 _ (rest := (Dl, listOf us2.toArray c16) :: (Dd, listOf us1.toArray c14) :: (DR, listOf us.toArray c2) :: nn16) K0 F28 (by assumption) N28 (by assumption) rfl (by ktr_room) (by ktr_units) (.inr rfl) (by omega) ?_
      intro tk30 h30 F30 N30
      walk_at "go"
      exact good_end (by assumption) F30
    | succ k =>
      refine next_list F25 N25 hJ25 it25 hls (by omega) ?_
      intro oJ2 h26 F26 N26 it26
      obtain ⟨ax, nx, x1, x2, x3, ex, mx⟩ := hT14' _ (getD_mem' (d := Value.none) (show us1.length - (k + 1) < us1.length by omega))
      obtain ⟨c1, c2', c3⟩ := t3 _ (getD_mem' (d := Value.none) (show us1.length - (k + 1) < us1.length by omega))
      rw [ex]
      walk_at "go"
      rename_i h27 F27 N27
      refine tup3_0 N27 (.tail _ (.tail _ (.tail _ (.tail _ mx)))) ?_
      walk_at "go"
      · have ea : (τ1 (us1.getD (us1.length - (k + 1)) .none)).1 = M1 := by assumption
        rw [ea] at c1
        refine tup3_2 N27 (.tail _ (.tail _ (.tail _ (.tail _ mx)))) ?_
        generalize (τ1 (us1.getD (us1.length - (k + 1)) .none)).2.2 = kk at *
        have hb1 : 0 ≤ kk * (hn : Int) ∧ kk * (hn : Int) ≤ 21 := by
          rcases (show hn = 2 ∨ hn = 3 by omega) with e | e
          · rw [e]; omega
          · rw [e]; omega
        have hb2 : -1 ≤ (kk + 1) * (hn : Int) - 1 ∧ (kk + 1) * (hn : Int) - 1 ≤ 23 := by
          rcases (show hn = 2 ∨ hn = 3 by omega) with e | e
          · rw [e]; omega
          · rw [e]; omega
        have hm1 : IntMulOk (kk * (hn : Int)) M1 := PySem.IntMulOk.of_left (PySem.intBits_le_64 (by omega) (by omega))
        have hm2 : IntMulOk ((kk + 1) * (hn : Int) - 1) b := PySem.IntMulOk.of_left (PySem.intBits_le_64 (by omega) (by omega))
        walk_at "goc"
        refine tup3_2 N27 (.tail _ (.tail _ (.tail _ (.tail _ mx)))) ?_
        walk_at "goc"
        refine gt_no c1 ?_
        clear c1 hm1 hm2 hb1 hb2
        refine wpAny_truthy_bool ?_
        rw [if_neg Bool.false_ne_true]
        rw [if_neg Bool.false_ne_true]
        refine wpAny_execs_nil ?_
        dsimp only
        refine wpAny_execs_nil ?_
        dsimp only [WEnd, NextIs]
        refine ⟨k, by omega, _, _, _, oJ2, rfl, by assumption, by assumption, by rw [show us1.length - k = us1.length - (k + 1) + 1 by omega]; exact it26, by omega, by walk_at "loc", by walk_at "loc", by walk_at "loc", by walk_at "loc"⟩
      · refine ⟨k, by omega, _, _, _, oJ2, rfl, by assumption, by assumption, by rw [show us1.length - k = us1.length - (k + 1) + 1 by omega]; exact it26, by omega, by walk_at "loc", by walk_at "loc", by walk_at "loc", by walk_at "loc"⟩)
end

end Mine

set_option maxRecDepth 100000 in
set_option maxHeartbeats 4000000 in
theorem PySem.Challenge.cw_dm5007_01_holds : PySem.Challenge.rw_dm5007_01.Holds := by
  exact Mine.law_holds
