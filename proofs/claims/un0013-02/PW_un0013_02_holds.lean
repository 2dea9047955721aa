import PyProof.Rows.All
import Wide.All
import OpenK.AllK
import Wide.FinOn
import KE.BitLaws
import PyProof.WalksU
import PyProof.Draws
import PyProof.EnumMake
import PyProof.WalksPairs
import PySem.Challenge.RW_un0013_02
set_option Elab.async false
section
open PySem PySem.W PySem.Spec PySem.Calls PyProof.Rows
set_option maxRecDepth 100000
namespace Mine

/-- a tuple of two ints, as an object -/
noncomputable def tup2 (i j : Int) (ti tj : Tok) (n : Nat) : Obj := { cls := .type "tuple", data := .seq #[.int i ti, .int j tj] n }

/-- the ledger bears the pair ps[i] at the value vs[i] -/
inductive Prs (led : List (Addr × Obj)) : List Value → List (Int × Int) → Prop
  | nil : Prs led [] []
  | cons {a : Addr} {i j : Int} {ti tj : Tok} {n : Nat} {vs ps} : (a, tup2 i j ti tj n) ∈ led → Prs led vs ps → Prs led (.ref a :: vs) ((i, j) :: ps)

theorem Prs.length {led vs ps} (h : Prs led vs ps) : vs.length = ps.length := by
  induction h with
  | nil => rfl
  | cons _ _ ih => simp [ih]
theorem Prs.get {led vs ps} (h : Prs led vs ps) : ∀ {k : Nat}, k < ps.length → ∃ a ti tj n, vs[k]? = some (.ref a) ∧ (a, tup2 (ps.getD k (0, 0)).1 (ps.getD k (0, 0)).2 ti tj n) ∈ led := by
  induction h with
  | nil => intro k hk; exact absurd hk (Nat.not_lt_zero _)
  | cons hm _ ih =>
    intro k hk
    cases k with
    | zero => exact ⟨_, _, _, _, rfl, hm⟩
    | succ k => simpa using ih (Nat.lt_of_succ_lt_succ hk)
theorem Prs.set {led vs ps} (h : Prs led vs ps) {a : Addr} {i j : Int} {ti tj : Tok} {n : Nat} (hm : (a, tup2 i j ti tj n) ∈ led) : ∀ k : Nat, Prs led (vs.set k (.ref a)) (ps.set k (i, j)) := by
  induction h with
  | nil => intro k; exact .nil
  | cons hm' hr ih =>
    intro k
    cases k with
    | zero => exact .cons hm hr
    | succ k => exact .cons hm' (ih k)
theorem Prs.mono {led led' vs ps} (h : Prs led vs ps) (hs : ∀ p ∈ led, p ∈ led') : Prs led' vs ps := by
  induction h with
  | nil => exact .nil
  | cons hm _ ih => exact .cons (hs _ hm) ih
theorem Prs.append {led vs ps vs' ps'} (h : Prs led vs ps) (h' : Prs led vs' ps') : Prs led (vs ++ vs') (ps ++ ps') := by
  induction h with
  | nil => exact h'
  | cons hm _ ih => exact .cons hm ih

/-- the order of tuples of two ints -/
noncomputable def plt (a b : Int × Int) : Bool := decide (a.1 < b.1) || (decide (a.1 = b.1) && decide (a.2 < b.2))

section
variable {prog : Program} {w : World} {A : Around} {E : Value → Shared → Prop} {s : Shared}

theorem tup_typeIs {h : Heap} {a : Addr} {i j : Int} {ti tj : Tok} {n : Nat} {s : Shared} (hs : s.heap = h) (ho : h.get? a = some (tup2 i j ti tj n)) : s.TypeIs (.ref a) "tuple" := by
  subst hs
  exact ⟨_, ho, rfl⟩

theorem lt_tree {a b : Addr} {i j k l : Int} {ti tj tk tl : Tok} {n n' : Nat} {P : Fin → Shared → Prop} (hx : s.heap.get? a = some (tup2 i j ti tj n)) (hy : s.heap.get? b = some (tup2 k l tk tl n'))
    (h : P (.done (.ret (.bool (plt (i, j) (k, l))))) s) :
    wpAny (model prog w) A (Builtin.«tuple.__lt__» ⟨[.ref a, .ref b], []⟩) P E s := by
  have hTb : s.TypeIs (.ref b) "tuple" := tup_typeIs rfl hy
  show wpAny _ _ (isInstance (.ref b) (.type "tuple") >>= _) _ _ s
  refine wpAny_bind (wpAny_isInstance hTb isSubtype_tuple_tuple ?_)
  simp only [Bool.not_true, Bool.false_eq_true, if_false]
  refine wpAny_bind (wpAny_tupleItemsOf hx rfl ?_)
  refine wpAny_bind (wpAny_tupleItemsOf hy rfl ?_)
  simp only [List.zip_cons_cons, List.zip_nil_right, List.forIn_cons, List.forIn_nil]
  refine wpAny_bind (wpAny_bind (wpAny_bind (wpAny_eqBool_int ?_)))
  by_cases h1 : i = k
  · have e1 : (i == k) = true := beq_iff_eq.mpr h1
    rw [e1]
    simp only [Bool.not_true, Bool.false_eq_true, if_false]
    refine wpAny_pure ?_
    refine wpAny_bind (wpAny_bind (wpAny_eqBool_int ?_))
    by_cases h2 : j = l
    · have e2 : (j == l) = true := beq_iff_eq.mpr h2
      rw [e2]
      simp only [Bool.not_true, Bool.false_eq_true, if_false]
      refine wpAny_pure (wpAny_pure (wpAny_pure ?_))
      have e : plt (i, j) (k, l) = false := by simp [plt, h1, h2]
      rw [e] at h
      exact h
    · have e2 : (j == l) = false := beq_eq_false_iff_ne.mpr h2
      rw [e2]
      simp only [Bool.not_false, if_true]
      refine wpAny_bind (wpAny_rule (wpAny_bind (lt_int (wpAny_bind (wpAny_pure (wpAny_pure (wpAny_pure ?_)))))))
      have e : plt (i, j) (k, l) = decide (j < l) := by simp [plt, h1]
      rw [e] at h
      exact wpAny_pure h
  · have e1 : (i == k) = false := beq_eq_false_iff_ne.mpr h1
    rw [e1]
    simp only [Bool.not_false, if_true]
    refine wpAny_bind (wpAny_rule (wpAny_bind (lt_int (wpAny_bind (wpAny_pure (wpAny_pure (wpAny_pure ?_)))))))
    have e : plt (i, j) (k, l) = decide (i < k) := by simp [plt, h1]
    rw [e] at h
    exact wpAny_pure h

theorem lt_tup {a b : Addr} {i j k l : Int} {ti tj tk tl : Tok} {n n' : Nat} {Q : Value → Shared → Prop} (hu : A.units < cLine) (hx : s.heap.get? a = some (tup2 i j ti tj n)) (hy : s.heap.get? b = some (tup2 k l tk tl n'))
    (h : Q (.bool (plt (i, j) (k, l))) s) : wpAny (model prog w) A (compareOp .Lt (.ref a) (.ref b)) Q E s := by
  show wpAny _ _ (richCompare .Lt (.ref a) (.ref b)) Q E s
  exact wpAny_richCompare_same_room (op := .Lt) (tup_typeIs rfl hx) (tup_typeIs rfl hy) F.slot_tuple_lt
    (wpAny_call_entry F.slot_tuple_lt (tup_typeIs rfl hx) F.entry_tuple_lt (lt_tree hx hy ⟨_, rfl, (fun e => nomatch e), h⟩) (F.args_tuple_lt_2 _ _)) hu

/-- an item of a list at an index in bounds -/
theorem item_cell {value slice : PySem.Expr} {l : Addr} {vs : List Value} {n : Nat} {k : Int} {u : Tok} {v : Value} {Q : Value → Shared → Prop}
    (ho : s.heap.get? l = some (listOf vs.toArray n)) (h0 : 0 ≤ k) (hhi : k < 2 ^ 63) (hx : vs[k.toNat]? = some v) (h : Q v s)
    (hs : subscripted slice false (.ref l) (.int k u) = operate [.ref l, .int k u] (getItem (.ref l) (.int k u)) := by with_unfolding_all rfl) :
    wpAny (model prog w) A (subscriptTail value slice (.ref l) (.int k u)) Q E s :=
  have hl : s.heap.IsList l vs.toArray := PySem.IsL.isList (n := n) ho
  tail_any hl.typeIs slot_list_getitem.lookup (wpAny_getItem_list hl h0 hhi (by simpa using hx) h) hs

theorem len_cell {l : Addr} {vs : List Value} {n : Nat} {Q : Value → Shared → Prop} (ho : s.heap.get? l = some (listOf vs.toArray n)) (hfit : (vs.length : Int) < 2 ^ 63)
    (h : Q (.int (vs.length : Int) (s.toks + 1)) { s with toks := s.toks + 1 + 1 }) : wpAny (model prog w) A (call (.builtin "len") [.ref l]) Q E s := by
  have hl : s.heap.IsList l vs.toArray := PySem.IsL.isList (n := n) ho
  have e2 : vs.toArray.size = vs.length := by rw [List.size_toArray]
  exact len_list hl (by rw [e2]; exact hfit) (by rw [e2]; exact h)

theorem set_cell {h₀ : Heap} {L : Addr} {m : Str → Option Value} {news news' : List (Addr × Obj)} {l : Addr} {vs : List Value} {n : Nat} {k : Int} {t : Tok} {v : Value} {Q : Unit → Shared → Prop} (F : Fr h₀ L s.heap m) (N : News h₀ L s.heap news)
    (U : Upd l (listOf vs.toArray n) (listOf (vs.set k.toNat v).toArray n) news news') (h0 : 0 ≤ k) (h1 : k.toNat < vs.length) (hfit : k < 2 ^ 63)
    (h : ∀ h', Fr h₀ L h' m → News h₀ L h' news' → Q () { s with heap := h' }) : wpAny (model prog w) A (setItem (.ref l) (.int k t) v) Q E s := by
  obtain ⟨pre, post, rfl, rfl, a, b⟩ := U.split
  have z := N (l, listOf vs.toArray n) (List.mem_append.mpr (.inr (.head _)))
  have hs : vs.toArray.size = vs.length := by rw [List.size_toArray]
  refine ki_setAt z.1 h0 hfit (by rw [hs]; omega) (h _ (F.change (Heap.SameBut.update ..) z.2.1 z.2.2) (ki_turn _ N a b ?_ ?_))
  · show vs.toArray.setIfInBounds k.toNat v = (vs.set k.toNat v).toArray
    apply Array.toList_inj.mp
    simp
  · simp
end
end Mine
end

section
namespace Mine

theorem plt_trans {a b c : Int × Int} (h1 : plt b a = false) (h2 : plt c b = false) : plt c a = false := by
  simp only [plt, Bool.or_eq_false_iff, Bool.and_eq_false_iff, decide_eq_false_iff_not] at *
  omega
theorem plt_irr (a : Int × Int) : plt a a = false := by simp [plt]
theorem plt_asymm {a b : Int × Int} (h : plt a b = true) : plt b a = false := by
  simp only [plt, Bool.or_eq_true, Bool.and_eq_true, decide_eq_true_eq, Bool.or_eq_false_iff, Bool.and_eq_false_iff, decide_eq_false_iff_not] at *
  omega
theorem plt_antisymm {a b : Int × Int} (h : plt a b = false) (h' : plt b a = false) : a = b := by
  obtain ⟨a1, a2⟩ := a
  obtain ⟨b1, b2⟩ := b
  simp only [plt, Bool.or_eq_false_iff, Bool.and_eq_false_iff, decide_eq_false_iff_not] at *
  have : a1 = b1 := by omega
  have : a2 = b2 := by omega
  simp_all

abbrev G (ps : List (Int × Int)) (i : Nat) : Int × Int := ps.getD i (0, 0)
theorem G_set {ps : List (Int × Int)} {i j : Nat} {x : Int × Int} (hi : i < ps.length) : G (ps.set i x) j = if i = j then x else G ps j := by
  simp only [G, List.getD_eq_getElem?_getD, List.getElem?_set]
  by_cases h : i = j
  · subst h; simp [hi]
  · simp [h]
theorem G_append_left {ps qs : List (Int × Int)} {i : Nat} (h : i < ps.length) : G (ps ++ qs) i = G ps i := by
  simp [G, List.getD_eq_getElem?_getD, List.getElem?_append_left h]

noncomputable def Ch (i j : Nat) : Prop := j = 2 * i + 1 ∨ j = 2 * i + 2
inductive Desc (s : Nat) : Nat → Prop
  | refl : Desc s s
  | step {p j : Nat} : Desc s p → Ch p j → Desc s j
theorem Desc.le {s p : Nat} (h : Desc s p) : s ≤ p := by
  induction h with
  | refl => exact Nat.le_refl _
  | step _ hc ih => rcases hc with h | h <;> omega
theorem Desc.parent {s p : Nat} (h : Desc s p) (hn : p ≠ s) : Desc s ((p - 1) / 2) ∧ Ch ((p - 1) / 2) p := by
  cases h with
  | refl => exact absurd rfl hn
  | @step q _ hq hc =>
    have e : (p - 1) / 2 = q := by rcases hc with h | h <;> omega
    rw [e]
    exact ⟨hq, hc⟩

noncomputable def HeapFrom (s : Nat) (ps : List (Int × Int)) : Prop := ∀ i j, s ≤ i → Ch i j → j < ps.length → plt (G ps j) (G ps i) = false

structure HoleUp (s : Nat) (ps : List (Int × Int)) (pos : Nat) (x : Int × Int) : Prop where
  desc : Desc s pos
  lt : pos < ps.length
  rest : ∀ i j, s ≤ i → Ch i j → j < ps.length → i ≠ pos → j ≠ pos → plt (G ps j) (G ps i) = false
  below : ∀ j, Ch pos j → j < ps.length → plt (G ps j) x = false
  over : ∀ p j, s ≤ p → Ch p pos → Ch pos j → j < ps.length → plt (G ps j) (G ps p) = false

theorem ch_par {p q j : Nat} (h : Ch p j) (h' : Ch q j) : p = q := by
  rcases h with h | h <;> rcases h' with h' | h' <;> omega

theorem HoleUp.up {s pos p : Nat} {ps : List (Int × Int)} {x : Int × Int} (h : HoleUp s ps pos x) (hn : pos ≠ s) (hp : p = (pos - 1) / 2) (hx : plt x (G ps p) = true) :
    HoleUp s (ps.set pos (G ps p)) p x := by
  obtain ⟨hd, hc⟩ := h.desc.parent hn
  rw [← hp] at hd hc
  have hl := h.lt
  have hsp : s ≤ p := hd.le
  have hpp : p < pos := by rcases hc with e | e <;> omega
  refine ⟨hd, by rw [List.length_set]; omega, ?_, ?_, ?_⟩
  · intro i j hi hij hj hip hjp
    rw [List.length_set] at hj
    rw [G_set hl, G_set hl]
    by_cases e1 : pos = j
    · subst e1
      exact absurd (ch_par hij hc) hip
    · rw [if_neg e1]
      by_cases e2 : pos = i
      · subst e2
        rw [if_pos rfl]
        exact h.over p j hsp hc hij hj
      · rw [if_neg e2]
        exact h.rest i j hi hij hj (Ne.symm e2) (Ne.symm e1)
  · intro j hj hjl
    rw [List.length_set] at hjl
    rw [G_set hl]
    by_cases e1 : pos = j
    · rw [if_pos e1]
      exact plt_asymm hx
    · rw [if_neg e1]
      exact plt_trans (plt_asymm hx) (h.rest p j hsp hj hjl (Nat.ne_of_lt hpp) (Ne.symm e1))
  · intro g j hg hgp hpj hj
    rw [List.length_set] at hj
    have hgl : g < p := by rcases hgp with e | e <;> omega
    have r1 : plt (G ps p) (G ps g) = false := h.rest g p hg hgp (by omega) (by omega) (by omega)
    rw [G_set hl, G_set hl]
    rw [if_neg (show ¬ pos = g by omega)]
    by_cases e1 : pos = j
    · rw [if_pos e1]
      exact r1
    · rw [if_neg e1]
      exact plt_trans r1 (h.rest p j hsp hpj hj (Nat.ne_of_lt hpp) (Ne.symm e1))

theorem HoleUp.fin {s pos : Nat} {ps : List (Int × Int)} {x : Int × Int} (h : HoleUp s ps pos x) (he : pos = s ∨ plt x (G ps ((pos - 1) / 2)) = false) : HeapFrom s (ps.set pos x) := by
  intro i j hi hij hj
  rw [List.length_set] at hj
  have hl := h.lt
  rw [G_set hl, G_set hl]
  by_cases e2 : pos = i
  · subst e2
    rw [if_neg (show ¬ pos = j by rcases hij with e | e <;> omega), if_pos rfl]
    exact h.below j hij hj
  · rw [if_neg e2]
    by_cases e1 : pos = j
    · subst e1
      rw [if_pos rfl]
      rcases he with he | he
      · exfalso
        rcases hij with e | e <;> omega
      · have : (pos - 1) / 2 = i := by rcases hij with e | e <;> omega
        rw [this] at he
        exact he
    · rw [if_neg e1]
      exact h.rest i j hi hij hj (Ne.symm e2) (Ne.symm e1)

structure HoleDn (s : Nat) (ps : List (Int × Int)) (pos : Nat) : Prop where
  desc : Desc s pos
  lt : pos < ps.length
  heap : HeapFrom (s + 1) ps
  top : pos ≠ s → HeapFrom s ps

theorem HoleDn.down {s pos c : Nat} {ps : List (Int × Int)} (h : HoleDn s ps pos) (hc : Ch pos c) (hcl : c < ps.length) (hmin : ∀ j, Ch pos j → j < ps.length → plt (G ps j) (G ps c) = false) :
    HoleDn s (ps.set pos (G ps c)) c := by
  have hl := h.lt
  have hsp := h.desc.le
  have hpc : pos < c := by rcases hc with e | e <;> omega
  have key : HeapFrom s (ps.set pos (G ps c)) := by
    intro i j hi hij hj
    rw [List.length_set] at hj
    rw [G_set hl, G_set hl]
    by_cases e2 : pos = i
    · subst e2
      rw [if_neg (show ¬ pos = j by rcases hij with e | e <;> omega), if_pos rfl]
      exact hmin j hij hj
    · rw [if_neg e2]
      by_cases e1 : pos = j
      · subst e1
        rw [if_pos rfl]
        have hps : pos ≠ s := by rcases hij with e | e <;> omega
        have H := h.top hps
        exact plt_trans (H i pos hi hij hl) (H pos c hsp hc hcl)
      · rw [if_neg e1]
        by_cases hps : pos = s
        · exact h.heap i j (by omega) hij hj
        · exact h.top hps i j hi hij hj
  refine ⟨.step h.desc hc, by rw [List.length_set]; exact hcl, fun i j hi => key i j (by omega), fun _ => key⟩

theorem HoleDn.leaf {s pos : Nat} {ps : List (Int × Int)} {x : Int × Int} (h : HoleDn s ps pos) (hle : ps.length ≤ 2 * pos + 1) : HoleUp s (ps.set pos x) pos x := by
  have hl := h.lt
  refine ⟨h.desc, by rw [List.length_set]; exact hl, ?_, ?_, ?_⟩
  · intro i j hi hij hj hip hjp
    rw [List.length_set] at hj
    rw [G_set hl, G_set hl, if_neg (Ne.symm hip), if_neg (Ne.symm hjp)]
    by_cases hps : pos = s
    · exact h.heap i j (by omega) hij hj
    · exact h.top hps i j hi hij hj
  · intro j hj hjl
    rw [List.length_set] at hjl
    rcases hj with e | e <;> omega
  · intro p j _ _ hj hjl
    rw [List.length_set] at hjl
    rcases hj with e | e <;> omega

theorem perm_swap_set {ps : List (Int × Int)} {i j : Nat} {x : Int × Int} (hi : i < ps.length) (hj : j < ps.length) (hij : i ≠ j) : ((ps.set i (G ps j)).set j x).Perm (ps.set i x) := by
  rw [List.perm_iff_count]
  intro a
  have ej : G ps j = ps[j] := by simp [G, List.getD_eq_getElem?_getD, hj]
  rw [List.count_set (by rw [List.length_set]; exact hj), List.count_set hi, List.count_set hi, List.getElem_set_ne hij, ej]
  have c1 : (if (ps[i] == a) = true then 1 else 0) ≤ ps.count a := by
    split
    · rename_i h
      have := beq_iff_eq.mp h
      exact List.count_pos_iff.mpr (this ▸ List.getElem_mem hi)
    · exact Nat.zero_le _
  generalize hA : (if (ps[i] == a) = true then 1 else 0) = A at *
  generalize hB : (if (ps[j] == a) = true then 1 else 0) = B at *
  generalize (if (x == a) = true then 1 else 0) = C at *
  omega
theorem set_self {ps : List (Int × Int)} {i : Nat} (hi : i < ps.length) : ps.set i (G ps i) = ps := by
  have ej : G ps i = ps[i] := by simp [G, List.getD_eq_getElem?_getD, hi]
  rw [ej, List.set_getElem_self]
theorem HeapFrom.mono {s t : Nat} {ps : List (Int × Int)} (h : HeapFrom s ps) (hst : s ≤ t) : HeapFrom t ps := fun i j hi => h i j (by omega)
theorem heap_root {ps : List (Int × Int)} (h : HeapFrom 0 ps) : ∀ k, k < ps.length → plt (G ps k) (G ps 0) = false := by
  intro k
  induction k using Nat.strongRecOn with
  | ind k ih =>
    intro hk
    by_cases h0 : k = 0
    · subst h0; exact plt_irr _
    · have hc : Ch ((k - 1) / 2) k := by unfold Ch; omega
      exact plt_trans (ih ((k - 1) / 2) (by omega) (by omega)) (h _ k (Nat.zero_le _) hc hk)
theorem heap_root_mem {ps : List (Int × Int)} (h : HeapFrom 0 ps) {q : Int × Int} (hq : q ∈ ps) : plt q (G ps 0) = false := by
  obtain ⟨k, hk, rfl⟩ := List.getElem_of_mem hq
  have := heap_root h k hk
  have ek : G ps k = ps[k] := by simp [G, List.getD_eq_getElem?_getD, hk]
  rw [ek] at this
  exact this
end Mine
end

section
open PySem PySem.W PySem.Spec PySem.Calls PyProof.Rows
set_option maxRecDepth 100000
namespace Mine

/-- the walk stops here -/
noncomputable def Held (P : Prop) : Prop := P
theorem Held.mk {P : Prop} (h : Held P) : P := h
theorem Held.out {P : Prop} (h : P) : Held P := h

/-- a frame of which just these names are known -/
noncomputable def fmap (u : Str → Option Value) : List (Str × Value) → Str → Option Value
  | [] => u
  | p :: r => fun z => if z = p.1 then some p.2 else fmap u r z
theorem fmap_eq {m : Str → Option Value} : ∀ {ps : List (Str × Value)}, (∀ p ∈ ps, m p.1 = some p.2) → fmap m ps = m
  | [], _ => rfl
  | p :: r, h => by
    funext z
    show (if z = p.1 then some p.2 else fmap m r z) = m z
    by_cases e : z = p.1
    · rw [if_pos e, e]
      exact (h p (.head _)).symm
    · rw [if_neg e, fmap_eq fun q hq => h q (.tail _ hq)]

/-- where a loop's turn, or a loop, ends: a state c of my own, its ledger and its names -/
noncomputable def LEnd {σ : Type} (h₀ : Heap) (L : Addr) (s : Shared) (Led : σ → List (Addr × Obj)) (ps : σ → List (Str × Value)) (Post : σ → Prop) (s₂ : Shared) : Prop :=
  ∃ (c : σ) (h : Heap) (tk : Nat) (m' : Str → Option Value) (news' : List (Addr × Obj)), s₂ = { s with heap := h, toks := tk } ∧ Fr h₀ L h m' ∧ News h₀ L h news' ∧ (∀ p ∈ Led c, p ∈ news') ∧ (∀ p ∈ ps c, m' p.1 = some p.2) ∧ Post c
theorem LEnd.intro {σ : Type} {h₀ : Heap} {L : Addr} {s : Shared} {Led : σ → List (Addr × Obj)} {ps : σ → List (Str × Value)} {Post : σ → Prop} (c : σ) {h : Heap} {tk : Nat} {m' : Str → Option Value} {news' : List (Addr × Obj)}
    (F : Fr h₀ L h m') (N : News h₀ L h news') (hp : Post c) (hn : ∀ p ∈ Led c, p ∈ news') (hk : ∀ p ∈ ps c, m' p.1 = some p.2) :
    LEnd h₀ L s Led ps Post { s with heap := h, toks := tk } := ⟨c, h, tk, m', news', rfl, F, N, hn, hk, hp⟩

/-- what the end of a turn owes -/
noncomputable def TEnd {σ : Type} (h₀ : Heap) (L : Addr) (s : Shared) (Led : σ → List (Addr × Obj)) (ps : σ → List (Str × Value)) (Nxt Fin : σ → Prop) (Q : Flow → Shared → Prop) (f : Flow) (s₂ : Shared) : Prop :=
  match f with
  | .ret v => Q (.ret v) s₂
  | .brk => LEnd h₀ L s Led ps Fin s₂
  | .next => LEnd h₀ L s Led ps Nxt s₂
  | .cont => LEnd h₀ L s Led ps Nxt s₂

section
variable {prog : Program} {w : World} {A : Around} {E : Value → Shared → Prop} {Q : Flow → Shared → Prop} {s : Shared} {env : Env} {h₀ : Heap} {L : Addr}

theorem LEnd.done {σ : Type} {Led : σ → List (Addr × Obj)} {ps : σ → List (Str × Value)} {Fin : σ → Prop}
    (done : ∀ (c : σ) (u : Str → Option Value) h tk, Fin c → Fr h₀ L h (fmap u (ps c)) → News h₀ L h (Led c) → Q .next { s with heap := h, toks := tk })
    {s₂ : Shared} (h : LEnd h₀ L s Led ps Fin s₂) : Q .next s₂ := by
  obtain ⟨c, h, tk, m', news', rfl, F', N', hn, hk, hp⟩ := h
  exact done c m' h tk hp (by rw [fmap_eq hk]; exact F') fun p hp => N' p (hn p hp)

/-- a while by a state of my own; both ways out meet -/
theorem whileL {σ : Type} {test : PySem.Expr} {body : List Stmt} {pos : Pos} {m₀ : Str → Option Value} (Led : σ → List (Addr × Obj)) (ps : σ → List (Str × Value)) (Inv Fin : σ → Prop) (μ : σ → Nat) (c₀ : σ)
    (F : Fr h₀ L s.heap m₀) (N : News h₀ L s.heap (Led c₀)) (hi : Inv c₀) (hk : ∀ p ∈ ps c₀, m₀ p.1 = some p.2)
    (turn : ∀ (c : σ) (u : Str → Option Value) h tk, Inv c → Fr h₀ L h (fmap u (ps c)) → News h₀ L h (Led c) →
      wpAny (model prog w) A (isTrue test env (eval test env)) (fun b s₂ =>
        if b = true then wpAny (model prog w) A (execs body env) (TEnd h₀ L s Led ps (fun c' => Inv c' ∧ μ c' < μ c) Fin Q) E s₂ else LEnd h₀ L s Led ps Fin s₂) E { s with heap := h, toks := tk })
    (done : ∀ (c : σ) (u : Str → Option Value) h tk, Fin c → Fr h₀ L h (fmap u (ps c)) → News h₀ L h (Led c) → Q .next { s with heap := h, toks := tk })
    (hE : PassesOwn (model prog w) A env E := by passes_own) :
    wpAny (model prog w) A (exec (.While test body [] pos) env) Q E s := by
  refine While_inv2 (fun n m nx => ∃ c : σ, nx = Led c ∧ μ c = n ∧ Inv c ∧ (∀ p ∈ ps c, m p.1 = some p.2)) F N ⟨c₀, rfl, rfl, hi, hk⟩ ?_ hE
  rintro n m₁ nx h tk F₁ N₁ ⟨c, rfl, rfl, hi', hk'⟩
  refine wpAny_mono (turn c m₁ h tk hi' (by rw [fmap_eq hk']; exact F₁) N₁) (fun b s₂ p => ?_) fun _ _ x => x
  cases b with
  | false =>
    simp only [Bool.false_eq_true, if_false] at p ⊢
    exact p.done done
  | true =>
    simp only [if_true] at p ⊢
    refine wpAny_mono p (fun f s₃ q => ?_) fun _ _ x => x
    cases f with
    | ret v => exact q
    | brk => exact LEnd.done done q
    | next =>
      obtain ⟨c', h', tk', m', news', rfl, F', N', hn, hk', hp, hm⟩ := q
      exact ⟨h', tk', m', Led c', μ c', rfl, F', fun p hp => N' p (hn p hp), hm, c', rfl, rfl, hp, hk'⟩
    | cont =>
      obtain ⟨c', h', tk', m', news', rfl, F', N', hn, hk', hp, hm⟩ := q
      exact ⟨h', tk', m', Led c', μ c', rfl, F', fun p hp => N' p (hn p hp), hm, c', rfl, rfl, hp, hk'⟩
end
end Mine
end

section
open PySem PySem.W PySem.Spec PySem.Calls PyProof.Rows
set_option maxRecDepth 100000
namespace Mine

/-- a for's loop at its iterator -/
noncomputable def LoopHere (prog : Program) (w : World) (A : Around) (E : Value → Shared → Prop) (env : Env) (target : PySem.Expr) (body orelse : List Stmt) (Q : Flow → Shared → Prop) (it : Value) (s₂ : Shared) : Prop :=
  codeAny (model prog w) A (.forLoop target it body orelse env) (fun r s' => match r with | .ok f => Q f s' | .error e => cameBackBy (model prog w) A env E e s') s₂

section
variable {prog : Program} {w : World} {A : Around} {E : Value → Shared → Prop} {Q : Flow → Shared → Prop} {s : Shared} {env : Env} {h₀ : Heap} {L : Addr}

theorem for_held {target iter : PySem.Expr} {body orelse : List Stmt} {pos : Pos}
    (h : wpAny (model prog w) A (eval iter env) (fun x s₁ => Held (wpAny (model prog w) A (pyIter x) (fun it s₂ => LoopHere prog w A E env target body orelse Q it s₂) E s₁)) E s)
    (hs : ∀ x, foldedSetIterable iter env x = pure x) :
    wpAny (model prog w) A (exec (.For target iter body orelse pos) env) Q E s := wpAny_For h hs

/-- where a for's turn ends -/
noncomputable def FEnd {σ : Type} (h₀ : Heap) (L : Addr) (s : Shared) (Led : σ → List (Addr × Obj)) (ps : σ → List (Str × Value)) (own : Addr × Obj) (Post : σ → Prop) (s₂ : Shared) : Prop :=
  ∃ (c : σ) (h : Heap) (tk : Nat) (m' : Str → Option Value) (news' : List (Addr × Obj)), s₂ = { s with heap := h, toks := tk } ∧ Fr h₀ L h m' ∧ News h₀ L h news' ∧ own ∈ news' ∧ (∀ p ∈ Led c, p ∈ news') ∧ (∀ p ∈ Led c, p.1 ≠ own.1) ∧ (∀ p ∈ ps c, m' p.1 = some p.2) ∧ Post c
theorem FEnd.intro {σ : Type} {s : Shared} {Led : σ → List (Addr × Obj)} {ps : σ → List (Str × Value)} {own : Addr × Obj} {Post : σ → Prop} (c : σ) {h : Heap} {tk : Nat} {m' : Str → Option Value} {news' : List (Addr × Obj)}
    (F : Fr h₀ L h m') (N : News h₀ L h news') (hp : Post c) (ho : own ∈ news') (hn : ∀ p ∈ Led c, p ∈ news') (ha : ∀ p ∈ Led c, p.1 ≠ own.1) (hk : ∀ p ∈ ps c, m' p.1 = some p.2) :
    FEnd h₀ L s Led ps own Post { s with heap := h, toks := tk } := ⟨c, h, tk, m', news', rfl, F, N, ho, hn, ha, hk, hp⟩

noncomputable def FTEnd {σ : Type} (h₀ : Heap) (L : Addr) (s : Shared) (Led : σ → List (Addr × Obj)) (ps : σ → List (Str × Value)) (own : Addr × Obj) (Nxt Fin : σ → Prop) (Q : Flow → Shared → Prop) (f : Flow) (s₂ : Shared) : Prop :=
  match f with
  | .ret v => Q (.ret v) s₂
  | .brk => LEnd h₀ L s Led ps Fin s₂
  | .next => FEnd h₀ L s Led ps own Nxt s₂
  | .cont => FEnd h₀ L s Led ps own Nxt s₂
noncomputable def ElseEnd {σ : Type} (h₀ : Heap) (L : Addr) (s : Shared) (Led : σ → List (Addr × Obj)) (ps : σ → List (Str × Value)) (Fin : σ → Prop) (Q : Flow → Shared → Prop) (f : Flow) (s₂ : Shared) : Prop :=
  match f with
  | .next => LEnd h₀ L s Led ps Fin s₂
  | .brk => Q .brk s₂
  | .cont => Q .cont s₂
  | .ret v => Q (.ret v) s₂

theorem forG {σ : Type} {target : PySem.Expr} {body orelse : List Stmt} {I : Addr} {fp : List Addr} {n : Nat} {P : Nat → Value → Prop} {St : Nat → Heap → Prop} {m₀ : Str → Option Value}
    (Led : σ → List (Addr × Obj)) (ps : σ → List (Str × Value)) (Inv : Nat → σ → Prop) (Fin : σ → Prop) (c₀ : σ)
    (W : Walks prog w A I fp [I] n P St) (hst : St 0 s.heap) (hI0 : h₀.get? I = none) (hIL : I ≠ L) (hoI : ∀ i h, St i h → ∃ o, h.get? I = some o)
    (hfp : ∀ b ∈ fp, b = I ∨ (∃ o, h₀.get? b = some o) ∨ (∃ o, ∀ i c, Inv i c → (b, o) ∈ Led c)) (hnI : ∀ p ∈ Led c₀, p.1 ≠ I)
    (F : Fr h₀ L s.heap m₀) (N : News h₀ L s.heap (Led c₀)) (hi : Inv 0 c₀) (hk : ∀ p ∈ ps c₀, m₀ p.1 = some p.2)
    (turn : ∀ i v (c : σ) (u : Str → Option Value) h tk oI, i < n → P i v → Inv i c → (∀ p ∈ Led c, p.1 ≠ I) → Fr h₀ L h (fmap u (ps c)) → News h₀ L h (Led c ++ [(I, oI)]) →
      wpAny (model prog w) A (assign target env v) (fun _ s₂ => wpAny (model prog w) A (execs body env) (FTEnd h₀ L s Led ps (I, oI) (Inv (i + 1)) Fin Q) E s₂) E { s with heap := h, toks := tk })
    (els : ∀ (c : σ) (u : Str → Option Value) h tk, Inv n c → Fr h₀ L h (fmap u (ps c)) → News h₀ L h (Led c) → wpAny (model prog w) A (execs orelse env) (ElseEnd h₀ L s Led ps Fin Q) E { s with heap := h, toks := tk })
    (done : ∀ (c : σ) (u : Str → Option Value) h tk, Fin c → Fr h₀ L h (fmap u (ps c)) → News h₀ L h (Led c) → Q .next { s with heap := h, toks := tk })
    (ht : ∀ v, letOwnedTupleGo target (.ref I) v = pure ()) (hE : PassesOwn (model prog w) A env E) :
    LoopHere prog w A E env target body orelse Q (.ref I) s := by
  refine codeAny_forLoop (fun k s' => ∃ i c h' tk m', s' = { s with heap := h', toks := tk } ∧ St i h' ∧ Fr h₀ L h' m' ∧ News h₀ L h' (Led c) ∧ (∀ p ∈ Led c, p.1 ≠ I) ∧ (∀ p ∈ ps c, m' p.1 = some p.2) ∧ Inv i c ∧ i ≤ n ∧ k = n + 1 - i) ?_ (n + 1)
    ⟨0, c₀, s.heap, s.toks, m₀, rfl, hst, F, N, hnI, hk, hi, Nat.zero_le _, rfl⟩ ht
  rintro k s' ⟨i, c, h', tk, m', rfl, hst', F', N', hnI', hk', hi', hin, rfl⟩
  have next : ∀ h₁ : Heap, (∀ b o, b ∉ [I] → h'.get? b = some o → h₁.get? b = some o) → Fr h₀ L h₁ m' ∧ News h₀ L h₁ (Led c) := fun h₁ hk₁ =>
    ⟨⟨F'.ns.at' fun o e => hk₁ _ o (fun hm => hIL (List.mem_singleton.mp hm).symm) e, fun b o e => hk₁ b o (fun hm => by rw [List.mem_singleton.mp hm, hI0] at e; cases e) (F'.keep b o e), F'.above⟩,
      fun p hp => ⟨hk₁ _ _ (fun hm => hnI' p hp (List.mem_singleton.mp hm)) (N' p hp).1, (N' p hp).2⟩⟩
  by_cases hlt : i < n
  · refine W.item i _ _ _ hlt hst' fun v h₁ tk₁ hP hst₁ hk₁ => ?_
    obtain ⟨F₁, N₁⟩ := next h₁ hk₁
    obtain ⟨oI, hoI₁⟩ := hoI _ _ hst₁
    have N₂ : News h₀ L h₁ (Led c ++ [(I, oI)]) := fun p hp => (List.mem_append.mp hp).elim (N₁ p) fun hp => by
      rw [List.mem_singleton.mp hp]
      exact ⟨hoI₁, hIL, hI0⟩
    refine wpAny_mono (turn i v c m' h₁ tk₁ oI hlt hP hi' hnI' (by rw [fmap_eq hk']; exact F₁) N₂) (fun _ s₂ h₂ => ?_) hE
    refine wpAny_mono h₂ (fun f s₃ h₃ => ?_) hE
    have fin : FEnd h₀ L s Led ps (I, oI) (Inv (i + 1)) s₃ → ∃ m, m < n + 1 - i ∧ ∃ i c h' tk m', s₃ = { s with heap := h', toks := tk } ∧ St i h' ∧ Fr h₀ L h' m' ∧ News h₀ L h' (Led c) ∧ (∀ p ∈ Led c, p.1 ≠ I) ∧ (∀ p ∈ ps c, m' p.1 = some p.2) ∧ Inv i c ∧ i ≤ n ∧ m = n + 1 - i := by
      rintro ⟨c', h₃', tk₃, m₃, news₃, rfl, F₃, N₃, ho₃, hl₃, hne₃, hk₃, hi₃⟩
      refine ⟨n + 1 - (i + 1), by omega, i + 1, c', h₃', tk₃, m₃, rfl, ?_, F₃, fun p hp => N₃ p (hl₃ p hp), hne₃, hk₃, hi₃, hlt, rfl⟩
      refine W.frame _ _ _ hst₁ fun b hb o e => ?_
      rcases hfp b hb with rfl | ⟨o₀, h0⟩ | ⟨o₁, hled⟩
      · rw [hoI₁] at e
        cases e
        exact (N₃ _ ho₃).1
      · have := F₁.keep b o₀ h0
        rw [e] at this
        cases this
        exact F₃.keep b _ h0
      · have := (N₁ _ (hled i c hi')).1
        rw [e] at this
        cases this
        exact (N₃ _ (hl₃ _ (hled _ _ hi₃))).1
    cases f with
    | ret v => exact h₃
    | brk => exact LEnd.done done h₃
    | next => exact fin h₃
    | cont => exact fin h₃
  · have hin' : i = n := by omega
    subst hin'
    refine W.done _ _ _ hst' fun h₁ tk₁ hk₁ => ?_
    obtain ⟨F₁, N₁⟩ := next h₁ hk₁
    refine wpAny_mono (els c m' h₁ tk₁ hi' (by rw [fmap_eq hk']; exact F₁) N₁) (fun f s₃ h₃ => ?_) hE
    cases f with
    | next => exact LEnd.done done h₃
    | brk => exact h₃
    | cont => exact h₃
    | ret v => exact h₃

/-- a for with one name: the turn begins behind the store -/
theorem forN {σ : Type} {x : Str} {px : Pos} {body orelse : List Stmt} {I : Addr} {fp : List Addr} {n : Nat} {P : Nat → Value → Prop} {St : Nat → Heap → Prop} {m₀ : Str → Option Value}
    (Led : σ → List (Addr × Obj)) (ps : σ → List (Str × Value)) (Inv : Nat → σ → Prop) (Fin : σ → Prop) (c₀ : σ)
    (W : Walks prog w A I fp [I] n P St) (hst : St 0 s.heap) (hI0 : h₀.get? I = none) (hIL : I ≠ env.locals) (hoI : ∀ i h, St i h → ∃ o, h.get? I = some o)
    (hfp : ∀ b ∈ fp, b = I ∨ (∃ o, h₀.get? b = some o) ∨ (∃ o, ∀ i c, Inv i c → (b, o) ∈ Led c)) (hnI : ∀ p ∈ Led c₀, p.1 ≠ I)
    (F : Fr h₀ env.locals s.heap m₀) (N : News h₀ env.locals s.heap (Led c₀)) (hi : Inv 0 c₀) (hk : ∀ p ∈ ps c₀, m₀ p.1 = some p.2)
    (turn : ∀ i v (c : σ) (u : Str → Option Value) h tk oI, i < n → P i v → Inv i c → (∀ p ∈ Led c, p.1 ≠ I) → Fr h₀ env.locals h (fun y => if y = x then some v else fmap u (ps c) y) → News h₀ env.locals h (Led c ++ [(I, oI)]) →
      wpAny (model prog w) A (execs body env) (FTEnd h₀ env.locals s Led ps (I, oI) (Inv (i + 1)) Fin Q) E { s with heap := h, toks := tk })
    (els : ∀ (c : σ) (u : Str → Option Value) h tk, Inv n c → Fr h₀ env.locals h (fmap u (ps c)) → News h₀ env.locals h (Led c) → wpAny (model prog w) A (execs orelse env) (ElseEnd h₀ env.locals s Led ps Fin Q) E { s with heap := h, toks := tk })
    (done : ∀ (c : σ) (u : Str → Option Value) h tk, Fin c → Fr h₀ env.locals h (fmap u (ps c)) → News h₀ env.locals h (Led c) → Q .next { s with heap := h, toks := tk })
    (hx : env.kindOf x = some .local) (hp : (env.scope.kind == .class || (env.scope.kind == .module && env.locals != env.globals)) = false) (hE : PassesOwn (model prog w) A env E) :
    LoopHere prog w A E env (.Name x px) body orelse Q (.ref I) s := by
  refine forG Led ps Inv Fin c₀ W hst hI0 hIL hoI hfp hnI F N hi hk ?_ els done (fun _ => rfl) hE
  intro i v c u h tk oI hin hP hi' hne F₁ N₁
  refine wpAny_assign_Name (wpAny_storeName_local hx F₁.ns (fun h₂ hn₂ hs₂ => ?_) hp)
  exact turn i v c u h₂ _ oI hin hP hi' hne (F₁.set hn₂ hs₂) (N₁.set hs₂)

/-- no else -/
theorem els_nil {σ : Type} {Led : σ → List (Addr × Obj)} {ps : σ → List (Str × Value)} {Fin : σ → Prop} {c : σ} {u : Str → Option Value} {h : Heap} {tk : Nat} (hf : Fin c) (F : Fr h₀ L h (fmap u (ps c))) (N : News h₀ L h (Led c)) (hk : ∀ p ∈ ps c, fmap u (ps c) p.1 = some p.2) :
    wpAny (model prog w) A (execs [] env) (ElseEnd h₀ L s Led ps Fin Q) E { s with heap := h, toks := tk } :=
  wpAny_execs_nil (LEnd.intro c F N hf (fun _ h => h) hk)
end
end Mine
end

section
open PySem PySem.W PySem.Spec PySem.Calls PyProof.Rows
set_option maxRecDepth 100000
namespace Mine

section
variable {prog : Program} {w : World} {A : Around} {E : Value → Shared → Prop} {Q : Flow → Shared → Prop} {s : Shared} {env : Env} {h₀ : Heap} {L : Addr}

/-- over a range by ones -/
theorem for_range {σ : Type} {x : Str} {px : Pos} {body orelse : List Stmt} {r : Addr} {a b : Int} {t₀ u₀ v₀ : Tok} {n : Nat} {m₀ : Str → Option Value}
    (Led : σ → List (Addr × Obj)) (ps : σ → List (Str × Value)) (Inv : Nat → σ → Prop) (Fin : σ → Prop) (c₀ : σ)
    (hh : A.handled = none) (hr : IsRange s.heap r a b 1 t₀ u₀ v₀) (hsmall : Builtin.Range.small a b 1 = true) (hn : Builtin.Range.rangeSize a b 1 = (n : Int))
    (F : Fr h₀ env.locals s.heap m₀) (N : News h₀ env.locals s.heap (Led c₀)) (hi : Inv 0 c₀) (hk : ∀ p ∈ ps c₀, m₀ p.1 = some p.2)
    (turn : ∀ i t (c : σ) (u : Str → Option Value) h tk I oI, i < n → Inv i c → (∀ p ∈ Led c, p.1 ≠ I) → Fr h₀ env.locals h (fun y => if y = x then some (.int (a + (i : Int)) t) else fmap u (ps c) y) → News h₀ env.locals h (Led c ++ [(I, oI)]) →
      wpAny (model prog w) A (execs body env) (FTEnd h₀ env.locals s Led ps (I, oI) (Inv (i + 1)) Fin Q) E { s with heap := h, toks := tk })
    (els : ∀ (c : σ) (u : Str → Option Value) h tk, Inv n c → Fr h₀ env.locals h (fmap u (ps c)) → News h₀ env.locals h (Led c) → wpAny (model prog w) A (execs orelse env) (ElseEnd h₀ env.locals s Led ps Fin Q) E { s with heap := h, toks := tk })
    (done : ∀ (c : σ) (u : Str → Option Value) h tk, Fin c → Fr h₀ env.locals h (fmap u (ps c)) → News h₀ env.locals h (Led c) → Q .next { s with heap := h, toks := tk })
    (hx : env.kindOf x = some .local) (hp : (env.scope.kind == .class || (env.scope.kind == .module && env.locals != env.globals)) = false) (hE : PassesOwn (model prog w) A env E) :
    wpAny (model prog w) A (pyIter (.ref r)) (fun it s₂ => LoopHere prog w A E env (.Name x px) body orelse Q it s₂) E s := by
  refine wpAny_pyIter_range hr hsmall ?_
  have hI : h₀.get? s.heap.objs.size = none := next_is_new F
  refine forN Led ps Inv Fin c₀ (Walks.range hh _ a 1 n) (by show IsRangeIter _ _ _ _ _; rw [hn]; simpa using Heap.get?_push_size _ rfl) hI
    (Nat.ne_of_gt F.ns.lt) (fun i h st => ⟨_, st⟩) (fun b hb => .inl (List.mem_singleton.mp hb))
    (fun p hp e => absurd (Heap.lt_size (N p hp).1) (e ▸ Nat.lt_irrefl _)) (F.push _) (fun p hp => ⟨Heap.get?_push_of_some _ (N p hp).1, (N p hp).2⟩) hi hk ?_ els done hx hp hE
  rintro i v c u h tk oI hin ⟨t, rfl⟩ hi' hne F' N'
  rw [show a + (i : Int) * 1 = a + (i : Int) by omega] at F'
  exact turn i t c u h tk _ oI hin hi' hne F' N'

/-- over a range's iterator that the call has made, downward -/
theorem for_down {σ : Type} {x : Str} {px : Pos} {body orelse : List Stmt} {I : Addr} {n : Nat} {m₀ : Str → Option Value}
    (Led : σ → List (Addr × Obj)) (ps : σ → List (Str × Value)) (Inv : Nat → σ → Prop) (Fin : σ → Prop) (c₀ : σ)
    (hh : A.handled = none) (hit : IsRangeIter s.heap I ((n : Int) - 1) (n : Int) (-1)) (hI0 : h₀.get? I = none) (hIL : I ≠ env.locals) (hnI : ∀ p ∈ Led c₀, p.1 ≠ I)
    (F : Fr h₀ env.locals s.heap m₀) (N : News h₀ env.locals s.heap (Led c₀)) (hi : Inv 0 c₀) (hk : ∀ p ∈ ps c₀, m₀ p.1 = some p.2)
    (turn : ∀ i t (c : σ) (u : Str → Option Value) h tk oI, i < n → Inv i c → (∀ p ∈ Led c, p.1 ≠ I) → Fr h₀ env.locals h (fun y => if y = x then some (.int ((n - 1 - i : Nat) : Int) t) else fmap u (ps c) y) → News h₀ env.locals h (Led c ++ [(I, oI)]) →
      wpAny (model prog w) A (execs body env) (FTEnd h₀ env.locals s Led ps (I, oI) (Inv (i + 1)) Fin Q) E { s with heap := h, toks := tk })
    (els : ∀ (c : σ) (u : Str → Option Value) h tk, Inv n c → Fr h₀ env.locals h (fmap u (ps c)) → News h₀ env.locals h (Led c) → wpAny (model prog w) A (execs orelse env) (ElseEnd h₀ env.locals s Led ps Fin Q) E { s with heap := h, toks := tk })
    (done : ∀ (c : σ) (u : Str → Option Value) h tk, Fin c → Fr h₀ env.locals h (fmap u (ps c)) → News h₀ env.locals h (Led c) → Q .next { s with heap := h, toks := tk })
    (hx : env.kindOf x = some .local) (hp : (env.scope.kind == .class || (env.scope.kind == .module && env.locals != env.globals)) = false) (hE : PassesOwn (model prog w) A env E) :
    wpAny (model prog w) A (pyIter (.ref I)) (fun it s₂ => LoopHere prog w A E env (.Name x px) body orelse Q it s₂) E s := by
  refine wpAny_pyIter_rangeiter hit ?_
  refine forN Led ps Inv Fin c₀ (Walks.range hh I ((n : Int) - 1) (-1) n) (by show IsRangeIter _ _ _ _ _; simpa using hit) hI0
    hIL (fun i h st => ⟨_, st⟩) (fun b hb => .inl (List.mem_singleton.mp hb)) hnI F N hi hk ?_ els done hx hp hE
  rintro i v c u h tk oI hin ⟨t, rfl⟩ hi' hne F' N'
  rw [show (n : Int) - 1 + (i : Int) * -1 = ((n - 1 - i : Nat) : Int) by omega] at F'
  exact turn i t c u h tk oI hin hi' hne F' N'

noncomputable def rangeIt (a n c : Int) : Obj := { cls := .type "range_iterator", dict := none, data := .fields #[rawInt a, rawInt n, rawInt c], slots := #[] }

theorem sub_ri_reversed : isSubtype (.type "range_iterator") (.type "reversed") = pure false := by rw [isSubtype_type]; kernel_rfl

theorem call_range_reversed {r : Addr} {k : Nat} {b : Int} {t u v : Tok} {Q : Value → Shared → Prop} (hr : IsRange s.heap r 0 b 1 t u v) (hk : Builtin.Range.rangeSize 0 b 1 = (k : Int)) (hb : b < 2 ^ 62) (hb0 : 0 ≤ b)
    (h : Q (.ref s.heap.objs.size) { s with heap := s.heap.push (rangeIt ((k : Int) - 1) k (-1)) }) : wpAny (model prog w) A (call (.builtin "range.__reversed__") [.ref r]) Q E s := by
  have hT : s.TypeIs (.ref r) "range" := ⟨_, hr, rfl⟩
  refine wpAny_call_entry F.slot_range_reversed hT F.entry_range_reversed ?_ (F.args_range_reversed_1 _)
  unfold Builtin.«range.__reversed__»
  refine wpAny_bind (wpAny_of_eq (a := Value.ref r) rfl ?_)
  have hf : ∀ {R : Int × Int × Int → Shared → Prop} {E' : Value → Shared → Prop}, R (0, b, 1) s → wpAny (model prog w) A.in1 (Builtin.Range.rangeFields (.ref r)) R E' s := by
    intro R E' hR
    unfold Builtin.Range.rangeFields
    refine wpAny_bind (wpAny_field hr rfl (x := .int 0 t) rfl ?_)
    refine wpAny_bind (wpAny_of_eq (a := some 0) rfl ?_)
    refine wpAny_bind (wpAny_field hr rfl (x := .int b u) rfl ?_)
    refine wpAny_bind (wpAny_of_eq (a := some b) rfl ?_)
    refine wpAny_bind (wpAny_field hr rfl (x := .int 1 v) rfl ?_)
    refine wpAny_bind (wpAny_of_eq (a := some 1) rfl ?_)
    exact wpAny_pure hR
  refine wpAny_bind (hf ?_)
  have hkb : (k : Int) ≤ b := by
    rw [← hk]
    unfold Builtin.Range.rangeSize
    simp only [show (1 : Int) > 0 from by decide, if_true]
    split
    · simp
    · omega
  have hsm : (Builtin.Range.rangeFitsLong 0 && Builtin.Range.rangeFitsLong b && Builtin.Range.rangeFitsLong 1 && Builtin.Range.rangeFitsLong (-1) && Builtin.Range.rangeFitsLong (0 - 1) && Builtin.Range.rangeFitsLong (k : Int)) = true := by
    simp only [Builtin.Range.rangeFitsLong, Bool.and_eq_true, decide_eq_true_eq]
    omega
  dsimp only
  rw [hk, hsm]
  simp only [Bool.not_true, Bool.false_eq_true, if_false, if_true]
  refine wpAny_bind (wpAny_newObj_type (wpAny_pure ⟨_, rfl, ?_⟩))
  rw [show (0 : Int) + ((k : Int) - 1) * 1 = (k : Int) - 1 by omega]
  exact h

theorem code_reversed_new_range {r : Addr} {k : Nat} {b : Int} {t u v : Tok} {Q₁ : Value → Shared → Prop} (hr : IsRange s.heap r 0 b 1 t u v) (hk : Builtin.Range.rangeSize 0 b 1 = (k : Int)) (hb : b < 2 ^ 62) (hb0 : 0 ≤ b)
    (h : Q₁ (.ref s.heap.objs.size) { s with heap := s.heap.push (rangeIt ((k : Int) - 1) k (-1)) }) :
    codeAny (model prog w) A (.call (.builtin "reversed.__new__") ⟨[.type "reversed", .ref r], []⟩) (wants Q₁ E) s := by
  have hT : s.TypeIs (.ref r) "range" := ⟨_, hr, rfl⟩
  refine codeAny_of_tree ?_
  show wpAny _ A.in1 (do checkBuiltinCall "reversed.__new__" ⟨[.type "reversed", .ref r], []⟩; again (.builtin "reversed.__new__" ⟨[.type "reversed", .ref r], []⟩)) _ _ s
  refine wpAny_bind (wpAny_of_eq (F.newCall_reversed_1 _) (wpAny_pure ⟨plainId_quiet F.plain_reversed_new _, codeAny_builtin F.entry_reversed_new ?_⟩))
  rw [Around.under_plainId F.plain_reversed_new _]
  unfold Builtin.«reversed.__new__»
  refine wpAny_bind (wpAny_of_eq (newClass_reversed _) ?_)
  try dsimp only
  refine wpAny_bind (wpAny_of_eq (a := ()) (by first | rfl | kernel_rfl) ?_)
  refine wpAny_bind (wpAny_of_eq (a := ()) (by first | rfl | kernel_rfl) ?_)
  try dsimp only
  refine wpAny_bind (wpAny_specialOf hT F.slot_range_reversed.lookup ?_)
  try dsimp only
  refine wpAny_bind (wpAny_of_eq (F.slot_range_reversed.bind _) ?_)
  try dsimp only
  first
  | rw [if_neg (show ¬ ((Value.builtin "range.__reversed__" == Value.none) = true) from Bool.false_ne_true)]
  | (show wpAny _ _ (if (Value.builtin "range.__reversed__" == Value.none) = true then _ else _) _ _ _; rw [if_neg (show ¬ ((Value.builtin "range.__reversed__" == Value.none) = true) from Bool.false_ne_true)])
  refine wpAny_bind (wpAny_rule ?_)
  refine wpAny_bind (m := runValue (.call (.builtin "range.__reversed__") ⟨[.ref r], []⟩)) (show wpAny _ _ (call (.builtin "range.__reversed__") [.ref r]) _ _ _ from call_range_reversed hr hk hb hb0 ?_)
  first
  | exact wpAny_pure h
  | exact wpAny_bind (wpAny_pure (wpAny_pure h))

theorem call_reversed_range {r : Addr} {k : Nat} {b : Int} {t u v : Tok} {Q : Value → Shared → Prop} (hr : IsRange s.heap r 0 b 1 t u v) (hk : Builtin.Range.rangeSize 0 b 1 = (k : Int)) (hb : b < 2 ^ 62) (hb0 : 0 ≤ b)
    (h : Q (.ref s.heap.objs.size) { s with heap := s.heap.push (rangeIt ((k : Int) - 1) k (-1)) }) : wpAny (model prog w) A (call (.type "reversed") [.ref r]) Q E s := by
  refine callType_other (U := "range_iterator") (Q₁ := fun obj s₁ => obj = .ref s.heap.objs.size ∧ s₁ = { s with heap := s.heap.push (rangeIt ((k : Int) - 1) k (-1)) }) (by decide +kernel) F.create_reversed ⟨_, _, F.mro_reversed⟩ F.made_reversed sub_ri_reversed (F.typeCall_reversed_1 _) (code_reversed_new_range hr hk hb hb0 ⟨rfl, rfl⟩) ?_
  rintro obj s₁ ⟨rfl, rfl⟩
  exact ⟨⟨_, Heap.get?_push_size _ rfl, rfl⟩, h⟩

/-- the same upon the ledger -/
theorem reversed_N {m : Str → Option Value} {news : List (Addr × Obj)} {r : Addr} {k : Nat} {b : Int} {t u v : Tok} {Q : Value → Shared → Prop} (F : Fr h₀ L s.heap m) (N : News h₀ L s.heap news) (hr : IsRange s.heap r 0 b 1 t u v) (hk : Builtin.Range.rangeSize 0 b 1 = (k : Int)) (hb : b < 2 ^ 62) (hb0 : 0 ≤ b)
    (h : ∀ I h', Fr h₀ L h' m → News h₀ L h' ((I, rangeIt ((k : Int) - 1) k (-1)) :: news) → (∀ p ∈ news, p.1 < I) → Q (.ref I) { s with heap := h' }) : wpAny (model prog w) A (call (.type "reversed") [.ref r]) Q E s :=
  call_reversed_range hr hk hb hb0 (h _ _ (F.push _) (N.push F _) fun p hp => Heap.lt_size (N p hp).1)
end
end Mine
end

section
open PySem PySem.W PySem.Spec PySem.Calls PyProof.Rows
set_option maxRecDepth 100000
namespace Mine
section
variable {prog : Program} {w : World} {A : Around} {E : Value → Shared → Prop} {Q : Flow → Shared → Prop} {s : Shared} {env : Env} {h₀ : Heap} {L : Addr}
/-- over a range by ones; the name is stored by the turn itself -/
theorem for_rangeG {σ : Type} {x : Str} {px : Pos} {body orelse : List Stmt} {r : Addr} {a b : Int} {t₀ u₀ v₀ : Tok} {n : Nat} {m₀ : Str → Option Value}
    (Led : σ → List (Addr × Obj)) (ps : σ → List (Str × Value)) (Inv : Nat → σ → Prop) (Fin : σ → Prop) (c₀ : σ)
    (hh : A.handled = none) (hr : IsRange s.heap r a b 1 t₀ u₀ v₀) (hsmall : Builtin.Range.small a b 1 = true) (hn : Builtin.Range.rangeSize a b 1 = (n : Int))
    (F : Fr h₀ env.locals s.heap m₀) (N : News h₀ env.locals s.heap (Led c₀)) (hi : Inv 0 c₀) (hk : ∀ p ∈ ps c₀, m₀ p.1 = some p.2)
    (turn : ∀ i t (c : σ) (u : Str → Option Value) h tk I oI, i < n → Inv i c → (∀ p ∈ Led c, p.1 ≠ I) → Fr h₀ env.locals h (fmap u (ps c)) → News h₀ env.locals h (Led c ++ [(I, oI)]) →
      wpAny (model prog w) A (storeName env x (.int (a + (i : Int)) t)) (fun _ s₂ => wpAny (model prog w) A (execs body env) (FTEnd h₀ env.locals s Led ps (I, oI) (Inv (i + 1)) Fin Q) E s₂) E { s with heap := h, toks := tk })
    (els : ∀ (c : σ) (u : Str → Option Value) h tk, Inv n c → Fr h₀ env.locals h (fmap u (ps c)) → News h₀ env.locals h (Led c) → wpAny (model prog w) A (execs orelse env) (ElseEnd h₀ env.locals s Led ps Fin Q) E { s with heap := h, toks := tk })
    (done : ∀ (c : σ) (u : Str → Option Value) h tk, Fin c → Fr h₀ env.locals h (fmap u (ps c)) → News h₀ env.locals h (Led c) → Q .next { s with heap := h, toks := tk })
    (hE : PassesOwn (model prog w) A env E) :
    wpAny (model prog w) A (pyIter (.ref r)) (fun it s₂ => LoopHere prog w A E env (.Name x px) body orelse Q it s₂) E s := by
  refine wpAny_pyIter_range hr hsmall ?_
  have hI : h₀.get? s.heap.objs.size = none := next_is_new F
  refine forG Led ps Inv Fin c₀ (Walks.range hh _ a 1 n) (by show IsRangeIter _ _ _ _ _; rw [hn]; simpa using Heap.get?_push_size _ rfl) hI
    (Nat.ne_of_gt F.ns.lt) (fun i h st => ⟨_, st⟩) (fun b hb => .inl (List.mem_singleton.mp hb))
    (fun p hp e => absurd (Heap.lt_size (N p hp).1) (e ▸ Nat.lt_irrefl _)) (F.push _) (fun p hp => ⟨Heap.get?_push_of_some _ (N p hp).1, (N p hp).2⟩) hi hk ?_ els done (fun _ => rfl) hE
  rintro i v c u h tk oI hin ⟨t, rfl⟩ hi' hne F' N'
  rw [show a + (i : Int) * 1 = a + (i : Int) by omega]
  exact wpAny_assign_Name (turn i t c u h tk _ oI hin hi' hne F' N')
end
end Mine
end

section
open PySem PySem.W PySem.Spec PySem.Calls PyProof.Rows
set_option maxRecDepth 100000
namespace Mine
/-- a list's iterator -/
noncomputable def lit (l : Value) (i : Nat) : Obj := { cls := .type "list_iterator", data := .fields #[l, rawInt (i : Int)] }

section
variable {prog : Program} {w : World} {A : Around} {E : Value → Shared → Prop} {s : Shared} {h₀ : Heap} {L : Addr} {m : Str → Option Value} {news news' : List (Addr × Obj)}

theorem iter_N {l : Addr} {vs : List Value} {n : Nat} {Q : Value → Shared → Prop} (F : Fr h₀ L s.heap m) (N : News h₀ L s.heap news) (ho : s.heap.get? l = some (listOf vs.toArray n))
    (h : ∀ I h', Fr h₀ L h' m → News h₀ L h' ((I, lit (.ref l) 0) :: news) → (∀ p ∈ news, p.1 < I) → Q (.ref I) { s with heap := h' }) :
    wpAny (model prog w) A (call (.builtin "iter") [.ref l]) Q E s := by
  refine call_function_entry (by decide +kernel) (by decide +kernel) kdk_entry_iter (kdk_args_iter _) ?_
  unfold Builtin.«iter»
  refine wpAny_bind (m := someArgs "iter" 1 2 _) (wpAny_of_eq (a := [Value.ref l]) (by first | rfl | kernel_rfl!) ?_)
  show wpAny _ _ (pyIter (.ref l) >>= _) _ _ _
  refine wpAny_bind (wpAny_pyIter_list (PySem.IsL.isList (n := n) ho) ?_)
  exact wpAny_pure ⟨_, rfl, h _ _ (F.push _) (N.push F _) fun p hp => Heap.lt_size (N p hp).1⟩

theorem next_N {l it : Addr} {vs : List Value} {n i : Nat} {v : Value} {Q : Value → Shared → Prop} (F : Fr h₀ L s.heap m) (N : News h₀ L s.heap news) (U : Upd it (lit (.ref l) i) (lit (.ref l) (i + 1)) news news')
    (ho : s.heap.get? l = some (listOf vs.toArray n)) (hv : vs[i]? = some v)
    (h : ∀ h', Fr h₀ L h' m → News h₀ L h' news' → Q v { s with heap := h' }) :
    wpAny (model prog w) A (call (.builtin "next") [.ref it]) Q E s := by
  obtain ⟨pre, post, rfl, rfl, a, b⟩ := U.split
  have hm := N (it, lit (.ref l) i) (List.mem_append_right _ (.head _))
  have hit : s.heap.IsListIter it l i := ⟨_, hm.1, rfl, rfl⟩
  have hlist : s.heap.IsList l vs.toArray := PySem.IsL.isList (n := n) ho
  obtain ⟨ol, hol, _, nl, hdl⟩ := hlist
  refine call_function_entry (by decide +kernel) (by decide +kernel) kdk_entry_next (kdk_args_next _) ?_
  unfold Builtin.«next»
  refine wpAny_bind (m := someArgs "next" 1 2 _) (wpAny_of_eq (a := [Value.ref it]) (by first | rfl | kernel_rfl!) ?_)
  dsimp only
  refine wpAny_bind (wpAny_specialOf (name := Str.ofString "__next__") hit.typeIs slot_listiter_next.lookup ?_)
  refine wpAny_ite_split (fun hab => absurd hab (by decide)) (fun _ => ?_)
  refine wpAny_bind (wpAny_callSpecial?_slot (name := Str.ofString "__next__") hit.typeIs slot_listiter_next
    (wpAny_call_entry slot_listiter_next hit.typeIs entry_listiter_next ?_ (args_listiter_next _)))
  show wpAny _ _ (field (.ref it) 0 >>= _) _ _ s
  refine wpAny_bind (wpAny_field hm.1 rfl (x := .ref l) rfl ?_)
  show wpAny _ _ (if (Value.ref l == Value.none) = true then _ else _) _ _ s
  rw [if_neg (show ¬ ((Value.ref l == Value.none) = true) from Bool.false_ne_true)]
  show wpAny _ _ (field (.ref it) 1 >>= _) _ _ s
  refine wpAny_bind (wpAny_field hm.1 rfl (x := .int i 0) rfl ?_)
  show wpAny _ _ (seqItems? (.ref l) >>= _) _ _ s
  refine wpAny_bind (wpAny_seqItems hol hdl ?_)
  have hv' : vs.toArray[i]? = some v := by simpa using hv
  simp only [Int.toNat_natCast, hv']
  refine wpAny_bind (wpAny_setField hm.1 rfl (by simp) (wpAny_pure ⟨v, rfl, ?_⟩))
  refine wpAny_pure ⟨_, rfl, h _ (F.change (Heap.SameBut.update ..) hm.2.1 hm.2.2) ?_⟩
  refine news_set N a b (Heap.SameBut.update ..) ?_
  rw [Heap.get?_update_self _ hm.1 rfl]
  simp [lit, Obj.mapFields, rawInt]

theorem next_end {l it : Addr} {vs : List Value} {n i : Nat} {Q : Value → Shared → Prop} (hh : A.handled = none) (hm : s.heap.get? it = some (lit (.ref l) i))
    (ho : s.heap.get? l = some (listOf vs.toArray n)) (hv : vs[i]? = none)
    (hE : ∀ h₁ h' e, Heap.SameBut it s.heap h₁ → Heap.NewExc h₁ h' e "StopIteration" → E (.ref e) { s with heap := h' }) :
    wpAny (model prog w) A (call (.builtin "next") [.ref it]) Q E s := by
  have hit : s.heap.IsListIter it l i := ⟨_, hm, rfl, rfl⟩
  have hlist : s.heap.IsList l vs.toArray := PySem.IsL.isList (n := n) ho
  obtain ⟨ol, hol, _, nl, hdl⟩ := hlist
  refine call_function_entry (by decide +kernel) (by decide +kernel) kdk_entry_next (kdk_args_next _) ?_
  unfold Builtin.«next»
  refine wpAny_bind (m := someArgs "next" 1 2 _) (wpAny_of_eq (a := [Value.ref it]) (by first | rfl | kernel_rfl!) ?_)
  dsimp only
  refine wpAny_bind (wpAny_specialOf (name := Str.ofString "__next__") hit.typeIs slot_listiter_next.lookup ?_)
  refine wpAny_ite_split (fun hab => absurd hab (by decide)) (fun _ => ?_)
  refine wpAny_bind (wpAny_callSpecial?_slot (name := Str.ofString "__next__") hit.typeIs slot_listiter_next
    (wpAny_call_entry slot_listiter_next hit.typeIs entry_listiter_next ?_ (args_listiter_next _)))
  show wpAny _ _ (field (.ref it) 0 >>= _) _ _ s
  refine wpAny_bind (wpAny_field hm rfl (x := .ref l) rfl ?_)
  show wpAny _ _ (if (Value.ref l == Value.none) = true then _ else _) _ _ s
  rw [if_neg (show ¬ ((Value.ref l == Value.none) = true) from Bool.false_ne_true)]
  show wpAny _ _ (field (.ref it) 1 >>= _) _ _ s
  refine wpAny_bind (wpAny_field hm rfl (x := .int i 0) rfl ?_)
  show wpAny _ _ (seqItems? (.ref l) >>= _) _ _ s
  refine wpAny_bind (wpAny_seqItems hol hdl ?_)
  have hv' : vs.toArray[i]? = none := by simpa using hv
  simp only [Int.toNat_natCast, hv']
  refine wpAny_bind (wpAny_rule (wpAny_bind (wpAny_setField hm rfl (by simp) ?_)))
  show wpAny _ _ (newExc (.type "StopIteration") [] >>= _) _ _ _
  refine wpAny_bind ?_
  simp only [newExc, newTuple]
  refine wpAny_bind (wpAny_newObj_type ?_ (by size_fits))
  refine wpAny_bind (m := firstArgMember _ _) (wpAny_of_eq (a := Value.none) (by first | rfl | (simp only [firstArgMember]; rfl)) ?_)
  refine wpAny_newObj_type ?_ (by size_fits)
  simp only [raiseNew]
  refine wpAny_bind (wpAny_handled ?_)
  rw [show A.in1.in1.handled = none from hh]
  refine wpAny_bind (wpAny_pure (wpAny_throw ?_))
  refine hE _ _ _ (Heap.SameBut.update ..) ⟨fun b o e => Heap.get?_push_of_some _ (Heap.get?_push_of_some _ e), ?_, ⟨_, _, Heap.get?_push_size _ rfl, rfl, rfl⟩⟩
  rw [Heap.size_push]
  cases q : Heap.get? _ _ with
  | none => rfl
  | some o => exact absurd (Heap.lt_size q) (Nat.not_lt.mpr (Nat.le_succ _))

theorem next_endN {l it : Addr} {vs : List Value} {n i : Nat} {rest : List (Addr × Obj)} {Q : Value → Shared → Prop} (hh : A.handled = none) (F : Fr h₀ L s.heap m) (N : News h₀ L s.heap ((it, lit (.ref l) i) :: rest)) (hap : ∀ p ∈ rest, p.1 ≠ it)
    (ho : s.heap.get? l = some (listOf vs.toArray n)) (hv : vs[i]? = none)
    (hE : ∀ h₁ h' e, Fr h₀ L h₁ m → News h₀ L h₁ rest → Heap.NewExc h₁ h' e "StopIteration" → E (.ref e) { s with heap := h' }) :
    wpAny (model prog w) A (call (.builtin "next") [.ref it]) Q E s := by
  have hm := N _ (.head _)
  refine next_end hh hm.1 ho hv fun h₁ h' e hs hx => hE h₁ h' e (F.change hs hm.2.1 hm.2.2) (fun p hp => ?_) hx
  have z := N p (.tail _ hp)
  exact ⟨(hs.2 p.1 (hap p hp)).trans z.1, z.2⟩
end
end Mine
end

section
open PySem PySem.W PySem.Spec PySem.Calls PyProof.Rows
set_option maxRecDepth 100000
namespace Mine
theorem bitAnd_nat (x y : Nat) : Builtin.bitAnd (x : Int) (y : Int) = ((x &&& y : Nat) : Int) := by
  unfold Builtin.bitAnd
  rw [decide_eq_true (show (0 : Int) ≤ (x : Int) by omega), decide_eq_true (show (0 : Int) ≤ (y : Int) by omega)]
  rfl
theorem bitOr_nat (x y : Nat) : Builtin.bitOr (x : Int) (y : Int) = ((x ||| y : Nat) : Int) := by
  unfold Builtin.bitOr Builtin.bitAnd Builtin.bitNot
  rw [decide_eq_false (show ¬ (0 : Int) ≤ -(x : Int) - 1 by omega), decide_eq_false (show ¬ (0 : Int) ≤ -(y : Int) - 1 by omega)]
  dsimp only
  rw [show (-(-(x : Int) - 1) - 1).toNat = x by omega, show (-(-(y : Int) - 1) - 1).toNat = y by omega]
  omega
theorem bitXor_nat (x y : Nat) : Builtin.bitXor (x : Int) (y : Int) = ((x ||| y : Nat) : Int) - ((x &&& y : Nat) : Int) := by
  unfold Builtin.bitXor
  rw [bitOr_nat, bitAnd_nat]
theorem and64 : ∀ x : Nat, x < 128 → x &&& 64 = if x < 64 then 0 else 64 := by decide
theorem bitAnd64 {x : Int} (h0 : 0 ≤ x) (h1 : x < 128) : Builtin.bitAnd x 64 = if x < 64 then 0 else 64 := by
  obtain ⟨n, rfl⟩ := Int.eq_ofNat_of_zero_le h0
  have := and64 n (by omega)
  rw [show (64 : Int) = ((64 : Nat) : Int) from rfl, bitAnd_nat, this]
  by_cases h : n < 64
  · rw [if_pos h, if_pos (by omega)]
    rfl
  · rw [if_neg h, if_neg (by omega)]
theorem bitOr64 {a b : Int} (h0 : 0 ≤ a) (hb : 0 ≤ b) (hb' : b < 64) : Builtin.bitOr (a * 64) b = a * 64 + b := by
  obtain ⟨n, rfl⟩ := Int.eq_ofNat_of_zero_le h0
  obtain ⟨k, rfl⟩ := Int.eq_ofNat_of_zero_le hb
  have e : ((n : Int) * 64) = ((2 ^ 6 * n : Nat) : Int) := by omega
  rw [e, bitOr_nat, ← Nat.two_pow_add_eq_or_of_lt (by omega) n]
  omega

/-- what _parse_varint reckons of j octets from i on -/
noncomputable def pv (os : List Int) (i : Nat) : Nat → Int
  | 0 => 0
  | 1 => os.getD i 0 % 64
  | j + 2 => pv os i (j + 1) * 64 + os.getD (i + (j + 1)) 0 % 64
theorem pv_nonneg (os : List Int) (i : Nat) : ∀ j, 0 ≤ pv os i j
  | 0 => Int.le_refl _
  | 1 => Int.emod_nonneg _ (by decide)
  | j + 2 => by
    have := pv_nonneg os i (j + 1)
    have := Int.emod_nonneg (os.getD (i + (j + 1)) 0) (show (64 : Int) ≠ 0 by decide)
    show 0 ≤ pv os i (j + 1) * 64 + os.getD (i + (j + 1)) 0 % 64
    omega
theorem pv_lt (os : List Int) (i : Nat) : pv os i 1 < 64 ∧ pv os i 2 < 4096 ∧ pv os i 3 < 262144 := by
  have h1 : pv os i 1 < 64 := Int.emod_lt_of_pos _ (by decide)
  have e2 : pv os i 2 = pv os i 1 * 64 + os.getD (i + 1) 0 % 64 := rfl
  have e3 : pv os i 3 = pv os i 2 * 64 + os.getD (i + 2) 0 % 64 := rfl
  have := Int.emod_lt_of_pos (os.getD (i + 1) 0) (show (0 : Int) < 64 by decide)
  have := Int.emod_lt_of_pos (os.getD (i + 2) 0) (show (0 : Int) < 64 by decide)
  omega
theorem pv_next (os : List Int) (i j : Nat) : Builtin.bitOr (pv os i (j + 1) * 64) (Builtin.bitAnd (os.getD (i + (j + 1)) 0) 63) = pv os i (j + 2) := by
  rw [bitAnd_m6, bitOr64 (pv_nonneg _ _ _) (Int.emod_nonneg _ (by decide)) (Int.emod_lt_of_pos _ (by decide))]
  rfl
end Mine
end

section
open PySem PySem.W PySem.Spec PySem.Calls PyProof.Rows
set_option maxRecDepth 100000
namespace Mine
theorem news_perm {h₀ : Heap} {L : Addr} {h : Heap} {l l' : List (Addr × Obj)} (N : News h₀ L h l) (hp : l'.Perm l) : News h₀ L h l' := fun p hq => N p (hp.mem_iff.mp hq)
section
variable {prog : Program} {w : World} {A₀ A : Around} {s : Shared} {base h₀ : Heap} {env : Env} {L : Addr} {m : Str → Option Value} {news : List (Addr × Obj)} {K : Frag} {p : Program} {loose : List Str} {mean : ExcName → Option Value} {mg mb : Str → Option Value}
    {R : Result → Shared → Prop} {name qual : Str} {params : Arguments} {body : List Stmt} {scope : Scope} {dV kV doc pm cdv ct oc : Value} {an od : Option Addr} {osl : Array (Option Value)} {f : Addr} {args : Args} {binds : List (Str × Value)}

theorem code_defS0X (B : Below A₀ base [] h₀) (F : Fr h₀ L s.heap m) (X₀ : K.In h₀) (N : News h₀ L s.heap news) (T : Top p loose mean mg mb h₀) (hA : A.frames = some [env]) (hf : env.frame = some L) (hke : env.scope.kind = .function)
    (ho : K.lookup f = some ⟨oc, od, .func (fnOf name qual params body scope dV kV doc pm an cdv ct), osl⟩) (hcd : codeIn K cdv qual = true) (hroom : A.depth < recursionLimit)
    (hbind : BindsTo s (fnOf name qual params body scope dV kV doc pm an cdv ct) args binds) (hloc : ∀ y ∈ binds, scope.names.lookup y.1 = some .local)
    (h : ∀ g L' h₁, Fr h₀ L g m → Fr g L' h₁ (fun y => binds.reverse.lookup y) → News g L' h₁ news → Below A base [env] g → K.In g → Top p loose mean mg mb g → KtsDicts ([env].filterMap (·.frame)) g →
      wpAny (model prog w) (A.deeper (envOf qual scope L' f cdv)) (execs body (envOf qual scope L' f cdv))
        (fun fl s' => LeaveS0 ([env].filterMap (·.frame)) h₀ L m g R (match fl with | .ret v => v | _ => .none) s')
        (fun e s' => wpAny (model prog w) (A.deeper (envOf qual scope L' f cdv)) (leaving (envOf qual scope L' f cdv) e) (fun _ s'' => R (.error e) s'') (fun e' s'' => R (.error e') s'') s')
        { s with heap := h₁, toks := s.toks + binds.length })
    (hco : scope.isCoroutine = false) (hgen : scope.isGenerator = false) (hk : scope.kind = .function)
    (hcell : ∀ x ∈ scope.names, x.2 ≠ .cell) : codeAny (model prog w) A (.call (.ref f) args) R s := by
  have X := X₀.keeps F.keep
  have efs : [env].filterMap (·.frame) = [L] := by simp [hf]
  rw [efs] at h
  refine codeAny_call_def (fd := fnOf name qual params body scope dV kV doc pm an cdv ct) (body := body) (binds := binds) hroom (X _ _ ho) rfl (T.nolimit.keeps F.keep) (codeRec_of X hcd) rfl hbind hcell hloc (fun h₁ hns hk₁ => ?_) hco hgen hk
  obtain ⟨FG, BG, st, _⟩ := groundX (R := R) B F N hA hf hke
  obtain ⟨oL, es, ep, hL, hLd, hLk, hLf⟩ := F.ns
  have nL : L ∉ news.map (·.1) := fun q => by
    obtain ⟨p, hp, e⟩ := List.mem_map.mp q
    exact (N p hp).2.1 e
  have hLg := hideAll_get (news.map (·.1)) hL nL
  refine wpAny_mono (h _ s.heap.objs.size h₁ FG ⟨hns, fun b o e => hk₁ b o (of_hideAll _ e), Nat.le_of_eq (hideAll_size _ _)⟩
    (fun p hp => ⟨hk₁ _ _ (N p hp).1, Nat.ne_of_lt (Heap.lt_size (N p hp).1), hideAll_none _ (List.mem_map_of_mem hp)⟩) BG (X₀.keeps st) (T.keeps st) (fun b hb => by
      rw [List.mem_singleton.mp hb]
      exact ⟨oL, es, ep, hLg, hLd⟩)) (fun fl s' hl => ?_) fun _ _ y => y
  obtain ⟨g', L', m', news', T', F', N', k⟩ := hl
  have nL₀ : h₀.get? L = none := kts_self F
  obtain ⟨sl, hs⟩ := T'.up hLg
  refine k ⟨⟨_, es, ep, F'.keep _ _ hs, hLd, hLk, hLf⟩, fun b o e => F'.keep b o (T'.other b o (st b o e) (fun q => by
    rw [List.mem_singleton.mp q, nL₀] at e
    cases e)), F.above⟩ fun p hp => ⟨(N' p hp).1, fun q => ?_, ?_⟩
  · have := (N' p hp).2.2; rw [q, hs] at this; cases this
  · cases q : h₀.get? p.1 with
    | none => rfl
    | some o =>
      obtain ⟨sl', hs'⟩ := T'.up (st _ _ q)
      have := (N' p hp).2.2
      rw [hs'] at this
      cases this
end
end Mine
end

section
open PySem PySem.W PySem.Spec PySem.Calls PyProof.Rows
namespace Mine
section
variable {α : Type} {a : α} {l l' l₁ l₂ : List α}
theorem subN : ∀ p ∈ ([] : List α), p ∈ l' := fun _ h => nomatch h
theorem subC (h : a ∈ l') (r : ∀ p ∈ l, p ∈ l') : ∀ p ∈ a :: l, p ∈ l' := fun p hp => by
  rcases List.mem_cons.mp hp with rfl | hp
  · exact h
  · exact r p hp
theorem subA (h : ∀ p ∈ l₁, p ∈ l') (r : ∀ p ∈ l₂, p ∈ l') : ∀ p ∈ l₁ ++ l₂, p ∈ l' := fun p hp => (List.mem_append.mp hp).elim (h p) (r p)
theorem subT (h : ∀ p ∈ l, p ∈ l') : ∀ p ∈ l, p ∈ a :: l' := fun p hp => .tail _ (h p hp)
theorem subL (h : ∀ p ∈ l, p ∈ l₁) : ∀ p ∈ l, p ∈ l₁ ++ l₂ := fun p hp => List.mem_append_left _ (h p hp)
theorem subR (h : ∀ p ∈ l, p ∈ l₂) : ∀ p ∈ l, p ∈ l₁ ++ l₂ := fun p hp => List.mem_append_right _ (h p hp)
theorem subS : ∀ p ∈ l, p ∈ l := fun _ h => h
end
end Mine
end

section
open PySem PySem.W PyProof.Rows
set_option maxRecDepth 100000
set_option maxHeartbeats 8000000
namespace Mine
/-- the text without the names of its files -/
noncomputable def viewP : Program := { Challenge.pw_un0013_02 with main := { Challenge.pw_un0013_02.main with body := (((Challenge.pw_un0013_02.main.body.eraseIdx 32).eraseIdx 9).eraseIdx 5).eraseIdx 0 } }
/-- the head's look at the top, at once and not in pieces: it is much shorter so -/
local macro_rules | `(tactic| o_head $H) => `(tactic| (
  refine holds_open (q := Mine.viewP) (loose := [Str.ofString "COMPILER_FLAG_NAMES", Str.ofString "_filemode_table"]) (Xt := fun s => xlAt Mine.viewP [] s && recOk (RowW.records (OpenRow.toRowW Challenge.rw_un0013_02.row)) s) (XP := XL Mine.viewP []) (Yf := Hook.obs $H) (Ya := Hook.val $H) (YP := Hook.says $H) (N := 1940) ?hl (Hook.of $H) (Hook.keeps $H) (fun s e => xl_of s (Bool.and_eq_true_iff.mp e).1) XL.keeps (by rfl) (by rfl) (by rfl) (fun s e => recFacts_of (Bool.and_eq_true_iff.mp e).2) (by rfl) (by decide +kernel) (by decide +kernel) ⟨rfl, rfl, rfl, rfl, rfl, by decide +kernel⟩ ?hw ?hc
  case hl =>
    refine LeftO.of_split "special-get-raises" ?_
    intro w
    kernel_rfl
  all_goals (rename_i said; clear said)))
open_top hd for PySem.Challenge.rw_un0013_02
end Mine
end

section
open PySem PySem.W PySem.Spec PySem.Calls PyProof.Rows
set_option maxRecDepth 100000
namespace Mine
abbrev LS : List Str := [Str.ofString "COMPILER_FLAG_NAMES", Str.ofString "_filemode_table"]
/-- a call of a def of the text: from any caller's frame, by the ledger's objects alone -/
noncomputable def Spec (w : World) (f : Addr) (dd : Nat) (led : List (Addr × Obj)) (args : List Value) (R : Value → List (Addr × Obj) → Prop) : Prop :=
  ∀ (mean : ExcName → Option Value) (mg mb : Str → Option Value) (dp un : Nat) (gd : Option (List Code)) (cn : Str) (cs : Scope) (a : Addr) (ccd : Value) (cl : List (Str × Addr)) (outer : List Env) (A₀ : Around) (base h₀ : Heap) (L : Addr) (m : Str → Option Value) (s : Shared) (Q E : Value → Shared → Prop),
    Below A₀ base outer h₀ → Fr h₀ L s.heap m → (hd.heap_39 w.params).In h₀ → News h₀ L s.heap led → Top viewP (looseW viewP LS) mean mg mb h₀ → cs.kind = .function →
    dp + dd < recursionLimit → un + 8 * dd + 100 < cLine →
    (∀ v led' h' tk', Fr h₀ L h' m → News h₀ L h' led' → R v led' → Q v { s with heap := h', toks := tk' }) →
    wpAny (model Challenge.rw_un0013_02.row.prog w) (ktrTop dp un gd cn cs L a ccd cl outer) (call (.ref f) args) Q E s
theorem Spec.use {w : World} {f : Addr} {dd : Nat} {led : List (Addr × Obj)} {args : List Value} {R : Value → List (Addr × Obj) → Prop} (S : Spec w f dd led args R)
    {mean : ExcName → Option Value} {mg mb : Str → Option Value} {dp un : Nat} {gd : Option (List Code)} {cn : Str} {cs : Scope} {a : Addr} {ccd : Value} {cl : List (Str × Addr)} {outer : List Env} {A₀ : Around} {base h₀ : Heap} {L : Addr} {m : Str → Option Value} {s : Shared} {Q E : Value → Shared → Prop}
    (B : Below A₀ base outer h₀) (F : Fr h₀ L s.heap m) (X : (hd.heap_39 w.params).In h₀) (N : News h₀ L s.heap led) (T : Top viewP (looseW viewP LS) mean mg mb h₀) (hk : cs.kind = .function)
    (hd : dp + dd < recursionLimit) (hu : un + 8 * dd + 100 < cLine)
    (hret : ∀ v led' h' tk', Fr h₀ L h' m → News h₀ L h' led' → R v led' → Q v { s with heap := h', toks := tk' }) :
    wpAny (model Challenge.rw_un0013_02.row.prog w) (ktrTop dp un gd cn cs L a ccd cl outer) (call (.ref f) args) Q E s :=
  S mean mg mb dp un gd cn cs a ccd cl outer A₀ base h₀ L m s Q E B F X N T hk hd hu hret
/-- a call from the law's own frame -/
noncomputable def Spec0 (w : World) (f : Addr) (dd : Nat) (led : List (Addr × Obj)) (args : List Value) (R : Value → List (Addr × Obj) → Prop) : Prop :=
  ∀ (mean : ExcName → Option Value) (mg mb : Str → Option Value) (dp un : Nat) (gd : Option (List Code)) (cn : Str) (cs : Scope) (a : Addr) (ccd : Value) (cl : List (Str × Addr)) (A₀ : Around) (h₀ : Heap) (L : Addr) (m : Str → Option Value) (s : Shared) (Q E : Value → Shared → Prop),
    Below A₀ h₀ [] h₀ → Fr h₀ L s.heap m → (hd.heap_39 w.params).In h₀ → News h₀ L s.heap led → Top viewP (looseW viewP LS) mean mg mb h₀ → cs.kind = .function →
    dp + dd < recursionLimit → un + 8 * dd + 100 < cLine →
    (∀ v led' h' tk', Fr h₀ L h' m → News h₀ L h' led' → R v led' → Q v { s with heap := h', toks := tk' }) →
    wpAny (model Challenge.rw_un0013_02.row.prog w) (ktrTop dp un gd cn cs L a ccd cl []) (call (.ref f) args) Q E s
end Mine
end

section
open PySem PySem.W PySem.Spec PySem.Calls PyProof.Rows
set_option maxRecDepth 100000
set_option maxHeartbeats 8000000
namespace Mine
local macro_rules | `(tactic| walk_at "exec While Compare cons nil") => `(tactic| (refine Mine.Held.mk ?_))
theorem begin_L2A : True := by
  w_top off
  exact True.intro

theorem fdiv_half {p : Nat} (h : 1 ≤ p) : ((p : Int) - 1).fdiv (2 ^ Int.toNat 1) = (((p - 1) / 2 : Nat) : Int) := by
  have e : ((p : Int) - 1) = ((p - 1 : Nat) : Int) := by omega
  rw [e]
  show Int.fdiv ((p - 1 : Nat) : Int) 2 = _
  rw [Int.fdiv_eq_ediv_of_nonneg _ (by decide)]
  rfl

theorem siftdown_c (w : World) (tl rest : List (Addr × Obj)) (l : Addr) (vs : List Value) (ps : List (Int × Int)) (n : Nat) (sp pos : Nat) (t1 t2 : Tok)
    (hap : ∀ p ∈ rest, p.1 ≠ l) (hsub : ∀ p ∈ tl, p ∈ rest) (hP : Prs tl vs ps) (hH : HoleUp sp ps pos (G ps pos)) (hsz : ps.length ≤ 64) :
    Spec w 35 1 ((l, listOf vs.toArray n) :: rest) [.ref l, .int (sp : Int) t1, .int (pos : Int) t2]
      (fun v led' => v = .none ∧ ∃ vs' ps', led' = (l, listOf vs'.toArray n) :: rest ∧ Prs tl vs' ps' ∧ HeapFrom sp ps' ∧ ps'.Perm ps) := by
  unfold Spec
  k_fill
  intro mean mg mb dp un gd cn cs a ccd cl outer A₀ base h₀ L m s Q E B F X N T hk hd hu hret
  refine wpAny_call ?_
  k_dflt cell_enter
  k_steps
  have hlt := hH.lt
  have hvl := hP.length
  obtain ⟨a0, ti, tj, n0, hv, hm⟩ := hP.get hlt
  rename News _ _ _ _ => N1
  refine item_cell (N1 _ (.head _)).1 (by omega) (by omega) (by simpa using hv) ?_
  k_steps
  refine Held.out ?_
  rename News _ _ _ _ => N2
  rename Fr _ _ _ _ => F2
  refine whileL (σ := List Value × List (Int × Int) × Nat × Tok)
    (fun c => (l, listOf c.1.toArray n) :: rest)
    (fun c => [(Str.ofString "heap", .ref l), (Str.ofString "startpos", .int (sp : Int) t1), (Str.ofString "newitem", .ref a0), (Str.ofString "pos", Value.int (c.2.2.1 : Int) c.2.2.2)])
    (fun c => Prs tl c.1 c.2.1 ∧ HoleUp sp c.2.1 c.2.2.1 (G ps pos) ∧ (c.2.1.set c.2.2.1 (G ps pos)).Perm ps ∧ c.2.1.length = ps.length)
    (fun c => Prs tl c.1 c.2.1 ∧ c.2.2.1 < c.2.1.length ∧ HeapFrom sp (c.2.1.set c.2.2.1 (G ps pos)) ∧ (c.2.1.set c.2.2.1 (G ps pos)).Perm ps ∧ c.2.1.length = ps.length)
    (fun c => c.2.2.1) (vs, ps, pos, t2) F2 N2 ⟨hP, hH, ?_, rfl⟩ ?_ ?_ ?_
  · have e : ps.set pos (G ps pos) = ps := set_self hlt
    simp only [e]
    exact List.Perm.refl _
  · kst_all
  · rintro ⟨vs', ps', pos', tk'⟩ u h tk ⟨hP', hH', hperm, hlen⟩ F3 N3
    dsimp only [fmap] at F3 N3 hP' hH' hperm hlen ⊢
    generalize hP1 : TEnd _ _ _ _ _ _ _ _ = P1
    revert P1
    refine Held.mk (Held.out ?_)
    intro P1 hP1
    have hvl' := hP'.length
    have hlt' := hH'.lt
    k_steps
    · rename (sp : Int) < (pos' : Int) => hgt
      rename News _ _ _ _ => N4
      rw [fdiv_half (by omega)] at *
      obtain ⟨a1, ti1, tj1, n1, hv1, hm1⟩ := hP'.get (k := (pos' - 1) / 2) (by omega)
      refine item_cell (N4 _ (.head _)).1 (by omega) (by omega) (by rw [Int.toNat_natCast]; exact hv1) ?_
      k_steps
      rename News _ _ _ _ => N5
      refine lt_tup (by ktr_units) (N5 _ (.tail _ (hsub _ hm))).1 (N5 _ (.tail _ (hsub _ hm1))).1 ?_
      rw [show ∀ a b : Int × Int, plt (a.1, a.2) (b.1, b.2) = plt a b from fun _ _ => rfl]
      k_steps
      · rename plt _ _ = true => hlt1
        rename Fr _ _ _ _ => F6
        refine set_cell F6 N5 (.head hap) (by omega) (by omega) (by omega) fun h1 F7 N7 => ?_
        k_steps
        rw [← hP1]
        dsimp only [TEnd]
        rename Fr _ _ _ _ => F8
        rename News _ _ _ _ => N8
        rw [Int.toNat_natCast] at N8
        have hq : (pos' - 1) / 2 < pos' := by omega
        have hpm : ((ps'.set pos' (G ps' ((pos' - 1) / 2))).set ((pos' - 1) / 2) (G ps pos)).Perm ps := (perm_swap_set (by omega) (by omega) (by omega)).trans hperm
        have hln : (ps'.set pos' (G ps' ((pos' - 1) / 2))).length = ps.length := by rw [List.length_set]; exact hlen
        have hup := hH'.up (by omega) rfl hlt1
        refine' LEnd.intro (vs'.set pos' (.ref a1), ps'.set pos' (G ps' ((pos' - 1) / 2)), (pos' - 1) / 2, _) F8 N8 ?h1 ?h2 ?h3
        case h3 => kst_all
        case h1 => exact ⟨⟨hP'.set hm1 pos', hup, hpm, hln⟩, hq⟩
        case h2 => exact fun _ h => h
      · rename plt _ _ = false => hlt1
        rw [← hP1]
        dsimp only [TEnd]
        rename Fr _ _ _ _ => F6
        exact LEnd.intro (vs', ps', pos', tk') F6 N5 ⟨hP', hlt', hH'.fin (.inr hlt1), hperm, hlen⟩ (fun _ h => h) (by kst_all)
    · rename ¬ (sp : Int) < (pos' : Int) => hle
      refine LEnd.intro (vs', ps', pos', tk') F3 N3 ⟨hP', hlt', hH'.fin (.inl ?_), hperm, hlen⟩ (fun _ h => h) ?_
      · have := hH'.desc.le
        omega
      · kst_all
  · rintro ⟨vs', ps', pos', tk'⟩ u h tk ⟨hP', hlt', hheap, hperm, hlen⟩ F3 N3
    dsimp only [fmap] at F3 N3 hP' hlt' hheap hperm hlen ⊢
    have hvl' := hP'.length
    k_steps
    refine set_cell F3 N3 (.head hap) (by omega) (by omega) (by omega) fun h1 F4 N4 => ?_
    k_steps
    refine hret _ _ _ _ (by assumption) (by assumption) ⟨rfl, _, ps'.set pos' (G ps pos), rfl, ?_, hheap, hperm⟩
    rw [Int.toNat_natCast]
    exact hP'.set hm pos'
end Mine
end

section
open PySem PySem.W PySem.Spec PySem.Calls PyProof.Rows
set_option maxRecDepth 100000
set_option maxHeartbeats 8000000
namespace Mine
local macro_rules | `(tactic| walk_at "exec While Compare cons nil") => `(tactic| (refine Mine.Held.mk ?_))
local macro_rules | `(tactic| walk_at "call builtin:len") => `(tactic| (refine Mine.Held.mk ?_))
local macro_rules | `(tactic| walk_at "call ref") => `(tactic| (refine Mine.Held.mk ?_))
theorem begin_L2B : True := by
  w_top off
  exact True.intro

theorem siftup_c (w : World) (tl rest : List (Addr × Obj)) (l : Addr) (vs : List Value) (ps : List (Int × Int)) (n : Nat) (st : Nat) (t1 : Tok)
    (hap : ∀ p ∈ rest, p.1 ≠ l) (hsub : ∀ p ∈ tl, p ∈ rest) (hP : Prs tl vs ps) (hlt : st < ps.length) (hH : HeapFrom (st + 1) ps) (hsz : ps.length ≤ 64) :
    Spec w 42 2 ((l, listOf vs.toArray n) :: rest) [.ref l, .int (st : Int) t1]
      (fun v led' => v = .none ∧ ∃ vs' ps', led' = (l, listOf vs'.toArray n) :: rest ∧ Prs tl vs' ps' ∧ HeapFrom st ps' ∧ ps'.Perm ps) := by
  unfold Spec
  k_fill
  intro mean mg mb dp un gd cn cs a ccd cl outer A₀ base h₀ L m s Q E B F X N T hk hd hu hret
  refine wpAny_call ?_
  k_dflt cell_enter
  have hvl := hP.length
  k_steps
  rename News _ _ _ _ => N1
  refine Held.out (len_cell (N1 _ (.head _)).1 (by omega) ?_)
  k_steps
  rename News _ _ _ _ => N2
  obtain ⟨a0, ti, tj, n0, hv, hm⟩ := hP.get hlt
  refine item_cell (N2 _ (.head _)).1 (by omega) (by omega) (by rw [Int.toNat_natCast]; exact hv) ?_
  k_steps
  refine Held.out ?_
  rename News _ _ _ _ => N3
  rename Fr _ _ _ _ => F3
  refine' whileL (σ := List Value × List (Int × Int) × Nat × Tok × Tok)
    (fun c => (l, listOf c.1.toArray n) :: rest)
    (fun c => [(Str.ofString "heap", .ref l), (Str.ofString "endpos", .int (vs.length : Int) ?te), (Str.ofString "startpos", .int (st : Int) ?ts), (Str.ofString "newitem", .ref a0), (Str.ofString "pos", Value.int (c.2.2.1 : Int) c.2.2.2.1), (Str.ofString "childpos", Value.int (2 * (c.2.2.1 : Int) + 1) c.2.2.2.2)])
    (fun c => Prs tl c.1 c.2.1 ∧ HoleDn st c.2.1 c.2.2.1 ∧ (c.2.1.set c.2.2.1 (G ps st)).Perm ps ∧ c.2.1.length = ps.length)
    (fun c => Prs tl c.1 c.2.1 ∧ HoleDn st c.2.1 c.2.2.1 ∧ (c.2.1.set c.2.2.1 (G ps st)).Perm ps ∧ c.2.1.length = ps.length ∧ ps.length ≤ 2 * c.2.2.1 + 1)
    (fun c => ps.length - c.2.2.1) (vs, ps, st, t1, _) F3 N3 ⟨hP, ⟨.refl, hlt, hH, fun h => absurd rfl h⟩, ?_, rfl⟩ ?hk ?turn ?dn
  case hk => kst_all
  · have e : ps.set st (G ps st) = ps := set_self hlt
    simp only [e]
    exact List.Perm.refl _
  case turn =>
    rintro ⟨vs', ps', pos', tk1, tk2⟩ u h tk ⟨hP', hH', hperm, hlen⟩ F3 N3
    dsimp only [fmap] at F3 N3 hP' hH' hperm hlen ⊢
    generalize hP1 : TEnd _ _ _ _ _ _ _ _ = P1
    revert P1
    refine Held.mk (Held.out ?_)
    intro P1 hP1
    have hvl' := hP'.length
    have hlt' := hH'.lt
    k_steps
    · rename (_ : Int) < _ => hge
      rename (_ : Int) < _ => hge2
      rename News _ _ _ _ => N4
      have e1 : 2 * (pos' : Int) + 1 = ((2 * pos' + 1 : Nat) : Int) := by omega
      have e2 : 2 * (pos' : Int) + 1 + 1 = ((2 * pos' + 2 : Nat) : Int) := by omega
      obtain ⟨b1, ti1, tj1, n1, hv1, hm1⟩ := hP'.get (k := 2 * pos' + 1) (by omega)
      refine item_cell (N4 _ (.head _)).1 (by omega) (by omega) (by rw [e1, Int.toNat_natCast]; exact hv1) ?_
      k_steps
      obtain ⟨b2, ti3, tj3, n3, hv3, hm3⟩ := hP'.get (k := 2 * pos' + 2) (by omega)
      refine item_cell (N4 _ (.head _)).1 (by omega) (by omega) (by rw [e2, Int.toNat_natCast]; exact hv3) ?_
      k_steps
      refine lt_tup (by ktr_units) (N4 _ (.tail _ (hsub _ hm1))).1 (N4 _ (.tail _ (hsub _ hm3))).1 ?_
      rw [show ∀ a b : Int × Int, plt (a.1, a.2) (b.1, b.2) = plt a b from fun _ _ => rfl]
      k_steps
      · rename plt _ _ = true => hpl
        have hc : Ch pos' (2 * pos' + 1) := .inl rfl
        have ec : 2 * (pos' : Int) + 1 = ((2 * pos' + 1 : Nat) : Int) := by omega
        have hcl : 2 * pos' + 1 < ps'.length := by omega
        have hmin : ∀ j, Ch pos' j → j < ps'.length → plt (G ps' j) (G ps' (2 * pos' + 1)) = false := fun j hj hjl => by unfold Ch at hj; rcases hj with e | e <;> first | (rw [e]; exact plt_irr _) | (rw [e]; exact plt_asymm hpl)
        rename News _ _ _ _ => N5
        obtain ⟨a2, ti2, tj2, n2, hv2, hm2⟩ := hP'.get hcl
        refine item_cell (N5 _ (.head _)).1 (by omega) (by omega) (by rw [ec, Int.toNat_natCast]; exact hv2) ?_
        k_steps
        rename Fr _ _ _ _ => F6
        refine set_cell F6 N5 (.head hap) (by omega) (by omega) (by omega) fun h1 F7 N7 => ?_
        k_steps
        rw [← hP1]
        dsimp only [TEnd]
        rename Fr _ _ _ _ => F8
        rename News _ _ _ _ => N8
        rw [Int.toNat_natCast] at N8
        rw [ec] at F8
        have hq : ps.length - (2 * pos' + 1) < ps.length - pos' := by unfold Ch at hc; omega
        have hpm : ((ps'.set pos' (G ps' (2 * pos' + 1))).set (2 * pos' + 1) (G ps st)).Perm ps := (perm_swap_set (by omega) (by omega) (by omega)).trans hperm
        have hln : (ps'.set pos' (G ps' (2 * pos' + 1))).length = ps.length := by rw [List.length_set]; exact hlen
        have hdn := hH'.down hc hcl hmin
        refine' LEnd.intro (vs'.set pos' (.ref a2), ps'.set pos' (G ps' (2 * pos' + 1)), 2 * pos' + 1, _, _) F8 N8 ?h1 ?h2 ?h3
        case h3 => kst_all
        case h1 => exact ⟨⟨hP'.set hm2 pos', hdn, hpm, hln⟩, hq⟩
        case h2 => exact fun _ h => h

      · rename plt _ _ = false => hpl
        have hc : Ch pos' (2 * pos' + 2) := .inr rfl
        have ec : 2 * (pos' : Int) + 1 + 1 = ((2 * pos' + 2 : Nat) : Int) := by omega
        have hcl : 2 * pos' + 2 < ps'.length := by omega
        have hmin : ∀ j, Ch pos' j → j < ps'.length → plt (G ps' j) (G ps' (2 * pos' + 2)) = false := fun j hj hjl => by unfold Ch at hj; rcases hj with e | e <;> first | (rw [e]; exact plt_irr _) | (rw [e]; exact hpl)
        rename News _ _ _ _ => N5
        obtain ⟨a2, ti2, tj2, n2, hv2, hm2⟩ := hP'.get hcl
        refine item_cell (N5 _ (.head _)).1 (by omega) (by omega) (by rw [ec, Int.toNat_natCast]; exact hv2) ?_
        k_steps
        rename Fr _ _ _ _ => F6
        refine set_cell F6 N5 (.head hap) (by omega) (by omega) (by omega) fun h1 F7 N7 => ?_
        k_steps
        rw [← hP1]
        dsimp only [TEnd]
        rename Fr _ _ _ _ => F8
        rename News _ _ _ _ => N8
        rw [Int.toNat_natCast] at N8
        rw [ec] at F8
        have hq : ps.length - (2 * pos' + 2) < ps.length - pos' := by unfold Ch at hc; omega
        have hpm : ((ps'.set pos' (G ps' (2 * pos' + 2))).set (2 * pos' + 2) (G ps st)).Perm ps := (perm_swap_set (by omega) (by omega) (by omega)).trans hperm
        have hln : (ps'.set pos' (G ps' (2 * pos' + 2))).length = ps.length := by rw [List.length_set]; exact hlen
        have hdn := hH'.down hc hcl hmin
        refine' LEnd.intro (vs'.set pos' (.ref a2), ps'.set pos' (G ps' (2 * pos' + 2)), 2 * pos' + 2, _, _) F8 N8 ?h1 ?h2 ?h3
        case h3 => kst_all
        case h1 => exact ⟨⟨hP'.set hm2 pos', hdn, hpm, hln⟩, hq⟩
        case h2 => exact fun _ h => h

    · rename ¬ (_ : Int) < _ => hge
      have hc : Ch pos' (2 * pos' + 1) := .inl rfl
      have ec : 2 * (pos' : Int) + 1 = ((2 * pos' + 1 : Nat) : Int) := by omega
      have hcl : 2 * pos' + 1 < ps'.length := by omega
      have hmin : ∀ j, Ch pos' j → j < ps'.length → plt (G ps' j) (G ps' (2 * pos' + 1)) = false := fun j hj hjl => by unfold Ch at hj; rcases hj with e | e <;> first | (rw [e]; exact plt_irr _) | (exfalso; omega)
      rename News _ _ _ _ => N5
      obtain ⟨a2, ti2, tj2, n2, hv2, hm2⟩ := hP'.get hcl
      refine item_cell (N5 _ (.head _)).1 (by omega) (by omega) (by rw [ec, Int.toNat_natCast]; exact hv2) ?_
      k_steps
      rename Fr _ _ _ _ => F6
      refine set_cell F6 N5 (.head hap) (by omega) (by omega) (by omega) fun h1 F7 N7 => ?_
      k_steps
      rw [← hP1]
      dsimp only [TEnd]
      rename Fr _ _ _ _ => F8
      rename News _ _ _ _ => N8
      rw [Int.toNat_natCast] at N8
      rw [ec] at F8
      have hq : ps.length - (2 * pos' + 1) < ps.length - pos' := by unfold Ch at hc; omega
      have hpm : ((ps'.set pos' (G ps' (2 * pos' + 1))).set (2 * pos' + 1) (G ps st)).Perm ps := (perm_swap_set (by omega) (by omega) (by omega)).trans hperm
      have hln : (ps'.set pos' (G ps' (2 * pos' + 1))).length = ps.length := by rw [List.length_set]; exact hlen
      have hdn := hH'.down hc hcl hmin
      refine' LEnd.intro (vs'.set pos' (.ref a2), ps'.set pos' (G ps' (2 * pos' + 1)), 2 * pos' + 1, _, _) F8 N8 ?h1 ?h2 ?h3
      case h3 => kst_all
      case h1 => exact ⟨⟨hP'.set hm2 pos', hdn, hpm, hln⟩, hq⟩
      case h2 => exact fun _ h => h

    · rename ¬ (_ : Int) < _ => hge
      rename Fr _ _ _ _ => F9
      rename News _ _ _ _ => N9
      have hz : ps.length ≤ 2 * pos' + 1 := by omega
      refine' LEnd.intro (vs', ps', pos', tk1, tk2) F9 N9 ?h1 ?h2 ?h3
      case h3 => kst_all
      case h1 => exact ⟨hP', hH', hperm, hlen, hz⟩
      case h2 => exact fun _ h => h
  case dn =>
    rintro ⟨vs', ps', pos', tk1, tk2⟩ u h tk ⟨hP', hH', hperm, hlen, hleaf⟩ F3 N3
    dsimp only [fmap] at F3 N3 hP' hH' hperm hlen hleaf ⊢
    have hvl' := hP'.length
    have hlt' := hH'.lt
    k_steps
    refine set_cell F3 N3 (.head hap) (by omega) (by omega) (by omega) fun h1 F4 N4 => ?_
    k_steps
    rename Fr _ _ _ _ => F5
    rw [Int.toNat_natCast] at N4
    refine Held.out ?_
    have hx : G (ps'.set pos' (G ps st)) pos' = G ps st := by rw [G_set hlt', if_pos rfl]
    refine Spec.use (siftdown_c w tl rest l (vs'.set pos' (.ref a0)) (ps'.set pos' (G ps st)) n st pos' _ _ hap hsub (hP'.set hm pos') (by rw [hx]; exact hH'.leaf (by omega)) (by rw [List.length_set]; omega)) (by assumption) F5 (by assumption) N4 (by assumption) rfl (by ktr_room) (by ktr_units) ?_
    rintro v led' h' tk' F9 N9 ⟨rfl, vs2, ps2, rfl, hP2, hH2, hperm2⟩
    k_steps
    exact hret _ _ _ _ (by assumption) (by assumption) ⟨rfl, vs2, ps2, rfl, hP2, hH2, hperm2.trans hperm⟩
end Mine
end

section
open PySem PySem.W PySem.Spec PySem.Calls PyProof.Rows
set_option maxRecDepth 100000
set_option maxHeartbeats 8000000
namespace Mine
local macro_rules | `(tactic| walk_at "exec For Name Call cons nil") => `(tactic| (k_dflt (refine Mine.for_held ?_ (by intro _; rfl))))
local macro_rules | `(tactic| walk_at "call builtin:len") => `(tactic| (refine Mine.Held.mk ?_))
local macro_rules | `(tactic| walk_at "call ref") => `(tactic| (refine Mine.Held.mk ?_))
local macro_rules | `(tactic| walk_at "call type:reversed") => `(tactic| (refine Mine.Held.mk ?_))
theorem begin_L2C : True := by
  w_top off
  exact True.intro

theorem heapify_c (w : World) (tl rest : List (Addr × Obj)) (l : Addr) (vs : List Value) (ps : List (Int × Int)) (n : Nat)
    (hap : ∀ p ∈ rest, p.1 ≠ l) (hsub : ∀ p ∈ tl, p ∈ rest) (hP : Prs tl vs ps) (hsz : ps.length ≤ 64) :
    Spec w 28 3 ((l, listOf vs.toArray n) :: rest) [.ref l]
      (fun v led' => v = .none ∧ ∃ vs' ps', led' = (l, listOf vs'.toArray n) :: rest ∧ Prs tl vs' ps' ∧ HeapFrom 0 ps' ∧ ps'.Perm ps) := by
  unfold Spec
  k_fill
  intro mean mg mb dp un gd cn cs a ccd cl outer A₀ base h₀ L m s Q E B F X N T hk hd hu hret
  refine wpAny_call ?_
  k_dflt cell_enter
  have hvl := hP.length
  k_steps
  rename News _ _ _ _ => N1
  refine Held.out (len_cell (N1 _ (.head _)).1 (by omega) ?_)
  k_steps
  rename News _ _ _ _ => N2
  rename Fr _ _ _ _ => F2
  rename IsRange _ _ _ _ _ _ _ _ => R2
  have hb : (vs.length : Int).fdiv 2 = ((vs.length / 2 : Nat) : Int) := by rw [Int.fdiv_eq_ediv_of_nonneg _ (by decide)]; rfl
  refine Held.out ?_
  refine' reversed_N (k := vs.length / 2) F2 N2 R2 ?hr1 ?hr2 ?hr3 fun I h3 F3 N3 hI => ?_
  case hr1 => rw [rangeSize_nat, hb]; omega
  case hr2 => rw [hb]; omega
  case hr3 => rw [hb]; omega
  dsimp only
  refine Held.out ?_
  refine for_down (n := vs.length / 2) (σ := List Value × List (Int × Int))
    (fun c => (l, listOf c.1.toArray n) :: rest)
    (fun c => [(Str.ofString "x", .ref l)])
    (fun i c => Prs tl c.1 c.2 ∧ c.2.Perm ps ∧ HeapFrom (vs.length / 2 - i) c.2)
    (fun c => Prs tl c.1 c.2 ∧ c.2.Perm ps ∧ HeapFrom 0 c.2) (vs, ps) rfl (N3 _ (.head _)).1 (N3 _ (.head _)).2.2 (N3 _ (.head _)).2.1 (fun p hp => Nat.ne_of_lt (hI p hp)) F3 (fun p hp => N3 p (.tail _ hp)) ⟨hP, List.Perm.refl _, ?_⟩ (by kst_all) ?turn ?els ?done rfl rfl (by with_unfolding_all passes_own)
  · intro i j hi hij hj
    exfalso
    dsimp only at hi hj
    rcases hij with e | e <;> omega
  case turn =>
    rintro i t ⟨vs', ps'⟩ u h tk oI hin ⟨hP', hpm, hH⟩ hne F4 N4
    dsimp only [fmap] at F4 N4 hP' hpm hH hne ⊢
    generalize hP1 : FTEnd _ _ _ _ _ _ _ _ _ = P1
    revert P1
    refine Held.mk (Held.out ?_)
    intro P1 hP1
    have hlen := hpm.length_eq
    have hvl' := hP'.length
    k_steps
    refine Held.out ?_
    have hap' : ∀ p ∈ rest ++ [(I, oI)], p.1 ≠ l := fun p hp => (List.mem_append.mp hp).elim (hap p) fun hp => by
      rw [List.mem_singleton.mp hp]
      exact (hne _ (.head _)).symm
    refine Spec.use (siftup_c w tl (rest ++ [(I, oI)]) l vs' ps' n (vs.length / 2 - 1 - i) _ hap' (fun p hp => List.mem_append.mpr (.inl (hsub p hp))) hP' (by omega) (by rw [show vs.length / 2 - 1 - i + 1 = vs.length / 2 - i by omega]; exact hH) (by omega)) (by assumption) F4 (by assumption) N4 (by assumption) rfl (by ktr_room) (by ktr_units) ?_
    rintro v led' h' tk' F9 N9 ⟨rfl, vs2, ps2, rfl, hP2, hH2, hpm2⟩
    k_steps
    rw [← hP1]
    dsimp only [FTEnd]
    refine FEnd.intro (vs2, ps2) F9 N9 ⟨hP2, hpm2.trans hpm, ?_⟩ (by simp) (fun p hp => ?_) ?_ (by kst_all)
    · rw [show vs.length / 2 - (i + 1) = vs.length / 2 - 1 - i by omega]
      exact hH2
    · rcases List.mem_cons.mp hp with rfl | hp
      · exact .head _
      · exact .tail _ (List.mem_append.mpr (.inl hp))
    · intro p hp
      rcases List.mem_cons.mp hp with rfl | hp
      · exact hne (l, listOf vs'.toArray n) (.head _)
      · exact hne _ (.tail _ hp)
  case els =>
    rintro ⟨vs', ps'⟩ u h tk ⟨hP', hpm, hH⟩ F4 N4
    exact els_nil ⟨hP', hpm, by rw [Nat.sub_self] at hH; exact hH⟩ F4 N4 (by kst_all)
  case done =>
    rintro ⟨vs', ps'⟩ u h tk ⟨hP', hpm, hH⟩ F4 N4
    dsimp only [fmap] at F4 N4 hP' hpm hH ⊢
    k_steps
    exact hret _ _ _ _ (by assumption) (by assumption) ⟨rfl, vs', ps', rfl, hP', hH, hpm⟩
end Mine
end

section
open PySem PySem.W PySem.Spec PySem.Calls PyProof.Rows
set_option maxRecDepth 100000
set_option maxHeartbeats 8000000
namespace Mine
local macro_rules | `(tactic| walk_at "call ref") => `(tactic| (refine Mine.Held.mk ?_))
local macro_rules | `(tactic| walk_at "call builtin:list.pop") => `(tactic| (refine Mine.Held.mk ?_))
local macro_rules | `(tactic| walk_at "truthy ref") => `(tactic| (refine Mine.Held.mk ?_))
theorem begin_L2D : True := by
  w_top off
  exact True.intro

theorem Prs.snoc {led : List (Addr × Obj)} : ∀ {vs ps}, Prs led vs ps → ps ≠ [] → ∃ vs0 ps0 a i j ti tj n, vs = vs0 ++ [Value.ref a] ∧ ps = ps0 ++ [(i, j)] ∧ Prs led vs0 ps0 ∧ (a, tup2 i j ti tj n) ∈ led
  | _, _, .nil, h => absurd rfl h
  | _, _, .cons (ps := []) hm hr, _ => by
    cases hr
    exact ⟨[], [], _, _, _, _, _, _, rfl, rfl, .nil, hm⟩
  | _, _, .cons (ps := q :: r) hm hr, _ => by
    obtain ⟨vs0, ps0, a, i, j, ti, tj, n, e1, e2, h3, h4⟩ := hr.snoc (by simp)
    exact ⟨_ :: vs0, _ :: ps0, a, i, j, ti, tj, n, by rw [e1]; rfl, by rw [e2]; rfl, .cons hm h3, h4⟩

theorem heap_cut {ps0 : List (Int × Int)} {x : Int × Int} (hH : HeapFrom 0 (ps0 ++ [x])) (hne : 0 < ps0.length) : HeapFrom 1 (ps0.set 0 x) := by
  intro i j hi hij hj
  rw [List.length_set] at hj
  have hjl : i < j := by rcases hij with e | e <;> omega
  rw [G_set hne, G_set hne, if_neg (by omega), if_neg (by omega)]
  have := hH i j (Nat.zero_le _) hij (by rw [List.length_append]; omega)
  rw [G_append_left hj, G_append_left (by omega)] at this
  exact this
theorem perm_cut {ps0 : List (Int × Int)} {x : Int × Int} (hne : 0 < ps0.length) : (G (ps0 ++ [x]) 0 :: ps0.set 0 x).Perm (ps0 ++ [x]) := by
  cases ps0 with
  | nil => exact absurd hne (Nat.lt_irrefl _)
  | cons a r =>
    show (a :: x :: r).Perm (a :: (r ++ [x]))
    exact List.Perm.cons _ (List.perm_append_singleton x r).symm

theorem heappop_c (w : World) (tl rest : List (Addr × Obj)) (l : Addr) (vs : List Value) (ps : List (Int × Int)) (n : Nat)
    (hap : ∀ p ∈ rest, p.1 ≠ l) (hsub : ∀ p ∈ tl, p ∈ rest) (hP : Prs tl vs ps) (hH : HeapFrom 0 ps) (hne : ps ≠ []) (hsz : ps.length ≤ 64) :
    Spec w 21 3 ((l, listOf vs.toArray n) :: rest) [.ref l]
      (fun v led' => ∃ a ti tj k, v = .ref a ∧ (a, tup2 (G ps 0).1 (G ps 0).2 ti tj k) ∈ tl ∧ ∃ vs' ps' n', led' = (l, listOf vs'.toArray n') :: rest ∧ Prs tl vs' ps' ∧ HeapFrom 0 ps' ∧ (G ps 0 :: ps').Perm ps) := by
  unfold Spec
  k_fill
  intro mean mg mb dp un gd cn cs a ccd cl outer A₀ base h₀ L m s Q E B F X N T hk hd hu hret
  refine wpAny_call ?_
  k_dflt cell_enter
  obtain ⟨vs0, ps0, a1, i1, j1, ti1, tj1, n1, rfl, rfl, hP0, hm1⟩ := hP.snoc hne
  have hvl := hP0.length
  simp only [List.length_append, List.length_singleton] at hsz
  k_steps
  refine Held.out ?_
  rename Fr _ _ _ _ => F1
  rename News _ _ _ _ => N1
  refine kl_pop F1 N1 (p := vs0) (y := .ref a1) (by simpa using kpa_last _ vs0) (.head hap) (by rw [PySem.sizeLine_eq]; simp; omega) fun h2 F2 N2 => ?_
  k_steps
  refine Held.out ?_
  rename News _ _ _ _ => N3
  refine wpAny_truthy_list (PySem.IsL.isList (n := n + 1) (N3 _ (.head _)).1) (by simp; omega) ?_
  cases vs0 with
  | nil =>
    have e0 : ps0 = [] := List.eq_nil_of_length_eq_zero hvl.symm
    subst e0
    simp only [List.isEmpty_toArray, List.isEmpty_nil, Bool.not_true]
    k_steps
    exact hret _ _ _ _ (by assumption) (by assumption) ⟨a1, ti1, tj1, n1, rfl, hm1, [], [], n + 1, rfl, .nil, fun i j _ _ h => absurd h (Nat.not_lt_zero _), List.Perm.refl _⟩
  | cons v1 vr =>
    simp only [List.isEmpty_toArray, List.isEmpty_cons, Bool.not_false]
    have hpos : 0 < ps0.length := by rw [← hvl]; exact Nat.succ_pos _
    obtain ⟨a0, ti0, tj0, n0, hv0, hm0⟩ := hP0.get hpos
    have ev : v1 = .ref a0 := Option.some.inj hv0
    subst ev
    k_steps
    rename Fr _ _ _ _ => F4
    rename News _ _ _ _ => N4
    refine set_cell F4 N4 (.head hap) (by decide) (by simp) (by decide) fun h5 F5 N5 => ?_
    k_steps
    refine Held.out ?_
    have hp1 : Prs tl (.ref a1 :: vr) (ps0.set 0 (i1, j1)) := hP0.set hm1 0
    refine Spec.use (siftup_c w tl rest l (.ref a1 :: vr) (ps0.set 0 (i1, j1)) (n + 1) 0 _ hap hsub hp1 (by rw [List.length_set]; exact hpos) (heap_cut hH hpos) (by rw [List.length_set]; omega)) (by assumption) F5 (by assumption) N5 (by assumption) rfl (by ktr_room) (by ktr_units) ?_
    rintro v led' h' tk' F9 N9 ⟨rfl, vs2, ps2, rfl, hP2, hH2, hpm2⟩
    k_steps
    have eg : G (ps0 ++ [(i1, j1)]) 0 = G ps0 0 := G_append_left hpos
    refine hret _ _ _ _ (by assumption) (by assumption) ⟨a0, ti0, tj0, n0, rfl, by rw [eg]; exact hm0, vs2, ps2, n + 1, rfl, hP2, hH2, ?_⟩
    exact (hpm2.cons _).trans (perm_cut hpos)
end Mine
end

section
open PySem PySem.W PySem.Spec PySem.Calls PyProof.Rows
set_option maxRecDepth 100000
set_option maxHeartbeats 8000000
namespace Mine
local macro_rules | `(tactic| walk_at "exec While BinOp cons nil") => `(tactic| (refine Mine.Held.mk ?_))
local macro_rules | `(tactic| walk_at "call builtin:next") => `(tactic| (refine Mine.Held.mk ?_))
theorem begin_L2E : True := by
  w_top off
  exact True.intro

theorem parse_c (w : World) (rest : List (Addr × Obj)) (l it : Addr) (vs : List Value) (os : List Int) (n i k : Nat)
    (hap : ∀ p ∈ rest, p.1 ≠ it) (hl : (l, listOf vs.toArray n) ∈ rest) (hi : IntsAre vs os) (hk : 1 ≤ k) (hk3 : k ≤ 3) (hin : i + k ≤ os.length)
    (hmore : ∀ j, j + 1 < k → Builtin.bitAnd (os.getD (i + j) 0) 64 ≠ 0) (hlast : Builtin.bitAnd (os.getD (i + (k - 1)) 0) 64 = 0) :
    Spec w 57 1 ((it, lit (.ref l) i) :: rest) [.ref it]
      (fun v led' => (∃ t, v = .int (pv os i k) t) ∧ led' = (it, lit (.ref l) (i + k)) :: rest) := by
  unfold Spec
  k_fill
  intro mean mg mb dp un gd cn cs a ccd cl outer A₀ base h₀ L m s Q E B F X N T hk' hd hu hret
  refine wpAny_call ?_
  k_dflt cell_enter
  have hget : ∀ j, j < os.length → ∃ t, vs[j]? = some (.int (os.getD j 0) t) := fun j hj => hi.get j _ (by simp [List.getD_eq_getElem?_getD, hj])
  k_steps
  refine Held.out ?_
  rename Fr _ _ _ _ => F1
  rename News _ _ _ _ => N1
  obtain ⟨t0, hv0⟩ := hget i (by omega)
  refine next_N F1 N1 (.head hap) (N1 _ (.tail _ hl)).1 hv0 fun h2 F2 N2 => ?_
  k_steps
  refine Held.out ?_
  rename Fr _ _ _ _ => F3
  rename News _ _ _ _ => N3
  rw [bitAnd_m6] at F3
  refine' whileL (σ := Nat × Tok × Tok)
    (fun c => (it, lit (.ref l) (i + (c.1 + 1))) :: rest)
    (fun c => [(Str.ofString "iterator", .ref it), (Str.ofString "b", .int (os.getD (i + c.1) 0) c.2.1), (Str.ofString "val", .int (pv os i (c.1 + 1)) c.2.2)])
    (fun c => c.1 + 1 ≤ k) (fun c => c.1 + 1 = k) (fun c => k - c.1) (0, _, _) F3 N3 ?hi ?hk ?turn ?dn
  case hk => kst_all
  case hi => exact hk
  case turn =>
    rintro ⟨j, t1, t2⟩ u h tk hj F4 N4
    dsimp only [fmap] at F4 N4 hj ⊢
    generalize hP1 : TEnd _ _ _ _ _ _ _ _ = P1
    revert P1
    refine Held.mk (Held.out ?_)
    intro P1 hP1
    have hpv := pv_lt os i
    have hpn := pv_nonneg os i (j + 1)
    have hpb : (pv os i (j + 1)).natAbs < 2 ^ 64 := by
      have : j = 0 ∨ j = 1 ∨ j = 2 := by omega
      rcases this with rfl | rfl | rfl
      · show (pv os i 1).natAbs < _
        have := pv_nonneg os i 1
        omega
      · show (pv os i 2).natAbs < _
        have := pv_nonneg os i 2
        omega
      · show (pv os i 3).natAbs < _
        have := pv_nonneg os i 3
        omega
    k_steps
    · refine Held.out ?_
      rename Builtin.bitAnd _ _ ≠ 0 => hne
      have hjk : j + 1 < k := by
        rcases Nat.lt_or_ge (j + 1) k with h | h
        · exact h
        · exfalso
          apply hne
          rw [show j = k - 1 by omega]
          exact hlast
      rename Fr _ _ _ _ => F5
      rename News _ _ _ _ => N5
      obtain ⟨t3, hv3⟩ := hget (i + (j + 1)) (by omega)
      refine next_N F5 N5 (.head hap) (N5 _ (.tail _ hl)).1 hv3 fun h6 F6 N6 => ?_
      k_steps
      rename Fr _ _ _ _ => F7
      rename News _ _ _ _ => N7
      rw [show (2 : Int) ^ Int.toNat 6 = 64 from rfl, pv_next] at F7
      rw [← hP1]
      dsimp only [TEnd]
      have hm : k - (j + 1) < k - j := by omega
      refine' LEnd.intro (j + 1, _, _) F7 N7 ?h1 ?h2 ?h3
      case h3 => kst_all
      case h1 => exact ⟨hjk, hm⟩
      case h2 => exact fun _ h => h
    · rename Builtin.bitAnd _ _ = 0 => hze
      have hjk : j + 1 = k := by
        rcases Nat.lt_or_ge (j + 1) k with h | h
        · exact absurd hze (hmore j h)
        · omega
      rename Fr _ _ _ _ => F7
      rename News _ _ _ _ => N7
      refine' LEnd.intro (j, t1, t2) F7 N7 ?h1 ?h2 ?h3
      case h3 => kst_all
      case h1 => exact hjk
      case h2 => exact fun _ h => h
  case dn =>
    rintro ⟨j, t1, t2⟩ u h tk hj F4 N4
    dsimp only [fmap] at F4 N4 hj ⊢
    k_steps
    refine hret _ _ _ _ (by assumption) (by assumption) ⟨⟨t2, ?_⟩, ?_⟩
    · rw [hj]
    · rw [hj]
end Mine
end

section
open PySem PySem.W PySem.Spec PySem.Calls PyProof.Rows
set_option maxRecDepth 100000
set_option maxHeartbeats 8000000
namespace Mine
local macro_rules | `(tactic| walk_at "exec For Name Call cons nil") => `(tactic| (k_dflt (refine Mine.for_held ?_ (by intro _; rfl))))
local macro_rules | `(tactic| walk_at "call builtin:next") => `(tactic| (refine Mine.Held.mk ?_))
local macro_rules | `(tactic| walk_at "call builtin:iter") => `(tactic| (refine Mine.Held.mk ?_))
local macro_rules | `(tactic| walk_at "call builtin:len") => `(tactic| (refine Mine.Held.mk ?_))
local macro_rules | `(tactic| walk_at "newList") => `(tactic| (refine Mine.Held.mk ?_))
local macro_rules | `(tactic| walk_at "call ref") => `(tactic| (refine Mine.Held.mk ?_))
theorem begin_L2F : True := by
  w_top off
  exact True.intro

/-- the octets from i on fall into groups of these sizes -/
inductive Groups (os : List Int) : Nat → List Nat → Prop
  | nil : Groups os os.length []
  | cons {i k : Nat} {ks : List Nat} : 1 ≤ k → k ≤ 3 → i + k ≤ os.length → (∀ j, j + 1 < k → Builtin.bitAnd (os.getD (i + j) 0) 64 ≠ 0) → Builtin.bitAnd (os.getD (i + (k - 1)) 0) 64 = 0 → Groups os (i + k) ks → Groups os i (k :: ks)
noncomputable def vals (os : List Int) : Nat → List Nat → List Int
  | _, [] => []
  | i, k :: ks => pv os i k :: vals os (i + k) ks
theorem Groups.le {os : List Int} {i : Nat} {ks : List Nat} (h : Groups os i ks) : i + ks.length ≤ os.length := by
  induction h with
  | nil => simp
  | cons h1 _ _ _ _ _ ih => simp only [List.length_cons]; omega

theorem read_c (w : World) (led : List (Addr × Obj)) (l : Addr) (vs : List Value) (os : List Int) (n : Nat) (ks : List Nat)
    (hl : (l, listOf vs.toArray n) ∈ led) (hos : IntsAre vs os) (hlen : os.length ≤ 64) (hg : Groups os 0 ks) :
    Spec0 w 111 2 led [.ref l]
      (fun v led' => ∃ a us k, v = .ref a ∧ led' = (a, listOf us.toArray k) :: led ∧ (∀ p ∈ led, p.1 < a) ∧ IntsAre us (vals os 0 ks)) := by
  unfold Spec0
  k_fill
  intro mean mg mb dp un gd cn cs a ccd cl A₀ h₀ L m s Q E B F X N T hk' hd hu hret
  refine wpAny_call ?_
  k_dflt (refine' code_defS0X ?k1 ?k2 ?k3 ?k4 ?k5 ?kA ?kF ?kK ?k6 ?k7 ?k8 ?k9 ?kB ?_ ?c2 ?c3 ?c4 ?c5; (case kA => exact rfl); (case kF => exact rfl); (case kK => assumption); (case k1 => k_asm); (case k2 => k_asm); (case k3 => k_asm); (case k4 => k_asm); (case k5 => k_asm); (case k6 => k_is); (case k7 => k_is); (case k8 => ktr_room); (case k9 => exact BindsTo.of_eq rfl); (case c5 => decide); (case kB => exact locs rfl); (case c2 => exact rfl); (case c3 => exact rfl); (case c4 => exact rfl); k_whole; intro g' L' h' FG' F' N' B' X' T' D'; (try dsimp only); (try k_fold))
  have hvl := hos.length
  have hos' : IntsAre vs os ∧ True := ⟨hos, trivial⟩
  k_steps
  refine Held.out ?_
  rename Fr _ _ _ _ => F1
  rename News _ _ _ _ => N1
  refine iter_N F1 N1 (N1 _ hl).1 fun I h2 F2 N2 hI => ?_
  k_steps
  refine Held.out ?_
  rename Fr _ _ _ _ => F3
  rename News _ _ _ _ => N3
  refine newList_K F3 N3 fun a3 h3 F3' N3' hl3 => ?_
  k_steps
  refine Held.out ?_
  rename Fr _ _ _ _ => F4
  rename News _ _ _ _ => N4
  refine len_cell (N4 _ (.tail _ (.tail _ hl))).1 (by omega) ?_
  k_steps
  refine Held.out ?_
  rename Fr _ _ _ _ => F5
  rename News _ _ _ _ => N5
  rename IsRange _ _ _ _ _ _ _ _ => R5
  have hlI : l < I := hI _ hl
  have hIa : I < a3 := hl3 _ (.head _)
  have hla : ∀ p ∈ led, p.1 < a3 := fun p hp => hl3 _ (.tail _ hp)
  refine for_range (n := os.length + 1) (σ := Nat × List Nat × List Value × List Int × Nat)
    (fun c => (a3, listOf c.2.2.1.toArray c.2.2.2.2) :: (I, lit (.ref l) c.1) :: led)
    (fun c => [(Str.ofString "tape", .ref I), (Str.ofString "numbers", .ref a3)])
    (fun t c => Groups os c.1 c.2.1 ∧ t ≤ c.1 ∧ c.2.2.2.1 ++ vals os c.1 c.2.1 = vals os 0 ks ∧ IntsAre c.2.2.1 c.2.2.2.1 ∧ c.2.2.2.1.length = t)
    (fun _ => False) (0, ks, [], [], 0) rfl R5 (small_one (by decide) (by decide) (by omega) (by omega)) (by rw [rangeSize_nat]; omega) F5 N5 ⟨hg, Nat.le_refl _, rfl, .nil, rfl⟩ (by kst_all) ?turn ?els ?done rfl rfl (by with_unfolding_all passes_own)
  case turn =>
    rintro t tk0 ⟨i, kr, us, xs, e⟩ u h tk J oJ hin ⟨hgr, hti, heq, hus, hul⟩ hne F6 N6
    dsimp only [fmap] at F6 N6 hgr hti heq hus hul hne ⊢
    generalize hP1 : FTEnd _ _ _ _ _ _ _ _ _ = P1
    revert P1
    refine Held.mk (Held.out ?_)
    intro P1 hP1
    k_steps
    refine Held.out ?_
    have hap : ∀ p ∈ (a3, listOf us.toArray e) :: led ++ [(J, oJ)], p.1 ≠ I := by
      intro p hp
      rcases List.mem_append.mp hp with hp | hp
      · rcases List.mem_cons.mp hp with rfl | hp
        · exact Nat.ne_of_gt hIa
        · exact Nat.ne_of_lt (hI p hp)
      · rw [List.mem_singleton.mp hp]
        exact (hne (I, lit (.ref l) i) (.tail _ (.head _))).symm
    have N7 : News g' L' h ((I, lit (.ref l) i) :: ((a3, listOf us.toArray e) :: led ++ [(J, oJ)])) := news_perm N6 (List.Perm.swap _ _ _)
    cases hgr with
    | nil =>
      refine wpAny_call ?_
      k_dflt (refine' code_def ?k1 ?k2 ?k3 ?k4 ?k5 ?kA ?kF ?kK ?k6 ?k7 ?k8 ?k9 ?kB ?_ ?c2 ?c3 ?c4 ?c5; (case kA => exact rfl); (case kF => exact rfl); (case kK => exact rfl); (case k1 => k_asm); (case k2 => exact F6); (case k3 => k_asm); (case k4 => exact N7); (case k5 => k_asm); (case k6 => k_is); (case k7 => k_is); (case k8 => ktr_room); (case k9 => exact BindsTo.of_eq rfl); (case c5 => decide); (case kB => exact locs rfl); (case c2 => exact rfl); (case c3 => exact rfl); (case c4 => exact rfl); k_whole; intro g2 L2 h2' FG2 F2' N2' B2 X2 T2; (try dsimp only); (try k_fold))
      k_steps
      refine Held.out ?_
      rename Fr g2 _ _ _ => F8
      rename News g2 _ _ _ => N8
      have hlm : (l, listOf vs.toArray n) ∈ (a3, listOf us.toArray e) :: led ++ [(J, oJ)] := by simp [hl]
      have hvn : vs[os.length]? = none := List.getElem?_eq_none (Nat.le_of_eq hvl)
      refine next_endN rfl F8 N8 hap (N8 _ (.tail _ hlm)).1 hvn fun h₁ h₂ e8 F9 N9 hx => ?_
      k_unfold
      dsimp only
      refine leave_newS B2 hx F9 N9 (fun h3 R3 _ U3 => ?_) rfl
      refine' caught_SN0 (x := Str.ofString "StopIteration") (X := "StopIteration") (T' := "StopIteration") R3 FG2 (by assumption) U3 X T (by assumption) KtsTurn.refl ?ex ?hv (by decide) ?hexc ?hnt ?hsub (fun h4 g4 T4 F11 N11 B4 X4 P4 D4 => ?_) ?e1 ?e2 ?e3 ?e4
      case ex => k_is
      case hv => exact PyProof.Rows.Boot.«StopIteration»
      case hexc => rw [isSubtype_type]; kernel_rfl
      case hnt => rw [show ((Manifest.find? "StopIteration").elim "type" fun x => x.metatype) = "type" from by kernel_rfl, isSubtype_type]; kernel_rfl
      case hsub => rw [isSubtype_type]; kernel_rfl
      case e1 => rfl
      case e2 => rfl
      case e3 => decide
      case e4 => with_unfolding_all passes_own
      k_steps
      rw [← hP1]
      dsimp only [FTEnd]
      k_unfold
      dsimp only
      have hxs : xs = vals os 0 ks := by
        have e : vals os os.length [] = [] := rfl
        rw [e, List.append_nil] at heq
        exact heq
      refine leaveS0_ F11 N11 T4 fun kF kN => ?_
      exact hret (.ref a3) ((a3, listOf us.toArray e) :: led) h4 _ kF (fun p hp => kN p (List.mem_append.mpr (.inl hp))) ⟨a3, us, e, rfl, rfl, hla, by rw [← hxs]; exact hus⟩
    | @cons _ k kr' h1 h3 hik hmore hlast hgr' =>
      refine Spec.use (parse_c w ((a3, listOf us.toArray e) :: led ++ [(J, oJ)]) l I vs os n i k hap (by simp [hl]) hos'.1 h1 h3 hik hmore hlast) (by assumption) F6 (by assumption) N7 (by assumption) rfl (by ktr_room) (by ktr_units) ?_
      rintro v led' h' tk' F8 N8 ⟨⟨t8, rfl⟩, rfl⟩
      k_steps
      have hap3 : ∀ p ∈ led ++ [(J, oJ)], p.1 ≠ a3 := by
        intro p hp
        rcases List.mem_append.mp hp with hp | hp
        · exact Nat.ne_of_lt (hla p hp)
        · rw [List.mem_singleton.mp hp]
          exact (hne (a3, listOf us.toArray e) (.head _)).symm
      have hul2 := hus.length
      have hgl := hgr'.le
      refine append_K F8 N8 (.tail (Nat.ne_of_lt hIa) (.head hap3)) (fun h9 F9 N9 => ?_) (by rw [List.size_toArray, PySem.sizeLine_eq]; omega)
      k_steps
      rw [← hP1]
      dsimp only [FTEnd]
      rename Fr _ _ _ _ => F10
      rename News _ _ _ _ => N10
      simp only [List.push_toArray] at N10
      have hul3 : (xs ++ [pv os i k]).length = t + 1 := by rw [List.length_append, hul]; rfl
      have heq3 : xs ++ [pv os i k] ++ vals os (i + k) kr' = vals os 0 ks := by rw [← heq, List.append_assoc]; rfl
      refine FEnd.intro (i + k, kr', us ++ [.int (pv os i k) t8], xs ++ [pv os i k], e + 1) F10 N10 ⟨hgr', by omega, heq3, hus.append (.cons _ _ .nil), hul3⟩ (by simp) (fun p hp => ?_) ?_ (by kst_all)
      · simp only [List.mem_cons, List.mem_append, List.mem_singleton] at hp ⊢
        rcases hp with rfl | rfl | hp
        · simp
        · simp
        · simp [hp]
      · intro p hp
        rcases List.mem_cons.mp hp with rfl | hp
        · exact hne (a3, listOf us.toArray e) (.head _)
        · rcases List.mem_cons.mp hp with rfl | hp
          · exact hne (I, lit (.ref l) i) (.tail _ (.head _))
          · exact hne p (.tail _ (.tail _ hp))
  case els =>
    rintro ⟨i, kr, us, xs, e⟩ u h tk ⟨hgr, hti, heq, hus, hul⟩ F6 N6
    have := hgr.le
    dsimp only at this hti
    exfalso
    omega
  case done =>
    rintro c u h tk hf
    exact hf.elim
end Mine
end

section
open PySem PySem.W PySem.Spec PySem.Calls PyProof.Rows
set_option maxRecDepth 100000
set_option maxHeartbeats 8000000
namespace Mine
local macro_rules | `(tactic| walk_at "exec For Name Call cons nil") => `(tactic| (k_dflt (refine Mine.for_held ?_ (by intro _; rfl))))
local macro_rules | `(tactic| walk_at "exec For Name Call cons cons") => `(tactic| (k_dflt (refine Mine.for_held ?_ (by intro _; rfl))))
local macro_rules | `(tactic| walk_at "newList") => `(tactic| (refine Mine.Held.mk ?_))
local macro_rules | `(tactic| walk_at "call builtin:dict.get") => `(tactic| (refine Mine.Held.mk ?_))
local macro_rules | `(tactic| walk_at "call builtin:list.append") => `(tactic| (refine Mine.Held.mk ?_))
local macro_rules | `(tactic| walk_at "call builtin:hex") => `(tactic| (refine Mine.Held.mk ?_))
local macro_rules | `(tactic| walk_at "call builtin:str.join") => `(tactic| (refine Mine.Held.mk ?_))
local macro_rules | `(tactic| walk_at "call ref") => `(tactic| (refine Mine.Held.mk ?_))
theorem begin_L2G : True := by
  w_top off
  exact True.intro

noncomputable def NM : List Str := [Str.ofString "OPTIMIZED", Str.ofString "NEWLOCALS", Str.ofString "VARARGS", Str.ofString "VARKEYWORDS", Str.ofString "NESTED", Str.ofString "GENERATOR", Str.ofString "NOFREE", Str.ofString "COROUTINE", Str.ofString "ITERABLE_COROUTINE"]
/-- the bits below i -/
noncomputable def fl (f i : Nat) : List Nat := (List.range i).filter fun j => f.testBit j
noncomputable def nms (l : List Nat) : List Str := l.map fun j => NM.getD j (Str.ofString "")
/-- pretty_flags's words -/
noncomputable def pfl (f : Nat) : List Str := if f = 0 then [Str.ofString "0x0"] else nms (fl f 9)

noncomputable def flagD : List (PyData × PyData) := [(.int 1, .str (Str.ofString "OPTIMIZED")), (.int 2, .str (Str.ofString "NEWLOCALS")), (.int 4, .str (Str.ofString "VARARGS")), (.int 8, .str (Str.ofString "VARKEYWORDS")), (.int 16, .str (Str.ofString "NESTED")), (.int 32, .str (Str.ofString "GENERATOR")), (.int 64, .str (Str.ofString "NOFREE")), (.int 128, .str (Str.ofString "COROUTINE")), (.int 256, .str (Str.ofString "ITERABLE_COROUTINE")), (.int 512, .str (Str.ofString "ASYNC_GENERATOR"))]
theorem flag_tab {prog : Program} {w : World} {h : Heap} (X : (hd.heap_39 w.params).In h) : TabAt (intKind prog w) PyData.int h 43 flagD := by
  refine ⟨by decide, [(1, .str (Str.ofString "OPTIMIZED") 235), (2, .str (Str.ofString "NEWLOCALS") 237), (4, .str (Str.ofString "VARARGS") 239), (8, .str (Str.ofString "VARKEYWORDS") 241), (16, .str (Str.ofString "NESTED") 243), (32, .str (Str.ofString "GENERATOR") 245), (64, .str (Str.ofString "NOFREE") 247), (128, .str (Str.ofString "COROUTINE") 249), (256, .str (Str.ofString "ITERABLE_COROUTINE") 251), (512, .str (Str.ofString "ASYNC_GENERATOR") 253)], ?_, ?_⟩
  · refine ⟨_, _, _, X 43 _ rfl, ⟨rfl, rfl, rfl⟩, rfl, ?_, ?_, by decide⟩
    · intro e he
      simp only [List.mem_toArray, List.mem_cons, List.not_mem_nil, or_false] at he
      rcases he with rfl | rfl | rfl | rfl | rfl | rfl | rfl | rfl | rfl | rfl 
      · exact ⟨1, intKind_is _ _ _ _, by show (1 : Int) = hashInt 1; decide⟩
      · exact ⟨2, intKind_is _ _ _ _, by show (2 : Int) = hashInt 2; decide⟩
      · exact ⟨4, intKind_is _ _ _ _, by show (4 : Int) = hashInt 4; decide⟩
      · exact ⟨8, intKind_is _ _ _ _, by show (8 : Int) = hashInt 8; decide⟩
      · exact ⟨16, intKind_is _ _ _ _, by show (16 : Int) = hashInt 16; decide⟩
      · exact ⟨32, intKind_is _ _ _ _, by show (32 : Int) = hashInt 32; decide⟩
      · exact ⟨64, intKind_is _ _ _ _, by show (64 : Int) = hashInt 64; decide⟩
      · exact ⟨128, intKind_is _ _ _ _, by show (128 : Int) = hashInt 128; decide⟩
      · exact ⟨256, intKind_is _ _ _ _, by show (256 : Int) = hashInt 256; decide⟩
      · exact ⟨512, intKind_is _ _ _ _, by show (512 : Int) = hashInt 512; decide⟩
    · repeat' (first | exact Pairs.nil | refine Pairs.cons (intKind_is _ _ _ _) rfl ?_)
  · unfold flagD
    repeat' (first | exact PyProof.V.FlatPairs.nil | refine PyProof.V.FlatPairs.cons (PyProof.V.Flat.str _ _) ?_)
theorem i9 : ∀ i < 9, i = 0 ∨ i = 1 ∨ i = 2 ∨ i = 3 ∨ i = 4 ∨ i = 5 ∨ i = 6 ∨ i = 7 ∨ i = 8 := by decide
theorem flags_get {prog : Program} {w : World} {A : Around} {E : Value → Shared → Prop} {s : Shared} (X : (hd.heap_39 w.params).In s.heap) {i : Nat} (hi : i < 9) {k : Int} (hk : k = ((2 ^ i : Nat) : Int)) {t t' : Tok} {x : Str} {Q : Value → Shared → Prop}
    (h : ∀ t2, Q (.str (NM.getD i (Str.ofString "")) t2) { s with toks := s.toks + 1 }) : wpAny (model prog w) A (call (.builtin "dict.get") [.ref 43, .int k t, .str x t']) Q E s := by
  subst hk
  refine call_get2_intTab (flag_tab X) (PyProof.V.Flat.str _ _) fun v hv => ?_
  have := i9 i hi
  rcases this with rfl | rfl | rfl | rfl | rfl | rfl | rfl | rfl | rfl
  all_goals (have hr := hv s.heap; change Reads _ _ (PyData.str _) _ at hr; cases hr; exact h _)

theorem fl_and : ∀ f < 512, ∀ i < 9, (f / 2 ^ i * 2 ^ i) &&& 2 ^ i = if f.testBit i then 2 ^ i else 0 := by decide +kernel
theorem fl_yes : ∀ f < 512, ∀ i < 9, f.testBit i = true → (f / 2 ^ i * 2 ^ i ||| 2 ^ i) = f / 2 ^ i * 2 ^ i ∧ 2 ^ i ≤ f / 2 ^ i * 2 ^ i ∧ f / 2 ^ i * 2 ^ i - 2 ^ i = f / 2 ^ (i + 1) * 2 ^ (i + 1) := by decide +kernel
theorem fl_no : ∀ f < 512, ∀ i < 9, f.testBit i = false → f / 2 ^ i * 2 ^ i = f / 2 ^ (i + 1) * 2 ^ (i + 1) := by decide +kernel
theorem fl_end : ∀ f < 512, ∀ i < 9, f / 2 ^ (i + 1) * 2 ^ (i + 1) = 0 → fl f (i + 1) = fl f 9 := by decide +kernel
theorem fl_succ (f i : Nat) : fl f (i + 1) = fl f i ++ if f.testBit i then [i] else [] := by
  unfold fl
  rw [List.range_succ, List.filter_append]
  cases h : f.testBit i <;> simp [h]
theorem fl_le (f i : Nat) : (fl f i).length ≤ i := by
  unfold fl
  exact Nat.le_trans (List.length_filter_le _ _) (by simp)
theorem fl_zero : ∀ i, fl 0 i = []
  | 0 => rfl
  | i + 1 => by rw [fl_succ, fl_zero i]; simp
theorem hex_len : ∀ i < 9, (PySem.baseText "0x" 16 ((2 ^ i : Nat) : Int)).length ≤ 100 := by decide +kernel
theorem pfl_len : ∀ f < 512, ((pfl f).map (·.length)).sum + (pfl f).length * 64 ≤ 1000 := by decide +kernel

theorem pretty_c (w : World) (led : List (Addr × Obj)) (f : Nat) (t0 : Tok) (hf : f < 512) :
    Spec w 50 1 led [.int (f : Int) t0]
      (fun v led' => ∃ t, v = .str (Txt.join (Str.ofString ", ") (pfl f)) t ∧ led' = led) := by
  unfold Spec
  k_fill
  intro mean mg mb dp un gd cn cs a ccd cl outer A₀ base h₀ L m s Q E B F X N T hk' hd hu hret
  refine wpAny_call ?_
  k_dflt cell_enter
  k_steps
  refine Held.out ?_
  rename Fr _ _ _ _ => F1
  rename News _ _ _ _ => N1
  refine newList_K F1 N1 fun a3 h3 F3 N3 hl3 => ?_
  k_steps
  refine Held.out ?_
  rename Fr _ _ _ _ => F4
  rename News _ _ _ _ => N4
  rename IsRange _ _ _ _ _ _ _ _ => R4
  refine for_range (n := 32) (σ := Nat × Tok × List Value × List Str × Nat)
    (fun c => (a3, listOf c.2.2.1.toArray c.2.2.2.2) :: led)
    (fun c => [(Str.ofString "names", .ref a3), (Str.ofString "flags", .int (c.1 : Int) c.2.1)])
    (fun i c => c.1 = f / 2 ^ i * 2 ^ i ∧ (f ≠ 0 → c.1 ≠ 0) ∧ StrsAre c.2.2.1 c.2.2.2.1 ∧ c.2.2.2.1 = nms (fl f i))
    (fun c => StrsAre c.2.2.1 c.2.2.2.1 ∧ c.2.2.2.1 = pfl f) (f, t0, [], [], 0) rfl R4 (small_one (by decide) (by decide) (by decide) (by decide)) (by decide) F4 N4 ⟨by simp, fun h => h, .nil, rfl⟩ (by kst_all) ?turn ?els ?done rfl rfl (by with_unfolding_all passes_own)
  case turn =>
    rintro i tk0 ⟨r, tr, us, ss, e⟩ u h tk J oJ hin ⟨hr, hr0, hus, hss⟩ hne F6 N6
    dsimp only [fmap] at F6 N6 hr hr0 hus hss hne ⊢
    generalize hP1 : FTEnd _ _ _ _ _ _ _ _ _ = P1
    revert P1
    refine Held.mk (Held.out ?_)
    intro P1 hP1
    rw [Int.zero_add] at F6
    have e2 : (1 : Int) * 2 ^ (i : Int).toNat = ((2 ^ i : Nat) : Int) := by rw [Int.one_mul, Int.toNat_natCast]; push_cast; rfl
    have hJa : J ≠ a3 := (hne _ (.head _)).symm
    have hap : ∀ p ∈ led ++ [(J, oJ)], p.1 ≠ a3 := by
      intro p hp
      rcases List.mem_append.mp hp with hp | hp
      · exact Nat.ne_of_lt (hl3 _ hp)
      · rw [List.mem_singleton.mp hp]
        exact hJa
    have hul := hus.length
    have hbig : 9 ≤ i → r = 0 ∧ f = 0 := by
      intro h9
      have h0 : f / 2 ^ i = 0 := Nat.div_eq_of_lt (Nat.lt_of_lt_of_le hf (Nat.pow_le_pow_right (show 0 < 2 by decide) h9))
      have hr' : r = 0 := by rw [hr, h0, Nat.zero_mul]
      refine ⟨hr', ?_⟩
      rcases Nat.eq_zero_or_pos f with e | e
      · exact e
      · exact absurd hr' (hr0 (Nat.ne_of_gt e))
    k_steps
    · rename Builtin.bitAnd _ _ ≠ 0 => hz
      rw [e2, bitAnd_nat] at hz
      have hi9 : i < 9 := by
        rcases Nat.lt_or_ge i 9 with h | h
        · exact h
        · exfalso
          apply hz
          rw [(hbig h).1, Nat.zero_and]
          rfl
      have htb : f.testBit i = true := by
        cases hb : f.testBit i with
        | true => rfl
        | false =>
          exfalso
          apply hz
          rw [hr, fl_and f hf i hi9, hb]
          rfl
      obtain ⟨hy1, hy2, hy3⟩ := fl_yes f hf i hi9 htb
      have hy4 : r &&& 2 ^ i = 2 ^ i := by rw [hr, fl_and f hf i hi9, htb]; rfl
      have hx : Builtin.bitXor (r : Int) (1 * 2 ^ (i : Int).toNat) = ((f / 2 ^ (i + 1) * 2 ^ (i + 1) : Nat) : Int) := by
        have hy5 : r ||| 2 ^ i = r := by rw [hr]; exact hy1
        have hy6 : 2 ^ i ≤ r := by rw [hr]; exact hy2
        rw [e2, bitXor_nat, hy4, hy5, ← hy3, ← hr]
        omega
      have hfl := fl_le f i
      have hssl : ss.length = (fl f i).length := by rw [hss]; simp [nms]
      have hss2 : ss ++ [NM.getD i (Str.ofString "")] = nms (fl f (i + 1)) := by
        rw [hss, fl_succ, htb]
        simp [nms]
      refine Held.out (PySem.P.hex_of_int ?_ (by rw [e2, PySem.sizeLine_eq]; have := hex_len i hi9; omega))
      k_steps
      refine Held.out (flags_get (by k_in) hi9 e2 fun t2 => ?_)
      k_steps
      rename Fr _ _ _ _ => F7
      rename News _ _ _ _ => N7
      refine Held.out (append_K F7 N7 (.head hap) (fun h9 F9 N9 => ?_) (by rw [List.size_toArray, PySem.sizeLine_eq]; omega))
      have hus2 : StrsAre (us ++ [Value.str (NM.getD i (Str.ofString "")) t2]) (ss ++ [NM.getD i (Str.ofString "")]) := hus.append' (.cons _ _ .nil)
      have hf0 : f ≠ 0 := by rintro rfl; simp at htb
      k_steps
      · rename Builtin.bitXor _ _ ≠ 0 => hx0
        rename Fr _ _ _ _ => F10
        rename News _ _ _ _ => N10
        rw [hx] at F10 hx0
        simp only [List.push_toArray] at N10
        rw [← hP1]
        dsimp only [FTEnd]
        refine FEnd.intro (f / 2 ^ (i + 1) * 2 ^ (i + 1), _, us ++ [Value.str (NM.getD i (Str.ofString "")) t2], ss ++ [NM.getD i (Str.ofString "")], e + 1) F10 N10 ⟨rfl, fun _ h => hx0 (by have h' : f / 2 ^ (i + 1) * 2 ^ (i + 1) = 0 := h; rw [h']; rfl), hus2, hss2⟩ (by simp) (fun p hp => ?_) (fun p hp => ?_) (by kst_all)
        · rcases List.mem_cons.mp hp with rfl | hp
          · exact .head _
          · exact .tail _ (List.mem_append.mpr (.inl hp))
        · rcases List.mem_cons.mp hp with rfl | hp
          · exact hne (a3, listOf us.toArray e) (.head _)
          · exact hne p (.tail _ hp)
      · rename Builtin.bitXor _ _ = 0 => hx0
        rename Fr _ _ _ _ => F10
        rename News _ _ _ _ => N10
        rw [hx] at F10 hx0
        simp only [List.push_toArray] at N10
        rw [← hP1]
        dsimp only [FTEnd]
        have hpf : ss ++ [NM.getD i (Str.ofString "")] = pfl f := by
          rw [hss2, pfl, if_neg hf0, fl_end f hf i hi9 (by omega)]
        refine LEnd.intro (f / 2 ^ (i + 1) * 2 ^ (i + 1), _, us ++ [Value.str (NM.getD i (Str.ofString "")) t2], ss ++ [NM.getD i (Str.ofString "")], e + 1) F10 N10 ⟨hus2, hpf⟩ (fun p hp => ?_) (by kst_all)
        rcases List.mem_cons.mp hp with rfl | hp
        · exact .head _
        · exact .tail _ (List.mem_append.mpr (.inl hp))
    · rename Builtin.bitAnd _ _ = 0 => hz
      rename Fr _ _ _ _ => F7
      rename News _ _ _ _ => N7
      rw [← hP1]
      dsimp only [FTEnd]
      have hr2 : r = f / 2 ^ (i + 1) * 2 ^ (i + 1) ∧ nms (fl f i) = nms (fl f (i + 1)) := by
        rcases Nat.lt_or_ge i 9 with h9 | h9
        · have htb : f.testBit i = false := by
            cases hb : f.testBit i with
            | false => rfl
            | true =>
              exfalso
              rw [e2, bitAnd_nat, hr, fl_and f hf i h9, hb] at hz
              have : 0 < 2 ^ i := Nat.pow_pos (by decide)
              simp only [if_true] at hz
              exact absurd (Int.natCast_eq_zero.mp hz) (Nat.ne_of_gt this)
          refine ⟨hr.trans (fl_no f hf i h9 htb), ?_⟩
          rw [fl_succ, htb]
          simp
        · obtain ⟨h1, h2⟩ := hbig h9
          subst h2
          refine ⟨by rw [h1]; simp, ?_⟩
          rw [fl_zero, fl_zero]
      refine FEnd.intro (r, tr, us, ss, e) F7 N7 ⟨hr2.1, hr0, hus, hss.trans hr2.2⟩ (by simp) (fun p hp => ?_) hne (by kst_all)
      exact List.mem_append.mpr (.inl hp)
  case els =>
    rintro ⟨r, tr, us, ss, e⟩ u h tk ⟨hr, hr0, hus, hss⟩ F6 N6
    dsimp only [fmap] at F6 N6 hr hr0 hus hss ⊢
    have hf0 : f = 0 := by
      rcases Nat.eq_zero_or_pos f with e | e
      · exact e
      · exfalso
        apply hr0 (Nat.ne_of_gt e)
        rw [hr, Nat.div_eq_of_lt (by omega)]
    subst hf0
    have hr' : r = 0 := hr.trans (by simp)
    subst hr'
    have hss' : ss = [] := by rw [hss, fl_zero]; rfl
    have hul := hus.length
    rw [hss'] at hul
    have hu0 : us = [] := List.eq_nil_of_length_eq_zero hul
    k_steps
    refine Held.out (PySem.P.hex_of_int ?_ (by decide +kernel))
    k_steps
    rename Fr _ _ _ _ => F7
    rename News _ _ _ _ => N7
    refine Held.out (append_K F7 N7 (.head fun p hp => Nat.ne_of_lt (hl3 _ hp)) (fun h9 F9 N9 => ?_) (by rw [hu0]; decide))
    k_steps
    rename Fr _ _ _ _ => F10
    rename News _ _ _ _ => N10
    dsimp only [ElseEnd]
    simp only [List.push_toArray] at N10
    refine LEnd.intro (0, tr, us ++ [Value.str (PySem.baseText "0x" 16 ((0 : Nat) : Int)) _], ss ++ [Str.ofString "0x0"], e + 1) F10 N10 ⟨?_, ?_⟩ (fun _ h => h) (by kst_all)
    · exact hus.append' (.cons _ _ .nil)
    · rw [hss']
      rfl
  case done =>
    rintro ⟨r, tr, us, ss, e⟩ u h tk ⟨hus, hss⟩ F6 N6
    dsimp only [fmap] at F6 N6 hus hss ⊢
    have hsl := pfl_len f hf
    k_steps
    rename News _ _ _ _ => N7
    refine Held.out (join_listC (PySem.IsL.isList (n := e) (N7 _ (.head _)).1) (by simpa using hus) (by decide) (by rw [hss]; omega) fun t9 k9 => ?_)
    k_steps
    exact hret _ _ _ _ (by assumption) (fun p hp => (by assumption : News _ _ _ _) p (.tail _ hp)) ⟨_, by rw [hss], rfl⟩
end Mine
end

section
open PySem PySem.W PySem.Spec PySem.Calls PyProof.Rows
set_option maxRecDepth 100000
namespace Mine

/-- where a turn ends, several objects of the iterator's own kept -/
noncomputable def FEndW {σ : Type} (h₀ : Heap) (L : Addr) (s : Shared) (Led : σ → List (Addr × Obj)) (ps : σ → List (Str × Value)) (own : List (Addr × Obj)) (wr : List Addr) (Post : σ → Prop) (s₂ : Shared) : Prop :=
  ∃ (c : σ) (h : Heap) (tk : Nat) (m' : Str → Option Value) (news' : List (Addr × Obj)), s₂ = { s with heap := h, toks := tk } ∧ Fr h₀ L h m' ∧ News h₀ L h news' ∧ (∀ p ∈ own, p ∈ news') ∧ (∀ p ∈ Led c, p ∈ news') ∧ (∀ p ∈ Led c, p.1 ∉ wr) ∧ (∀ p ∈ ps c, m' p.1 = some p.2) ∧ Post c
theorem FEndW.intro {σ : Type} {h₀ : Heap} {L : Addr} {s : Shared} {Led : σ → List (Addr × Obj)} {ps : σ → List (Str × Value)} {own : List (Addr × Obj)} {wr : List Addr} {Post : σ → Prop} (c : σ) {h : Heap} {tk : Nat} {m' : Str → Option Value} {news' : List (Addr × Obj)}
    (F : Fr h₀ L h m') (N : News h₀ L h news') (hp : Post c) (ho : ∀ p ∈ own, p ∈ news') (hn : ∀ p ∈ Led c, p ∈ news') (ha : ∀ p ∈ Led c, p.1 ∉ wr) (hk : ∀ p ∈ ps c, m' p.1 = some p.2) :
    FEndW h₀ L s Led ps own wr Post { s with heap := h, toks := tk } := ⟨c, h, tk, m', news', rfl, F, N, ho, hn, ha, hk, hp⟩
noncomputable def FTEndW {σ : Type} (h₀ : Heap) (L : Addr) (s : Shared) (Led : σ → List (Addr × Obj)) (ps : σ → List (Str × Value)) (own : List (Addr × Obj)) (wr : List Addr) (Nxt Fin : σ → Prop) (Q : Flow → Shared → Prop) (f : Flow) (s₂ : Shared) : Prop :=
  match f with
  | .ret v => Q (.ret v) s₂
  | .brk => LEnd h₀ L s Led ps Fin s₂
  | .next => FEndW h₀ L s Led ps own wr Nxt s₂
  | .cont => FEndW h₀ L s Led ps own wr Nxt s₂

theorem own_of {h : Heap} : ∀ {wr : List Addr}, (∀ b ∈ wr, ∃ o, h.get? b = some o) → ∃ own : List (Addr × Obj), own.map (·.1) = wr ∧ ∀ p ∈ own, h.get? p.1 = some p.2
  | [], _ => ⟨[], rfl, fun _ hp => nomatch hp⟩
  | b :: r, H => by
    obtain ⟨o, ho⟩ := H b (.head _)
    obtain ⟨own, e, hr⟩ := own_of (wr := r) fun c hc => H c (.tail _ hc)
    refine ⟨(b, o) :: own, by rw [List.map_cons, e], fun p hp => ?_⟩
    rcases List.mem_cons.mp hp with rfl | hp
    · exact ho
    · exact hr p hp

section
variable {prog : Program} {w : World} {A : Around} {E : Value → Shared → Prop} {Q : Flow → Shared → Prop} {s : Shared} {env : Env} {h₀ : Heap}

theorem for2 {σ : Type} {x0 x1 : Str} {p0 p1 pt : Pos} {kk : Nat} {body orelse : List Stmt} {I : Addr} {fp wr : List Addr} {n : Nat} {Pt : Nat → Array Value → Prop} {P2 : Nat → Value → Value → Prop} {St : Nat → Heap → Prop} {Mid : Nat → Addr → Heap → Prop} {m₀ : Str → Option Value}
    (Led : σ → List (Addr × Obj)) (ps : σ → List (Str × Value)) (Inv : Nat → σ → Prop) (Fin : σ → Prop) (c₀ : σ)
    (hh : A.handled = none) (W : WalksU prog w A I fp wr n Pt St Mid) (hst : St 0 s.heap) (hw0 : ∀ b ∈ wr, h₀.get? b = none) (hLw : env.locals ∉ fp) (how : ∀ i h, St i h → ∀ b ∈ wr, ∃ o, h.get? b = some o)
    (hfp : ∀ b ∈ fp, b ∈ wr ∨ (∃ o, h₀.get? b = some o) ∨ (∃ o, ∀ i c, Inv i c → (b, o) ∈ Led c)) (hnw : ∀ p ∈ Led c₀, p.1 ∉ wr)
    (hP : ∀ i vals, Pt i vals → ∃ v0 v1, vals = #[v0, v1] ∧ P2 i v0 v1)
    (F : Fr h₀ env.locals s.heap m₀) (N : News h₀ env.locals s.heap (Led c₀)) (hi : Inv 0 c₀) (hk : ∀ p ∈ ps c₀, m₀ p.1 = some p.2)
    (turn : ∀ i v0 v1 (c : σ) (u : Str → Option Value) h tk own, i < n → P2 i v0 v1 → Inv i c → (∀ p ∈ Led c, p.1 ∉ wr) → own.map (·.1) = wr → Fr h₀ env.locals h (fun y => if y = x1 then some v1 else if y = x0 then some v0 else fmap u (ps c) y) → News h₀ env.locals h (Led c ++ own) →
      wpAny (model prog w) A (execs body env) (FTEndW h₀ env.locals s Led ps own wr (Inv (i + 1)) Fin Q) E { s with heap := h, toks := tk })
    (els : ∀ (c : σ) (u : Str → Option Value) h tk, Inv n c → Fr h₀ env.locals h (fmap u (ps c)) → News h₀ env.locals h (Led c) → wpAny (model prog w) A (execs orelse env) (ElseEnd h₀ env.locals s Led ps Fin Q) E { s with heap := h, toks := tk })
    (done : ∀ (c : σ) (u : Str → Option Value) h tk, Fin c → Fr h₀ env.locals h (fmap u (ps c)) → News h₀ env.locals h (Led c) → Q .next { s with heap := h, toks := tk })
    (hx0 : env.kindOf x0 = some .local) (hx1 : env.kindOf x1 = some .local) (hp : (env.scope.kind == .class || (env.scope.kind == .module && env.locals != env.globals)) = false) (hE : PassesOwn (model prog w) A env E) :
    LoopHere prog w A E env (.Tuple [.Name x0 p0, .Name x1 p1] kk pt) body orelse Q (.ref I) s := by
  have hLww : env.locals ∉ wr := fun h => hLw (W.sub _ h)
  refine codeAny_forLoop_any (fun k s' => ∃ i c h' tk m', s' = { s with heap := h', toks := tk } ∧ St i h' ∧ Fr h₀ env.locals h' m' ∧ News h₀ env.locals h' (Led c) ∧ (∀ p ∈ Led c, p.1 ∉ wr) ∧ (∀ p ∈ ps c, m' p.1 = some p.2) ∧ Inv i c ∧ i ≤ n ∧ k = n + 1 - i) ?_ (n + 1)
    ⟨0, c₀, s.heap, s.toks, m₀, rfl, hst, F, N, hnw, hk, hi, Nat.zero_le _, rfl⟩
  rintro k s' ⟨i, c, h', tk, m', rfl, hst', F', N', hnI', hk', hi', hin, rfl⟩
  have next : ∀ {h' h₁ : Heap}, Fr h₀ env.locals h' m' → News h₀ env.locals h' (Led c) → (∀ b o, b ∉ wr → h'.get? b = some o → h₁.get? b = some o) → Fr h₀ env.locals h₁ m' ∧ News h₀ env.locals h₁ (Led c) := fun F' N' hk₁ =>
    ⟨⟨F'.ns.at' fun o e => hk₁ _ o hLww e, fun b o e => hk₁ b o (fun hm => by rw [hw0 b hm] at e; cases e) (F'.keep b o e), F'.above⟩,
      fun p hp => ⟨hk₁ _ _ (hnI' p hp) (N' p hp).1, (N' p hp).2⟩⟩
  by_cases hlt : i < n
  · refine W.item i _ _ _ hlt hst' fun T vals h₁ tk₁ hPt hT hM hk₁ => ?_
    obtain ⟨v0, v1, rfl, hP2⟩ := hP i vals hPt
    obtain ⟨F₁, N₁⟩ := next F' N' hk₁
    have hTw := W.apart _ _ _ hM
    refine W.go _ _ _ i T _ _ _ hM fun h₂ hst₂ hk₂ => ?_
    obtain ⟨F₂, N₂⟩ := next F₁ N₁ hk₂
    have hT₂ : h₂.IsTuple T #[v0, v1] := by
      obtain ⟨o, ho, r⟩ := hT
      exact ⟨o, hk₂ _ _ hTw ho, r⟩
    refine wpAny_assign_Tuple hh hT₂ rfl rfl fun h₃ hx₃ => ?_
    replace hx₃ : Heap.ExtBut h₂.objs.size h₂ h₃ := hx₃
    have old₃ : ∀ b o, h₂.get? b = some o → h₃.get? b = some o := fun b o x => hx₃ b o (Nat.ne_of_lt (Heap.lt_size x)) x
    have F₃ : Fr h₀ env.locals h₃ m' := ⟨F₂.ns.at' fun o e => old₃ _ o e, fun b o e => old₃ b o (F₂.keep b o e), F₂.above⟩
    have N₃ : News h₀ env.locals h₃ (Led c) := fun p hp => ⟨old₃ _ _ (N₂ p hp).1, (N₂ p hp).2⟩
    show wpAny _ A (do holding [v1] (assign (.Name x0 p0) env v0); do holding [] (assign (.Name x1 p1) env v1); pure ()) _ _ _
    refine wpAny_bind (wpAny_holding (wpAny_assign_Name (wpAny_storeName_local hx0 F₃.ns (fun h₄ hn₄ hs₄ => ?_) hp)))
    replace hs₄ : Heap.SameBut env.locals h₃ h₄ := hs₄
    refine wpAny_bind (wpAny_holding (wpAny_assign_Name (wpAny_storeName_local hx1 hn₄ (fun h₅ hn₅ hs₅ => wpAny_pure ?_) hp)))
    replace hs₅ : Heap.SameBut env.locals h₄ h₅ := hs₅
    have F₅ := (F₃.set hn₄ hs₄).set hn₅ hs₅
    have N₅ := (N₃.set hs₄).set hs₅
    obtain ⟨own, eown, hown⟩ := own_of (h := h₅) fun b hb => by
      obtain ⟨o, ho⟩ := how _ _ hst₂ b hb
      have hbL : b ≠ env.locals := fun e => hLww (e ▸ hb)
      exact ⟨o, (hs₅.2 b hbL).trans ((hs₄.2 b hbL).trans (old₃ b o ho))⟩
    have hst₅ : St (i + 1) h₅ := W.frame _ _ _ hst₂ fun b hb o e => by
      have hbL : b ≠ env.locals := fun q => hLw (q ▸ hb)
      exact (hs₅.2 b hbL).trans ((hs₄.2 b hbL).trans (old₃ b o e))
    have N₆ : News h₀ env.locals h₅ (Led c ++ own) := fun p hp => (List.mem_append.mp hp).elim (N₅ p) fun hp => by
      have hm : p.1 ∈ wr := eown ▸ List.mem_map_of_mem hp
      exact ⟨hown p hp, fun e => hLww (e ▸ hm), hw0 _ hm⟩
    have em : (fun y => if y = x1 then some v1 else if y = x0 then some v0 else m' y) = fun y => if y = x1 then some v1 else if y = x0 then some v0 else fmap m' (ps c) y := by rw [fmap_eq hk']
    rw [em] at F₅
    refine wpAny_mono (turn i v0 v1 c m' h₅ _ own hlt hP2 hi' hnI' eown F₅ N₆) (fun f s₃ h₃ => ?_) hE
    have fin : FEndW h₀ env.locals s Led ps own wr (Inv (i + 1)) s₃ → ∃ m, m < n + 1 - i ∧ ∃ i c h' tk m', s₃ = { s with heap := h', toks := tk } ∧ St i h' ∧ Fr h₀ env.locals h' m' ∧ News h₀ env.locals h' (Led c) ∧ (∀ p ∈ Led c, p.1 ∉ wr) ∧ (∀ p ∈ ps c, m' p.1 = some p.2) ∧ Inv i c ∧ i ≤ n ∧ m = n + 1 - i := by
      rintro ⟨c', h₃', tk₃, m₃, news₃, rfl, F₃, N₃, ho₃, hl₃, hne₃, hk₃, hi₃⟩
      refine ⟨n + 1 - (i + 1), by omega, i + 1, c', h₃', tk₃, m₃, rfl, ?_, F₃, fun p hp => N₃ p (hl₃ p hp), hne₃, hk₃, hi₃, hlt, rfl⟩
      refine W.frame _ _ _ hst₅ fun b hb o e => ?_
      rcases hfp b hb with hbw | ⟨o₀, h0⟩ | ⟨o₁, hled⟩
      · rw [← eown] at hbw
        obtain ⟨p, hp, rfl⟩ := List.mem_map.mp hbw
        have := hown p hp
        rw [e] at this
        cases this
        exact (N₃ _ (ho₃ p hp)).1
      · have := F₅.keep b o₀ h0
        rw [e] at this
        cases this
        exact F₃.keep b _ h0
      · have := (N₅ _ (hled i c hi')).1
        rw [e] at this
        cases this
        exact (N₃ _ (hl₃ _ (hled _ _ hi₃))).1
    cases f with
    | ret v => exact h₃
    | brk => exact LEnd.done done h₃
    | next => exact fin h₃
    | cont => exact fin h₃
  · have hin' : i = n := by omega
    subst hin'
    refine W.done _ _ _ hst' fun h₁ tk₁ hk₁ => ?_
    obtain ⟨F₁, N₁⟩ := next F' N' hk₁
    refine wpAny_mono (els c m' h₁ tk₁ hi' (by rw [fmap_eq hk']; exact F₁) N₁) (fun f s₃ h₃ => ?_) hE
    cases f with
    | next => exact LEnd.done done h₃
    | brk => exact h₃
    | cont => exact h₃
    | ret v => exact h₃
end
end Mine
end

section
open PySem PySem.W PySem.Spec PySem.Calls PyProof.Rows
open PySem.AutoSeq1 (wpAny_loadPart')
set_option maxRecDepth 100000
namespace Mine

section
variable {prog : Program} {w : World} {A : Around} {E : Value → Shared → Prop} {s : Shared}

theorem letOwned_pure {elts : List PySem.Expr} {k : Nat} {pos : Pos} {I T : Addr} {o : Obj} {c : String} {fs : Array Value} {Q : Unit → Shared → Prop} (ho : s.heap.get? I = some o) (hc : o.cls = .type c) (hd : o.data = .fields fs)
    (hn : ["enumerate", "zip", "dict_itemiterator", "dict_reverseitemiterator", "odict_iterator", "itertools.zip_longest", "itertools.pairwise"].contains c = false) (h : Q () s) :
    wpAny (model prog w) A (letOwnedTupleGo (.Tuple elts k pos) (.ref I) (.ref T)) Q E s := by
  unfold letOwnedTupleGo
  refine wpAny_bind (wpAny_load ho ?_)
  rw [hc, hd]
  dsimp only
  rw [hn, Bool.false_and]
  simp only [Bool.false_eq_true, if_false]
  exact wpAny_pure h

theorem nextOf_tuple_item {it t : Addr} {i : Nat} {items} {x : Value} {Q : Value → Shared → Prop} (hit : s.heap.IsTupleIter it t i)
    (ht : s.heap.IsTuple t items) (hx : items[i]? = some x)
    (hQ : ∀ h', h'.IsTupleIter it t (i + 1) → Heap.SameBut it s.heap h' → Q x { s with heap := h' }) :
    wpAny (model prog w) A (Builtin.SmallTypes.nextOf (.ref it)) Q E s := by
  obtain ⟨o, ho, hc, hd⟩ := id hit
  obtain ⟨ol, hol, _, nl, hdl⟩ := ht
  unfold Builtin.SmallTypes.nextOf
  refine wpAny_bind (wpAny_callSpecial?_slot (name := Str.ofString "__next__") hit.typeIs F.slot_tuple_iterator_next
    (wpAny_call_entry F.slot_tuple_iterator_next hit.typeIs F.entry_tuple_iterator_next ?_ (F.args_tuple_iterator_next_1 _)))
  show wpAny _ _ (field (.ref it) 0 >>= _) _ _ s
  refine wpAny_bind (wpAny_field ho hd (x := .ref t) rfl ?_)
  show wpAny _ _ (if (Value.ref t == Value.none) = true then _ else _) _ _ s
  rw [if_neg (show ¬ ((Value.ref t == Value.none) = true) from Bool.false_ne_true)]
  show wpAny _ _ (field (.ref it) 1 >>= _) _ _ s
  refine wpAny_bind (wpAny_field ho hd (x := .int i 0) rfl ?_)
  show wpAny _ _ (seqItems? (.ref t) >>= _) _ _ s
  refine wpAny_bind (wpAny_seqItems hol hdl ?_)
  simp only [Int.toNat_natCast, hx]
  refine wpAny_bind (wpAny_setField ho hd (by simp) (wpAny_pure ⟨x, rfl, wpAny_pure (hQ _ ?_ (Heap.SameBut.update ..))⟩))
  exact ⟨_, Heap.get?_update_self _ ho (Obj.isFreed_of_fields (Obj.data_mapFields hd _)), (Obj.cls_mapFields ..).trans hc, by
    rw [Obj.data_mapFields hd]; simp [rawInt]⟩

theorem nextOf_tuple_end {it t : Addr} {i : Nat} {items} {Q : Value → Shared → Prop} (hh : A.handled = none)
    (hit : s.heap.IsTupleIter it t i) (ht : s.heap.IsTuple t items) (hx : items[i]? = none)
    (hE : ∀ h' e, Heap.ExtBut it s.heap h' → (∃ o, h'.get? e = some o ∧ o.cls = .type "StopIteration") → E (.ref e) { s with heap := h' }) :
    wpAny (model prog w) A (Builtin.SmallTypes.nextOf (.ref it)) Q E s := by
  obtain ⟨o, ho, hc, hd⟩ := id hit
  obtain ⟨ol, hol, _, nl, hdl⟩ := ht
  unfold Builtin.SmallTypes.nextOf
  refine wpAny_bind (wpAny_callSpecial?_slot (name := Str.ofString "__next__") hit.typeIs F.slot_tuple_iterator_next
    (wpAny_call_entry F.slot_tuple_iterator_next hit.typeIs F.entry_tuple_iterator_next ?_ (F.args_tuple_iterator_next_1 _)))
  show wpAny _ _ (field (.ref it) 0 >>= _) _ _ s
  refine wpAny_bind (wpAny_field ho hd (x := .ref t) rfl ?_)
  show wpAny _ _ (if (Value.ref t == Value.none) = true then _ else _) _ _ s
  rw [if_neg (show ¬ ((Value.ref t == Value.none) = true) from Bool.false_ne_true)]
  show wpAny _ _ (field (.ref it) 1 >>= _) _ _ s
  refine wpAny_bind (wpAny_field ho hd (x := .int i 0) rfl ?_)
  show wpAny _ _ (seqItems? (.ref t) >>= _) _ _ s
  refine wpAny_bind (wpAny_seqItems hol hdl ?_)
  simp only [Int.toNat_natCast, hx]
  refine wpAny_bind (wpAny_rule (wpAny_bind (wpAny_setField ho hd (by simp) ?_)))
  show wpAny _ _ (newExc (.type "StopIteration") [] >>= _) _ _ _
  refine wpAny_bind ?_
  simp only [newExc, newTuple]
  refine wpAny_bind (wpAny_newObj_type ?_ (by size_fits))
  refine wpAny_bind (m := firstArgMember _ _) (wpAny_of_eq (a := Value.none) (by first | rfl | (simp only [firstArgMember]; rfl)) ?_)
  refine wpAny_newObj_type ?_ (by size_fits)
  simp only [raiseNew]
  refine wpAny_bind (wpAny_handled ?_)
  first | rw [show A.in1.handled = none from hh] | rw [hh]
  refine wpAny_bind (wpAny_pure (wpAny_throw ?_))
  exact hE _ _ (((Heap.SameBut.update ..).extBut.push _).push _) ⟨_, Heap.get?_push_size _ rfl, rfl⟩
end

theorem draws_tuple {prog : Program} {w : World} {A : Around} (hh : A.handled = none) (it l : Addr) (hne : l ≠ it) (items : Array Value) :
    Draws prog w A it [it, l] items.size (fun i v => items[i]? = some v) (fun i h => h.IsTupleIter it l i ∧ h.IsTuple l items) where
  live := fun _ _ st => let ⟨o, ho, _⟩ := st.1; ⟨o, ho⟩
  frame := fun _ _ _ st hk => ⟨st.1.at fun o e => hk it (by simp) o e, st.2.at fun o e => hk l (by simp) o e⟩
  item := fun i s Q E hi st hQ => by
    refine nextOf_tuple_item st.1 st.2 (x := items[i]) (by simp [hi]) fun h' hit' hs' => ?_
    exact hQ _ h' s.toks (by simp [hi]) ⟨hit', st.2.extBut hs'.extBut hne⟩ hs'
  done := fun s Q E st hE => nextOf_tuple_end hh st.1 st.2 (by simp) hE

/-- over a tuple of pairs -/
theorem walksU_tuple2 {prog : Program} {w : World} {A : Around} (hh : A.handled = none) (I ax : Addr) (hne : ax ≠ I) (Ts : List Addr) (hI : I ∉ Ts) (vals : Nat → Array Value) :
    WalksU prog w A I (I :: ax :: Ts) [I] Ts.length (fun i v => i < Ts.length ∧ v = vals i)
      (fun i h => (h.IsTupleIter I ax i ∧ h.IsTuple ax (Ts.map Value.ref).toArray) ∧ ∀ j T, Ts[j]? = some T → h.IsTuple T (vals j))
      (fun i T h => T ≠ I ∧ (h.IsTupleIter I ax (i + 1) ∧ h.IsTuple ax (Ts.map Value.ref).toArray) ∧ ∀ j T, Ts[j]? = some T → h.IsTuple T (vals j)) where
  sub := fun b hb => by simp at hb; simp [hb]
  frame := fun i h h' st hk => ⟨⟨st.1.1.at fun o e => hk I (by simp) o e, st.1.2.at fun o e => hk ax (by simp) o e⟩, fun j T hj => (st.2 j T hj).at fun o e => hk T (by simp [List.mem_of_getElem? hj]) o e⟩
  item := fun i s Q E hi st hQ => by
    have hx : (Ts.map Value.ref).toArray[i]? = some (.ref Ts[i]) := by simp [hi]
    have hTi : Ts[i]? = some Ts[i] := by simp [hi]
    have hTI : Ts[i] ≠ I := fun e => hI (e ▸ List.getElem_mem hi)
    refine wpAny_pyNext_tuple_item st.1.1 st.1.2 hx fun h' hit' hs' => ?_
    have up : ∀ j T, Ts[j]? = some T → h'.IsTuple T (vals j) := fun j T hj => (st.2 j T hj).extBut hs'.extBut fun e => hI (e ▸ List.mem_of_getElem? hj)
    exact hQ _ _ h' s.toks ⟨hi, rfl⟩ (up i _ hTi) ⟨hTI, ⟨hit', st.1.2.extBut hs'.extBut hne⟩, up⟩ fun b o hb e => hs'.extBut b o (fun h => hb (by simp [h])) e
  go := fun elts k pos i T s Q E hm hQ => by
    obtain ⟨_, ⟨hit, hax⟩, hall⟩ := hm
    obtain ⟨o, ho, hc, hd⟩ := id hit
    exact letOwned_pure ho hc hd (by decide) (hQ s.heap ⟨⟨hit, hax⟩, hall⟩ fun _ _ _ e => e)
  apart := fun i T h hm hT => hm.1 (List.mem_singleton.mp hT)
  done := fun s Q E st hQ => wpAny_pyNext_tuple_end hh st.1.1 st.1.2 (by simp) fun h' he' => hQ h' s.toks fun b o hb e => he' b o (fun h => hb (by simp [h])) e
  self := fun _ _ _ _ st hQ => wpAny_pyIter_tupleiter st.1.1 hQ

theorem meets_enumerate_newT (l : Addr) (items : Array Value) (n : Nat) (dct : Option Addr) (sl : Array (Option Value)) :
    Meets (Builtin.«enumerate.__new__» ⟨[.type "enumerate", .ref l], []⟩) (fun _ R s => s.heap.get? l = some { cls := .type "tuple", dict := dct, data := .seq items n, slots := sl } ∧
      R (.ok (.ret (.ref (s.heap.push { cls := .type "tuple_iterator", data := .fields #[.ref l, .int 0 0] }).objs.size)))
        { s with heap := (s.heap.push { cls := .type "tuple_iterator", data := .fields #[.ref l, .int 0 0] }).push { cls := .type "enumerate", data := .fields #[.none, .bool false, .ref s.heap.objs.size, rawInt 0, .none, .none] } }) :=
  .of_wp fun prog w A R s h => by
    obtain ⟨hp, g, d, tk, os⟩ := s; obtain ⟨hl, h⟩ := h
    have hsub := sub_enumerate
    have hL : Heap.IsTuple (Shared.heap ⟨hp, g, d, tk, os⟩) l items := ⟨_, hl, rfl, n, rfl⟩
    wp_walk using wpAny_loadPart' hl
    refine wpAny_stack_any fun st => wpAny_pure ?_
    split
    · rename_i c _ _ _ _ _
      cases (c == Value.type "enumerate")
      · wp_walk using wpAny_loadPart' hl, wpAny_pyIter_tuple hL
        exact ⟨_, rfl, h⟩
      · wp_walk using wpAny_loadPart' hl, wpAny_pyIter_tuple hL
        exact ⟨_, rfl, h⟩
    · wp_walk using wpAny_loadPart' hl, wpAny_pyIter_tuple hL
      exact ⟨_, rfl, h⟩

section
variable {prog : Program} {w : World} {A : Around} {E : Value → Shared → Prop} {s : Shared}
theorem call_enumerate_tuple {l : Addr} {items : Array Value} {Q : Value → Shared → Prop} (hL : s.heap.IsTuple l items)
    (h : ∀ h', IsEnum h' (s.heap.objs.size + 1) s.heap.objs.size 0 .none → h'.IsTupleIter s.heap.objs.size l 0 → h'.objs.size = s.heap.objs.size + 2 →
      (∀ b o, s.heap.get? b = some o → h'.get? b = some o) → Q (.ref (s.heap.objs.size + 1)) { s with heap := h' }) :
    wpAny (model prog w) A (call (.type "enumerate") [.ref l]) Q E s := by
  obtain ⟨⟨c, dct, dt, sl⟩, hl, hc, n, hd⟩ := hL
  simp only at hc hd
  subst hc hd
  refine callType_new F.called_enumerate (by decide) (F.typeCall_enumerate_1 _) (F.newCall_enumerate_1 _) (fun obj => F.args_object_init_2 obj _) F.entry_enumerate_new
    (meets_enumerate_newT l items n dct sl) ⟨hl, ?_⟩
  have hz : (s.heap.push { cls := .type "tuple_iterator", data := .fields #[.ref l, .int 0 0] }).objs.size = s.heap.objs.size + 1 := Heap.size_push ..
  show _ ∧ _
  rw [hz]
  have he : IsEnum ((s.heap.push { cls := .type "tuple_iterator", data := .fields #[.ref l, .int 0 0] }).push
      { cls := .type "enumerate", data := .fields #[.none, .bool false, .ref s.heap.objs.size, rawInt 0, .none, .none] }) (s.heap.objs.size + 1) s.heap.objs.size 0 .none := by
    have := Heap.get?_push_size (s.heap.push { cls := .type "tuple_iterator", data := .fields #[.ref l, .int 0 0] })
      (o := { cls := .type "enumerate", data := .fields #[.none, .bool false, .ref s.heap.objs.size, rawInt 0, .none, .none] }) rfl
    rw [hz] at this; exact this
  refine ⟨⟨_, he, rfl⟩, h _ he ⟨_, Heap.get?_push_of_some _ (Heap.get?_push_size _ rfl), rfl, rfl⟩ (by rw [Heap.size_push, hz]) fun b o x => Heap.get?_push_of_some _ (Heap.get?_push_of_some _ x)⟩
end
end Mine
end

section
open PySem PySem.W PySem.Spec PySem.Calls PyProof.Rows
set_option maxRecDepth 100000
namespace Mine

theorem own1 {α β : Type} {own : List (α × β)} {a : α} (h : own.map (·.1) = [a]) : ∃ o1, own = [(a, o1)] := by
  cases own with
  | nil => exact absurd (congrArg List.length h) (by simp)
  | cons p r =>
    have h2 : r = [] := List.map_eq_nil_iff.mp (List.cons.inj h).2
    have h1 : p.1 = a := (List.cons.inj h).1
    exact ⟨p.2, by rw [h2, ← h1]⟩
theorem own2 {α β : Type} {own : List (α × β)} {a b : α} (h : own.map (·.1) = [a, b]) : ∃ o1 o2, own = [(a, o1), (b, o2)] := by
  cases own with
  | nil => exact absurd (congrArg List.length h) (by simp)
  | cons p r =>
    have h1 : p.1 = a := (List.cons.inj h).1
    obtain ⟨o2, rfl⟩ := own1 (List.cons.inj h).2
    exact ⟨p.2, o2, by rw [← h1]⟩

section
variable {prog : Program} {w : World} {A : Around} {E : Value → Shared → Prop} {Q : Flow → Shared → Prop} {s : Shared} {env : Env} {h₀ : Heap} {L : Addr}

theorem enum_N {m : Str → Option Value} {news : List (Addr × Obj)} {ax : Addr} {items : Array Value} {Q : Value → Shared → Prop} (F : Fr h₀ L s.heap m) (N : News h₀ L s.heap news) (hT : s.heap.IsTuple ax items)
    (h : ∀ e it h', IsEnum h' e it 0 .none → h'.IsTupleIter it ax 0 → h'.IsTuple ax items → Fr h₀ L h' m → News h₀ L h' news → h₀.get? e = none → h₀.get? it = none → e ≠ L → it ≠ L → e ≠ it → e ≠ ax → it ≠ ax → (∀ p ∈ news, p.1 ≠ e ∧ p.1 ≠ it) → Q (.ref e) { s with heap := h' }) :
    wpAny (model prog w) A (call (.type "enumerate") [.ref ax]) Q E s := by
  have hax : ax < s.heap.objs.size := by obtain ⟨o, ho, _⟩ := hT; exact Heap.lt_size ho
  refine call_enumerate_tuple hT fun h' he hi hz hk => ?_
  have hL : L < s.heap.objs.size := F.ns.lt
  have hn : ∀ b, s.heap.objs.size ≤ b → h₀.get? b = none := fun b hb => by
    cases e : h₀.get? b with
    | none => rfl
    | some o => exact absurd (Heap.lt_size (F.keep b o e)) (Nat.not_lt.mpr hb)
  exact h _ _ h' he hi (hT.at fun o e => hk _ o e) ⟨F.ns.at' fun o e => hk _ o e, fun b o e => hk b o (F.keep b o e), F.above⟩ (fun p hp => ⟨hk _ _ (N p hp).1, (N p hp).2⟩)
    (hn _ (Nat.le_succ _)) (hn _ (Nat.le_refl _)) (Nat.ne_of_gt (Nat.lt_succ_of_lt hL)) (Nat.ne_of_gt hL) (Nat.ne_of_gt (Nat.lt_succ_self _)) (Nat.ne_of_gt (Nat.lt_succ_of_lt hax)) (Nat.ne_of_gt hax)
    fun p hp => ⟨Nat.ne_of_lt (Nat.lt_succ_of_lt (Heap.lt_size (N p hp).1)), Nat.ne_of_lt (Heap.lt_size (N p hp).1)⟩

theorem for_enumT {σ : Type} {x0 x1 : Str} {p0 p1 pt : Pos} {kk : Nat} {body orelse : List Stmt} {ax e it : Addr} {items : Array Value} {m₀ : Str → Option Value} 
    (Led : σ → List (Addr × Obj)) (ps : σ → List (Str × Value)) (Inv : Nat → σ → Prop) (Fin : σ → Prop) (c₀ : σ)
    (hh : A.handled = none) (he : IsEnum s.heap e it 0 .none) (hi' : s.heap.IsTupleIter it ax 0) (hT : s.heap.IsTuple ax items) (hT0 : ∃ o, h₀.get? ax = some o)
    (hE0 : h₀.get? e = none) (hI0 : h₀.get? it = none) (heL : e ≠ env.locals) (hiL : it ≠ env.locals) (hei : e ≠ it) (hea : e ≠ ax) (hia : it ≠ ax) (hnw : ∀ p ∈ Led c₀, p.1 ≠ e ∧ p.1 ≠ it)
    (F : Fr h₀ env.locals s.heap m₀) (N : News h₀ env.locals s.heap (Led c₀)) (hi : Inv 0 c₀) (hk : ∀ p ∈ ps c₀, m₀ p.1 = some p.2)
    (turn : ∀ i t v1 (c : σ) (u : Str → Option Value) h tk o1 o2, i < items.size → items[i]? = some v1 → Inv i c → (∀ p ∈ Led c, p.1 ≠ e ∧ p.1 ≠ it) → Fr h₀ env.locals h (fun y => if y = x1 then some v1 else if y = x0 then some (.int (i : Int) t) else fmap u (ps c) y) → News h₀ env.locals h (Led c ++ [(e, o1), (it, o2)]) →
      wpAny (model prog w) A (execs body env) (FTEndW h₀ env.locals s Led ps [(e, o1), (it, o2)] [e, it] (Inv (i + 1)) Fin Q) E { s with heap := h, toks := tk })
    (els : ∀ (c : σ) (u : Str → Option Value) h tk, Inv items.size c → Fr h₀ env.locals h (fmap u (ps c)) → News h₀ env.locals h (Led c) → wpAny (model prog w) A (execs orelse env) (ElseEnd h₀ env.locals s Led ps Fin Q) E { s with heap := h, toks := tk })
    (done : ∀ (c : σ) (u : Str → Option Value) h tk, Fin c → Fr h₀ env.locals h (fmap u (ps c)) → News h₀ env.locals h (Led c) → Q .next { s with heap := h, toks := tk })
    (hx0 : env.kindOf x0 = some .local) (hx1 : env.kindOf x1 = some .local) (hp : (env.scope.kind == .class || (env.scope.kind == .module && env.locals != env.globals)) = false) (hE : PassesOwn (model prog w) A env E) :
    wpAny (model prog w) A (pyIter (.ref e)) (fun itv s₂ => LoopHere prog w A E env (.Tuple [.Name x0 p0, .Name x1 p1] kk pt) body orelse Q itv s₂) E s := by
  refine wpAny_pyIter_enum he ?_
  have haL : env.locals ≠ ax := fun q => by
    obtain ⟨o, ho⟩ := hT0
    exact absurd (Heap.lt_size ho) (by rw [← q]; exact Nat.not_lt.mpr F.above)
  refine for2 (n := items.size) (P2 := fun i v0 v1 => ∃ t, v0 = .int (i : Int) t ∧ items[i]? = some v1) Led ps Inv Fin c₀ hh
    (WalksT.enumerateD (draws_tuple (A := A.in1) hh it ax (Ne.symm hia) items) e hei (by simp [hei, hea]) (by simp)).toU ⟨⟨_, he⟩, hi', hT⟩ ?_ ?_ ?_ ?_ ?_ ?_ F N hi hk ?_ els done hx0 hx1 hp hE
  · intro b hb
    simp only [List.mem_cons, List.not_mem_nil, or_false] at hb
    rcases hb with rfl | rfl
    · exact hE0
    · exact hI0
  · simp [Ne.symm heL, Ne.symm hiL, haL]
  · rintro i h ⟨⟨old, h1⟩, ⟨o, h2, _⟩, _⟩ b hb
    simp only [List.mem_cons, List.not_mem_nil, or_false] at hb
    rcases hb with rfl | rfl
    · exact ⟨_, h1⟩
    · exact ⟨_, h2⟩
  · intro b hb
    simp only [List.mem_cons, List.not_mem_nil, or_false] at hb
    rcases hb with rfl | rfl | rfl
    · exact .inl (by simp)
    · exact .inl (by simp)
    · exact .inr (.inl hT0)
  · intro p hp
    have := hnw p hp
    simp [this.1, this.2]
  · rintro i vals ⟨t, x, hx, rfl⟩
    exact ⟨_, _, rfl, t, rfl, hx⟩
  · rintro i v0 v1 c u h tk own hin ⟨t, rfl, hv⟩ hi' hnw' hown F' N'
    obtain ⟨o1, o2, rfl⟩ := own2 hown
    exact turn i t v1 c u h tk o1 o2 hin hv hi' (fun p hp => ⟨fun q => hnw' p hp (q ▸ List.mem_cons_self ..), fun q => hnw' p hp (q ▸ List.mem_cons_of_mem _ (List.mem_cons_self ..))⟩) F' N'

/-- over a tuple of pairs that were there before -/
theorem for_pairs {σ : Type} {x0 x1 : Str} {p0 p1 pt : Pos} {kk : Nat} {body orelse : List Stmt} {ax : Addr} {Ts : List Addr} {va vb : Nat → Value} {m₀ : Str → Option Value} 
    (Led : σ → List (Addr × Obj)) (ps : σ → List (Str × Value)) (Inv : Nat → σ → Prop) (Fin : σ → Prop) (c₀ : σ)
    (hh : A.handled = none) (hT : h₀.IsTuple ax (Ts.map Value.ref).toArray) (hTs : ∀ j T, Ts[j]? = some T → h₀.IsTuple T #[va j, vb j])
    (F : Fr h₀ env.locals s.heap m₀) (N : News h₀ env.locals s.heap (Led c₀)) (hi : Inv 0 c₀) (hk : ∀ p ∈ ps c₀, m₀ p.1 = some p.2)
    (turn : ∀ j (c : σ) (u : Str → Option Value) h tk I oI, j < Ts.length → Inv j c → (∀ p ∈ Led c, p.1 ≠ I) → Fr h₀ env.locals h (fun y => if y = x1 then some (vb j) else if y = x0 then some (va j) else fmap u (ps c) y) → News h₀ env.locals h (Led c ++ [(I, oI)]) →
      wpAny (model prog w) A (execs body env) (FTEndW h₀ env.locals s Led ps [(I, oI)] [I] (Inv (j + 1)) Fin Q) E { s with heap := h, toks := tk })
    (els : ∀ (c : σ) (u : Str → Option Value) h tk, Inv Ts.length c → Fr h₀ env.locals h (fmap u (ps c)) → News h₀ env.locals h (Led c) → wpAny (model prog w) A (execs orelse env) (ElseEnd h₀ env.locals s Led ps Fin Q) E { s with heap := h, toks := tk })
    (done : ∀ (c : σ) (u : Str → Option Value) h tk, Fin c → Fr h₀ env.locals h (fmap u (ps c)) → News h₀ env.locals h (Led c) → Q .next { s with heap := h, toks := tk })
    (hx0 : env.kindOf x0 = some .local) (hx1 : env.kindOf x1 = some .local) (hp : (env.scope.kind == .class || (env.scope.kind == .module && env.locals != env.globals)) = false) (hE : PassesOwn (model prog w) A env E) :
    wpAny (model prog w) A (pyIter (.ref ax)) (fun itv s₂ => LoopHere prog w A E env (.Tuple [.Name x0 p0, .Name x1 p1] kk pt) body orelse Q itv s₂) E s := by
  refine wpAny_pyIter_tuple (hT.at fun o e => F.keep _ o e) ?_
  have hold : ∀ b o, h₀.get? b = some o → b < s.heap.objs.size := fun b o e => Heap.lt_size (F.keep b o e)
  have hl0 : ∀ b o, h₀.get? b = some o → env.locals ≠ b := fun b o e q => absurd (Heap.lt_size e) (by rw [← q]; exact Nat.not_lt.mpr F.above)
  have hIt : ∀ j T, Ts[j]? = some T → T < s.heap.objs.size := fun j T hj => by obtain ⟨o, ho, _⟩ := hTs j T hj; exact hold _ _ ho
  have hIa : ax < s.heap.objs.size := by obtain ⟨o, ho, _⟩ := hT; exact hold _ _ ho
  have up : ∀ b o, h₀.get? b = some o → (s.heap.push { cls := .type "tuple_iterator", data := .fields #[.ref ax, .int 0 0] }).get? b = some o := fun b o e => Heap.get?_push_of_some _ (F.keep b o e)
  refine for2 (n := Ts.length) (P2 := fun j v0 v1 => v0 = va j ∧ v1 = vb j) Led ps Inv Fin c₀ hh
    (walksU_tuple2 hh s.heap.objs.size ax (Nat.ne_of_lt hIa) Ts (fun hm => by obtain ⟨j, hj⟩ := List.mem_iff_getElem?.mp hm; exact absurd (hIt j _ hj) (Nat.lt_irrefl _)) (fun j => #[va j, vb j]))
    ⟨⟨⟨_, Heap.get?_push_size _ rfl, rfl, rfl⟩, hT.at fun o e => up _ o e⟩, fun j T hj => (hTs j T hj).at fun o e => up _ o e⟩ ?_ ?_ ?_ ?_ ?_ ?_ (F.push _) (fun p hp => ⟨Heap.get?_push_of_some _ (N p hp).1, (N p hp).2⟩) hi hk ?_ els done hx0 hx1 hp hE
  · intro b hb
    rw [List.mem_singleton.mp hb]
    exact next_is_new F
  · intro hm
    rcases List.mem_cons.mp hm with e | hm
    · exact absurd F.ns.lt (by rw [e]; exact Nat.lt_irrefl _)
    rcases List.mem_cons.mp hm with e | hm
    · obtain ⟨o, ho, _⟩ := hT
      exact hl0 _ _ ho e
    · obtain ⟨j, hj⟩ := List.mem_iff_getElem?.mp hm
      obtain ⟨o, ho, _⟩ := hTs j _ hj
      exact hl0 _ _ ho rfl
  · rintro i h ⟨⟨⟨o, h2, _⟩, _⟩, _⟩ b hb
    rw [List.mem_singleton.mp hb]
    exact ⟨_, h2⟩
  · intro b hm
    rcases List.mem_cons.mp hm with rfl | hm
    · exact .inl (by simp)
    rcases List.mem_cons.mp hm with rfl | hm
    · obtain ⟨o, ho, _⟩ := hT
      exact .inr (.inl ⟨o, ho⟩)
    · obtain ⟨j, hj⟩ := List.mem_iff_getElem?.mp hm
      obtain ⟨o, ho, _⟩ := hTs j _ hj
      exact .inr (.inl ⟨o, ho⟩)
  · intro p hp hm
    exact absurd (Heap.lt_size (N p hp).1) (by rw [List.mem_singleton.mp hm]; exact Nat.lt_irrefl _)
  · rintro i vals ⟨hi', rfl⟩
    exact ⟨_, _, rfl, rfl, rfl⟩
  · rintro i v0 v1 c u h tk own hin ⟨rfl, rfl⟩ hi' hnw' hown F' N'
    obtain ⟨o1, rfl⟩ := own1 hown
    exact turn i c u h tk _ o1 hin hi' (fun p hp q => hnw' p hp (q ▸ List.mem_cons_self ..)) F' N'
end
end Mine
end

section
open PySem PySem.W PySem.Spec PySem.Calls PyProof.Rows
set_option maxRecDepth 100000
set_option maxHeartbeats 8000000
namespace Mine
theorem begin_L2H : True := by
  w_top off
  exact True.intro

theorem ifmt_c (w : World) (led : List (Addr × Obj)) (k : Int) (t : Tok) :
    Spec w 64 1 led [.int k t] (fun v led' => (∃ t', v = .int (Builtin.bitAnd k 61440) t') ∧ led' = led) := by
  unfold Spec
  k_fill
  intro mean mg mb dp un gd cn cs a ccd cl outer A₀ base h₀ L m s Q E B F X N T hk' hd hu hret
  refine wpAny_call ?_
  k_dflt cell_enter
  k_steps
  exact hret _ _ _ _ (by assumption) (by assumption) ⟨⟨_, rfl⟩, rfl⟩

/-- the table: each row's address, each pair's address, bits, sign -/
noncomputable def mtab : List (Addr × List (Addr × Nat × Tok × Str × Tok)) := [
  (72, [(65, 40960, 303, Str.ofString "l", 331), (66, 49152, 305, Str.ofString "s", 332), (67, 32768, 299, Str.ofString "-", 333), (68, 24576, 297, Str.ofString "b", 334), (69, 16384, 293, Str.ofString "d", 335), (70, 8192, 295, Str.ofString "c", 336), (71, 4096, 301, Str.ofString "p", 337)]),
  (74, [(73, 256, 313, Str.ofString "r", 338)]),
  (76, [(75, 128, 315, Str.ofString "w", 339)]),
  (80, [(77, 2112, 340, Str.ofString "s", 341), (78, 2048, 307, Str.ofString "S", 342), (79, 64, 317, Str.ofString "x", 343)]),
  (82, [(81, 32, 319, Str.ofString "r", 344)]),
  (84, [(83, 16, 321, Str.ofString "w", 345)]),
  (88, [(85, 1032, 346, Str.ofString "s", 347), (86, 1024, 309, Str.ofString "S", 348), (87, 8, 323, Str.ofString "x", 349)]),
  (90, [(89, 4, 325, Str.ofString "r", 350)]),
  (92, [(91, 2, 327, Str.ofString "w", 351)]),
  (96, [(93, 513, 352, Str.ofString "t", 353), (94, 512, 311, Str.ofString "T", 354), (95, 1, 329, Str.ofString "x", 355)])]

theorem tab_top {w : World} {h : Heap} (X : (hd.heap_39 w.params).In h) : h.IsTuple 97 ((mtab.map (·.1)).map Value.ref).toArray := ⟨_, X 97 _ rfl, rfl, _, rfl⟩
set_option maxHeartbeats 4000000 in
theorem tab_rows {w : World} {h : Heap} (X : (hd.heap_39 w.params).In h) : ∀ r ∈ mtab, h.IsTuple r.1 ((r.2.map (·.1)).map Value.ref).toArray ∧ ∀ q ∈ r.2, h.IsTuple q.1 #[.int (q.2.1 : Int) q.2.2.1, .str q.2.2.2.1 q.2.2.2.2] := by
  intro r hr
  simp only [mtab, List.mem_cons, List.not_mem_nil, or_false] at hr
  rcases hr with rfl | rfl | rfl | rfl | rfl | rfl | rfl | rfl | rfl | rfl
  all_goals
    refine ⟨⟨_, X _ _ rfl, rfl, _, rfl⟩, fun q hq => ?_⟩
    simp only [List.mem_cons, List.not_mem_nil, or_false] at hq
    first
    | (subst hq; exact ⟨_, X _ _ rfl, rfl, _, rfl⟩)
    | (rcases hq with rfl | rfl | rfl <;> exact ⟨_, X _ _ rfl, rfl, _, rfl⟩)
    | (rcases hq with rfl | rfl | rfl | rfl | rfl | rfl | rfl <;> exact ⟨_, X _ _ rfl, rfl, _, rfl⟩)

/-- does a pair of row i fit -/
noncomputable def fits (f i b : Nat) : Bool := if i = 0 then (32768 + f) &&& 61440 == b else (32768 + f) &&& b == b
noncomputable def rowL (i : Nat) : List (Addr × Nat × Tok × Str × Tok) := (mtab.getD i (0, [])).2
noncomputable def chAt (f i : Nat) : Str := match (rowL i).find? fun q => fits f i q.2.1 with
  | some q => q.2.2.2.1
  | none => if i = 0 then Str.ofString "?" else Str.ofString "-"
noncomputable def modeCh (f i : Nat) : List Str := (List.range i).map (chAt f)
theorem modeCh_succ (f i : Nat) : modeCh f (i + 1) = modeCh f i ++ [chAt f i] := by
  unfold modeCh
  rw [List.range_succ, List.map_append]
  rfl
theorem modeCh_len (f i : Nat) : (modeCh f i).length = i := by simp [modeCh]
noncomputable def sgn (i : Nat) : Str := (["?", "r", "w", "x", "r", "w", "x", "r", "w", "x"].map Str.ofString).getD i (Str.ofString "")
theorem chAt_is : ∀ f < 512, ∀ i < 10, chAt f i = if i = 0 then Str.ofString "-" else if f.testBit (9 - i) then sgn i else Str.ofString "-" := by decide +kernel
theorem modeCh_sum : ∀ f < 512, ((modeCh f 10).map (·.length)).sum + (modeCh f 10).length * 64 ≤ 1000 := by decide +kernel

theorem find_hit {α : Type} {p : α → Bool} {l : List α} {j : Nat} {q : α} (h : ∀ i < j, ∀ r, l[i]? = some r → p r = false) (hq : l[j]? = some q) (hp : p q = true) : l.find? p = some q := by
  induction l generalizing j with
  | nil => simp at hq
  | cons a r ih =>
    cases j with
    | zero =>
      simp only [List.getElem?_cons_zero, Option.some.injEq] at hq
      subst hq
      rw [List.find?_cons, hp]
    | succ j =>
      rw [List.find?_cons, h 0 (Nat.succ_pos _) a rfl]
      exact ih (fun i hi r hr => h (i + 1) (Nat.succ_lt_succ hi) r hr) hq
theorem find_none {α : Type} {p : α → Bool} {l : List α} (h : ∀ i < l.length, ∀ r, l[i]? = some r → p r = false) : l.find? p = none := by
  rw [List.find?_eq_none]
  intro x hx
  obtain ⟨j, hj⟩ := List.mem_iff_getElem?.mp hx
  have hjl : j < l.length := by
    rcases Nat.lt_or_ge j l.length with h | h
    · exact h
    · rw [List.getElem?_eq_none h] at hj
      cases hj
  rw [h j hjl x hj]
  decide
end Mine
end

section
open PySem PySem.W PySem.Spec PySem.Calls PyProof.Rows
set_option maxRecDepth 100000
set_option maxHeartbeats 8000000
namespace Mine
local macro_rules | `(tactic| walk_at "exec For Tuple Call cons nil") => `(tactic| (k_dflt (refine Mine.for_held ?_ (by intro _; rfl))))
local macro_rules | `(tactic| walk_at "exec For Tuple Name cons cons") => `(tactic| (k_dflt (refine Mine.for_held ?_ (by intro _; rfl))))
local macro_rules | `(tactic| walk_at "newList") => `(tactic| (refine Mine.Held.mk ?_))
local macro_rules | `(tactic| walk_at "call type:enumerate") => `(tactic| (refine Mine.Held.mk ?_))
local macro_rules | `(tactic| walk_at "call builtin:list.append") => `(tactic| (refine Mine.Held.mk ?_))
local macro_rules | `(tactic| walk_at "call builtin:str.join") => `(tactic| (refine Mine.Held.mk ?_))
local macro_rules | `(tactic| walk_at "call ref") => `(tactic| (refine Mine.Held.mk ?_))
theorem begin_L2I : True := by
  w_top off
  exact True.intro

theorem filemode_c (w : World) (led : List (Addr × Obj)) (f : Nat) (t0 : Tok) (hf : f < 512) :
    Spec w 104 2 led [.int ((32768 + f : Nat) : Int) t0]
      (fun v led' => ∃ t, v = .str (Txt.join (Str.ofString "") (modeCh f 10)) t ∧ led' = led) := by
  unfold Spec
  k_fill
  intro mean mg mb dp un gd cn cs a ccd cl outer A₀ base h₀ L m s Q E B F X N T hk' hd hu hret
  refine wpAny_call ?_
  k_dflt cell_enter
  k_steps
  refine Held.out ?_
  rename Fr _ _ _ _ => F1
  rename News _ _ _ _ => N1
  refine newList_K F1 N1 fun a3 h3 F3 N3 hl3 => ?_
  k_steps
  refine Held.out ?_
  rename Fr _ _ _ _ => F4
  rename News _ _ _ _ => N4
  rename Frag.In _ _ => X1
  have hT0 := tab_top X1
  refine enum_N F4 N4 (hT0.at fun o e => F4.keep _ o e) ?_
  intro e it h5 he5 hi5 hT5 F5 N5 hE0 hI0 heL hiL hei hea hia hap5
  k_steps
  refine Held.out ?_
  rename Fr _ _ _ _ => F6
  rename News _ _ _ _ => N6
  refine for_enumT (σ := List Value × List Str × Nat)
    (fun c => (a3, listOf c.1.toArray c.2.2) :: led)
    (fun c => [(Str.ofString "perm", .ref a3), (Str.ofString "mode", .int ((32768 + f : Nat) : Int) t0)])
    (fun i c => StrsAre c.1 c.2.1 ∧ c.2.1 = modeCh f i)
    (fun c => StrsAre c.1 c.2.1 ∧ c.2.1 = modeCh f 10) ([], [], 0) rfl he5 hi5 hT5 (by obtain ⟨o, ho, _⟩ := hT0; exact ⟨o, ho⟩) hE0 hI0 heL hiL hei hea hia hap5 F6 N6 ⟨.nil, rfl⟩ (by kst_all) ?turn ?els ?done rfl rfl rfl (by with_unfolding_all passes_own)
  case turn =>
    rintro i t v1 ⟨us, ss, ee⟩ u h tk o1 o2 hin hv ⟨hus, hss⟩ hne F7 N7
    dsimp only [fmap] at F7 N7 hus hss hne ⊢
    generalize hP1 : FTEndW _ _ _ _ _ _ _ _ _ _ = P1
    revert P1
    refine Held.mk (Held.out ?_)
    intro P1 hP1
    have hi10 : i < 10 := hin
    obtain ⟨r, hr, hv1⟩ : ∃ r, mtab[i]? = some r ∧ v1 = .ref r.1 := by
      have hil : i < mtab.length := hi10
      refine ⟨mtab[i], List.getElem?_eq_getElem hil, ?_⟩
      simp only [List.getElem?_toArray, List.getElem?_map, List.getElem?_eq_getElem hil, Option.map_some, Option.some.injEq] at hv
      exact hv.symm
    subst hv1
    have hrL : r.2 = rowL i := by
      unfold rowL
      rw [List.getD_eq_getElem?_getD, hr]
      rfl
    obtain ⟨hTr, hTq⟩ := tab_rows X1 r (List.mem_of_getElem? hr)
    have hap : ∀ p ∈ led ++ [(e, o1), (it, o2)], p.1 ≠ a3 := by
      intro p hp
      rcases List.mem_append.mp hp with hp | hp
      · exact Nat.ne_of_lt (hl3 _ hp)
      · have := hne _ (.head _)
        rcases List.mem_cons.mp hp with rfl | hp
        · exact this.1.symm
        · rw [List.mem_singleton.mp hp]
          exact this.2.symm
    have hul := hus.length
    have hsl := modeCh_len f i
    rw [← hss] at hsl
    k_steps
    refine Held.out ?_
    rename Fr _ _ _ _ => F8
    rename News _ _ _ _ => N8
    refine for_pairs (Ts := r.2.map (·.1)) (va := fun j => .int ((r.2.getD j (0, 0, 0, Str.ofString "", 0)).2.1 : Int) (r.2.getD j (0, 0, 0, Str.ofString "", 0)).2.2.1) (vb := fun j => .str (r.2.getD j (0, 0, 0, Str.ofString "", 0)).2.2.2.1 (r.2.getD j (0, 0, 0, Str.ofString "", 0)).2.2.2.2)
      (σ := List Value × List Str × Nat)
      (fun c => (a3, listOf c.1.toArray c.2.2) :: (led ++ [(e, o1), (it, o2)]))
      (fun c => [(Str.ofString "perm", .ref a3), (Str.ofString "mode", .int ((32768 + f : Nat) : Int) t0), (Str.ofString "index", .int (i : Int) t)])
      (fun j c => c.1.length = i ∧ StrsAre c.1 c.2.1 ∧ c.2.1 = modeCh f i ∧ ∀ j' < j, ∀ q, r.2[j']? = some q → fits f i q.2.1 = false)
      (fun c => StrsAre c.1 c.2.1 ∧ c.2.1 = modeCh f (i + 1)) (us, ss, ee) rfl hTr ?tabs F8 N8 ⟨hul.trans hsl, hus, hss, fun j' h => absurd h (Nat.not_lt_zero _)⟩ (by kst_all) ?turn2 ?els2 ?done2 rfl rfl rfl (by with_unfolding_all passes_own)
    case tabs =>
      intro j T hj
      rw [List.getElem?_map] at hj
      cases hq : r.2[j]? with
      | none => rw [hq] at hj; cases hj
      | some q =>
        rw [hq] at hj
        cases hj
        have := hTq q (List.mem_of_getElem? hq)
        simp only [List.getD_eq_getElem?_getD, hq, Option.getD_some]
        exact this
    case turn2 =>
      rintro j ⟨us, ss, ee⟩ u h tk I oI hjn ⟨hul, hus, hss, hno⟩ hne2 F9 N9
      dsimp only [fmap] at F9 N9 hus hss hne2 hul ⊢
      generalize hP2 : FTEndW _ _ _ _ _ _ _ _ _ _ = P2
      revert P2
      refine Held.mk (Held.out ?_)
      intro P2 hP2
      rw [List.length_map] at hjn
      have hq : r.2[j]? = some r.2[j] := List.getElem?_eq_getElem hjn
      generalize r.2[j] = q at hq
      have hqd : r.2.getD j (0, 0, 0, Str.ofString "", 0) = q := by rw [List.getD_eq_getElem?_getD, hq]; rfl
      rw [hqd] at F9
      obtain ⟨qa, qb, qt, qc, qt2⟩ := q
      dsimp only at F9
      have hIa : a3 ≠ I := hne2 _ (.head _)
      have hap2 : ∀ p ∈ (led ++ [(e, o1), (it, o2)]) ++ [(I, oI)], p.1 ≠ a3 := by
        intro p hp
        rcases List.mem_append.mp hp with hp | hp
        · exact hap p hp
        · rw [List.mem_singleton.mp hp]
          exact hIa.symm
      have hit : fits f i qb = true → chAt f i = qc := by
        intro hf1
        unfold chAt
        rw [← hrL, find_hit (q := (qa, qb, qt, qc, qt2)) hno hq hf1]
      have hmiss : fits f i qb = false → ∀ j' < j + 1, ∀ q, r.2[j']? = some q → fits f i q.2.1 = false := by
        intro hf1 j' hj' q' hq'
        rcases Nat.lt_succ_iff_lt_or_eq.mp hj' with h | rfl
        · exact hno j' h q' hq'
        · rw [hq] at hq'
          cases hq'
          exact hf1
      k_steps
      · rename (i : Int) = 0 => hi0
        have hi0' : i = 0 := by omega
        refine Held.out ?_
        rename Fr _ _ _ _ => G0
        rename News _ _ _ _ => M0
        refine Spec.use (ifmt_c w _ _ _) (by assumption) G0 (by assumption) M0 (by assumption) rfl (by ktr_room) (by ktr_units) ?_
        rintro v led' h' tk' G1 M1 ⟨⟨t8, rfl⟩, rfl⟩
        have e1 : Builtin.bitAnd ((32768 + f : Nat) : Int) 61440 = (((32768 + f) &&& 61440 : Nat) : Int) := bitAnd_nat _ _
        k_steps
        · rename Builtin.bitAnd _ _ = _ => hb
          have hyes : fits f i qb = true := by
            rw [e1] at hb
            have hb2 := Int.ofNat.inj hb
            unfold fits
            rw [if_pos hi0', beq_iff_eq]
            exact hb2
          rename Fr _ _ _ _ => G1
          rename News _ _ _ _ => M1
          refine Held.out (append_K G1 M1 (.head hap2) (fun h9 F9 N9 => ?_) (by rw [List.size_toArray, PySem.sizeLine_eq]; omega))
          k_steps
          rename Fr _ _ _ _ => F10
          rename News _ _ _ _ => N10
          simp only [List.push_toArray] at N10
          rw [← hP2]
          dsimp only [FTEndW]
          refine LEnd.intro (us ++ [Value.str qc qt2], ss ++ [qc], ee + 1) F10 N10 ⟨hus.append' (.cons _ _ .nil), by rw [hss, modeCh_succ, hit hyes]⟩ (fun p hp => ?_) (by kst_all)
          rcases List.mem_cons.mp hp with rfl | hp
          · exact .head _
          · exact .tail _ (List.mem_append.mpr (.inl hp))
        · rename Builtin.bitAnd _ _ ≠ _ => hb
          have hno2 : fits f i qb = false := by
            rw [e1] at hb
            unfold fits
            rw [if_pos hi0', beq_eq_false_iff_ne]
            exact fun q => hb (congrArg Int.ofNat q)
          rename Fr _ _ _ _ => F10
          rename News _ _ _ _ => N10
          rw [← hP2]
          dsimp only [FTEndW]
          refine FEndW.intro (us, ss, ee) F10 N10 ⟨hul, hus, hss, hmiss hno2⟩ (by simp) (fun p hp => ?_) (fun p hp => by simpa using hne2 p hp) (by kst_all)
          rcases List.mem_cons.mp hp with rfl | hp
          · exact .head _
          · exact .tail _ (List.mem_append.mpr (.inl hp))
      · rename (i : Int) ≠ 0 => hi0
        rename Builtin.bitAnd _ _ = _ => hb
        have hi0' : i ≠ 0 := by omega
        have hyes : fits f i qb = true := by
          rw [bitAnd_nat] at hb
          have hb2 := Int.ofNat.inj hb
          unfold fits
          rw [if_neg hi0', beq_iff_eq]
          exact hb2
        rename Fr _ _ _ _ => G1
        rename News _ _ _ _ => M1
        refine Held.out (append_K G1 M1 (.head hap2) (fun h9 F9 N9 => ?_) (by rw [List.size_toArray, PySem.sizeLine_eq]; omega))
        k_steps
        rename Fr _ _ _ _ => F10
        rename News _ _ _ _ => N10
        simp only [List.push_toArray] at N10
        rw [← hP2]
        dsimp only [FTEndW]
        refine LEnd.intro (us ++ [Value.str qc qt2], ss ++ [qc], ee + 1) F10 N10 ⟨hus.append' (.cons _ _ .nil), by rw [hss, modeCh_succ, hit hyes]⟩ (fun p hp => ?_) (by kst_all)
        rcases List.mem_cons.mp hp with rfl | hp
        · exact .head _
        · exact .tail _ (List.mem_append.mpr (.inl hp))
      · rename (i : Int) ≠ 0 => hi0
        rename Builtin.bitAnd _ _ ≠ _ => hb
        have hi0' : i ≠ 0 := by omega
        have hno2 : fits f i qb = false := by
          rw [bitAnd_nat] at hb
          unfold fits
          rw [if_neg hi0', beq_eq_false_iff_ne]
          exact fun q => hb (congrArg Int.ofNat q)
        rename Fr _ _ _ _ => F10
        rename News _ _ _ _ => N10
        rw [← hP2]
        dsimp only [FTEndW]
        refine FEndW.intro (us, ss, ee) F10 N10 ⟨hul, hus, hss, hmiss hno2⟩ (by simp) (fun p hp => ?_) (fun p hp => by simpa using hne2 p hp) (by kst_all)
        rcases List.mem_cons.mp hp with rfl | hp
        · exact .head _
        · exact .tail _ (List.mem_append.mpr (.inl hp))
    case els2 =>
      rintro ⟨us, ss, ee⟩ u h tk ⟨hul, hus, hss, hno⟩ F9 N9
      dsimp only [fmap] at F9 N9 hus hss hul ⊢
      have hnone : chAt f i = if i = 0 then Str.ofString "?" else Str.ofString "-" := by
        unfold chAt
        rw [← hrL, find_none]
        intro j' hj' q hq
        exact hno j' (by rw [List.length_map]; exact hj') q hq
      have hap3 : ∀ p ∈ (led ++ [(e, o1), (it, o2)]), p.1 ≠ a3 := hap
      k_steps
      · rename (i : Int) = 0 => hi0
        have hi0' : i = 0 := by omega
        rw [if_pos hi0'] at hnone
        rename Fr _ _ _ _ => G1
        rename News _ _ _ _ => M1
        refine Held.out (append_K G1 M1 (.head hap3) (fun h9 F9 N9 => ?_) (by rw [List.size_toArray, PySem.sizeLine_eq]; omega))
        k_steps
        rename Fr _ _ _ _ => F10
        rename News _ _ _ _ => N10
        simp only [List.push_toArray] at N10
        dsimp only [ElseEnd]
        exact LEnd.intro (us ++ [Value.str (Str.ofString "?") _], ss ++ [Str.ofString "?"], ee + 1) F10 N10 ⟨hus.append' (.cons _ _ .nil), by rw [hss, modeCh_succ, hnone]⟩ (fun _ h => h) (by kst_all)
      · rename (i : Int) ≠ 0 => hi0
        have hi0' : i ≠ 0 := by omega
        rw [if_neg hi0'] at hnone
        rename Fr _ _ _ _ => G1
        rename News _ _ _ _ => M1
        refine Held.out (append_K G1 M1 (.head hap3) (fun h9 F9 N9 => ?_) (by rw [List.size_toArray, PySem.sizeLine_eq]; omega))
        k_steps
        rename Fr _ _ _ _ => F10
        rename News _ _ _ _ => N10
        simp only [List.push_toArray] at N10
        dsimp only [ElseEnd]
        exact LEnd.intro (us ++ [Value.str (Str.ofString "-") _], ss ++ [Str.ofString "-"], ee + 1) F10 N10 ⟨hus.append' (.cons _ _ .nil), by rw [hss, modeCh_succ, hnone]⟩ (fun _ h => h) (by kst_all)
    case done2 =>
      rintro ⟨us, ss, ee⟩ u h tk ⟨hus, hss⟩ F9 N9
      dsimp only [fmap] at F9 N9 hus hss ⊢
      k_steps
      rw [← hP1]
      dsimp only [FTEndW]
      refine FEndW.intro (us, ss, ee) F9 N9 ⟨hus, hss⟩ (fun p hp => .tail _ (List.mem_append.mpr (.inr hp))) (fun p hp => ?_) (fun p hp => ?_) (by kst_all)
      · rcases List.mem_cons.mp hp with rfl | hp
        · exact .head _
        · exact .tail _ (List.mem_append.mpr (.inl hp))
      · rcases List.mem_cons.mp hp with rfl | hp
        · have := hne _ (.head _)
          simp [this.1, this.2]
        · have := hne p (.tail _ hp)
          simp [this.1, this.2]
  case els =>
    rintro ⟨us, ss, ee⟩ u h tk ⟨hus, hss⟩ F7 N7
    exact els_nil ⟨hus, hss⟩ F7 N7 (by kst_all)
  case done =>
    rintro ⟨us, ss, ee⟩ u h tk ⟨hus, hss⟩ F7 N7
    dsimp only [fmap] at F7 N7 hus hss ⊢
    have hsl := modeCh_sum f hf
    k_steps
    rename News _ _ _ _ => N8
    refine Held.out (join_listC (PySem.IsL.isList (n := ee) (N8 _ (.head _)).1) (by simpa using hus) (by decide) (by rw [hss]; omega) fun t9 k9 => ?_)
    k_steps
    exact hret _ _ _ _ (by assumption) (fun p hp => (by assumption : News _ _ _ _) p (.tail _ hp)) ⟨_, by rw [hss], rfl⟩
end Mine
end

section
open PySem PySem.W PySem.Spec PySem.Calls PyProof.Rows
set_option maxRecDepth 100000
namespace Mine
section
variable {prog : Program} {w : World} {A : Around} {h₀ : Heap} {L : Addr} {m : Str → Option Value} {env : Env} {elt : PySem.Expr} {x : Str} {scope : Scope} {cl : List (Str × Addr)} {s : Shared} {S : List (Addr × Obj) → Prop} {P : Nat → Value → Prop} {Fin : List Value → List (Addr × Obj) → Prop} {news : List (Addr × Obj)}
/-- a comprehension whose ledger grows -/
theorem comp_rest {n : Nat} (Inv : Nat → List Value → List (Addr × Obj) → Prop) (h0 : Inv 0 [] news)
    (turn : ∀ i v ys nw I oI C oC D m₂ h tk (E' : Value → Shared → Prop), i < n → P i v → Inv i ys nw → LCg.NsObj oC m₂ → m₂ x = some v → Fr h₀ L h m → News h₀ L h ((I, oI) :: (C, oC) :: (D, LCg.lst ys) :: nw) → LCg.Off3 I C D nw → ((@Ne Nat I C) ∧ (@Ne Nat I D) ∧ (@Ne Nat C D)) →
      wpAny (model prog w) A (eval elt (compEnvC scope cl C env)) (LCg.CompEnd h₀ L m { s with heap := h, toks := tk } I oI C oC D (LCg.lst ys) S (fun y nw' => Inv (i + 1) (ys ++ [y]) nw')) E' { s with heap := h, toks := tk })
    (fin : ∀ ys nw, Inv n ys nw → Fin ys nw) : LCg.CompRest prog w A h₀ L m env elt x scope cl s S P Fin n 0 [] news := by
  have key : ∀ (j i : Nat) (ys : List Value) (nw : List (Addr × Obj)), i + j = n → Inv i ys nw → LCg.CompRest prog w A h₀ L m env elt x scope cl s S P Fin j i ys nw := by
    intro j
    induction j with
    | zero =>
      intro i ys nw hi hy
      have e : i = n := by omega
      subst e
      exact LCg.CompRest.zero (fin ys nw hy)
    | succ j ih =>
      intro i ys nw hi hy
      refine LCg.CompRest.succ ?_
      intro v I oI C oC D m₂ h tk E' hv hC hx F N off ne
      refine wpAny_mono (turn i v ys nw I oI C oC D m₂ h tk E' (by omega) hv hy hC hx F N off ne) (fun y s₂ hq => ?_) fun _ _ e => e
      obtain ⟨h', tk', nw', e, F', N', off', hS, hn⟩ := hq
      exact ⟨h', tk', nw', e, F', N', off', hS, ih (i + 1) _ _ (by omega) hn⟩
  exact key n 0 [] news (by omega) h0
end
end Mine
end

section
open PySem PySem.W PySem.Spec PySem.Calls PyProof.Rows
set_option maxRecDepth 100000
namespace Mine
/-- where an element's turn ends; the ledger stays -/
noncomputable def KEnd (h₀ : Heap) (L : Addr) (m : Str → Option Value) (s : Shared) (led : List (Addr × Obj)) (Post : Value → Prop) (y : Value) (s₂ : Shared) : Prop :=
  ∃ h tk led', s₂ = { s with heap := h, toks := tk } ∧ Fr h₀ L h m ∧ News h₀ L h led' ∧ (∀ p ∈ led, p ∈ led') ∧ Post y
theorem KEnd.intro {h₀ : Heap} {L : Addr} {m : Str → Option Value} {s : Shared} {led led' : List (Addr × Obj)} {Post : Value → Prop} {y : Value} {h : Heap} {tk : Nat} (F : Fr h₀ L h m) (N : News h₀ L h led') (sub : ∀ p ∈ led, p ∈ led') (hp : Post y) :
    KEnd h₀ L m s led Post y { s with heap := h, toks := tk } := ⟨h, tk, led', rfl, F, N, sub, hp⟩
/-- where an element's test ends -/
noncomputable def KTst (prog : Program) (w : World) (A : Around) (E : Value → Shared → Prop) (elt : PySem.Expr) (env : Env) (h₀ : Heap) (L : Addr) (m : Str → Option Value) (s : Shared) (led : List (Addr × Obj)) (Yes : Value → Prop) (No : Prop) (ok : Bool) (s₂ : Shared) : Prop :=
  if ok = true then wpAny (model prog w) A (eval elt env) (KEnd h₀ L m s led Yes) E s₂ else KEnd h₀ L m s led (fun _ => No) Value.none s₂
section
variable {prog : Program} {w : World} {A : Around} {E : Value → Shared → Prop} {h₀ : Heap} {L : Addr} {m : Str → Option Value} {env : Env} {ct elt : PySem.Expr} {x : Str} {scope : Scope} {cl : List (Str × Addr)} {s : Shared} {S : List (Addr × Obj) → Prop} {P : Nat → Value → Prop} {Fin : List Value → List (Addr × Obj) → Prop} {news : List (Addr × Obj)}
theorem KTst.yes {led : List (Addr × Obj)} {Yes : Value → Prop} {No : Prop} {ok : Bool} {s₂ : Shared} (e : ok = true) (h : wpAny (model prog w) A (eval elt env) (KEnd h₀ L m s led Yes) E s₂) : KTst prog w A E elt env h₀ L m s led Yes No ok s₂ := by
  unfold KTst; rw [if_pos e]; exact h
theorem KTst.no {led led' : List (Addr × Obj)} {Yes : Value → Prop} {No : Prop} {ok : Bool} {h : Heap} {tk : Nat} (e : ok = false) (F : Fr h₀ L h m) (N : News h₀ L h led') (sub : ∀ p ∈ led, p ∈ led') (hp : No) :
    KTst prog w A E elt env h₀ L m s led Yes No ok { s with heap := h, toks := tk } := by
  unfold KTst; rw [if_neg (by rw [e]; exact Bool.false_ne_true)]; exact KEnd.intro F N sub hp
/-- a comprehension whose ledger stays -/
theorem comp_keep {n : Nat} (Inv : Nat → List Value → Prop) (hS : S news) (h0 : Inv 0 [])
    (turn : ∀ i v ys I oI C oC D m₂ h tk (E' : Value → Shared → Prop), i < n → P i v → Inv i ys → LCg.NsObj oC m₂ → m₂ x = some v → Fr h₀ L h m → News h₀ L h ((I, oI) :: (C, oC) :: (D, LCg.lst ys) :: news) →
      wpAny (model prog w) A (eval elt (compEnvC scope cl C env)) (KEnd h₀ L m { s with heap := h, toks := tk } ((I, oI) :: (C, oC) :: (D, LCg.lst ys) :: news) (fun y => Inv (i + 1) (ys ++ [y]))) E' { s with heap := h, toks := tk })
    (fin : ∀ ys, Inv n ys → Fin ys news) : LCg.CompRest prog w A h₀ L m env elt x scope cl s S P Fin n 0 [] news := by
  refine comp_rest (fun i ys nw => nw = news ∧ Inv i ys) ⟨rfl, h0⟩ ?_ fun ys nw hq => by obtain ⟨rfl, hq⟩ := hq; exact fin ys hq
  rintro i v ys nw I oI C oC D m₂ h tk E' hi hv ⟨rfl, hy⟩ hC hx F N off ne
  refine wpAny_mono (turn i v ys I oI C oC D m₂ h tk E' hi hv hy hC hx F N) (fun y s₂ hq => ?_) fun _ _ e => e
  obtain ⟨h', tk', led', rfl, F', N', sub, hp⟩ := hq
  exact ⟨h', tk', nw, rfl, F', fun p hp => N' p (sub p hp), off, hS, rfl, hp⟩
/-- the same with one test -/
theorem comp_keepT {n : Nat} (Inv : Nat → List Value → Prop) (hS : S news) (h0 : Inv 0 [])
    (turn : ∀ i v ys I oI C oC D m₂ h tk (E' : Value → Shared → Prop), i < n → P i v → Inv i ys → LCg.NsObj oC m₂ → m₂ x = some v → Fr h₀ L h m → News h₀ L h ((I, oI) :: (C, oC) :: (D, LCg.lst ys) :: news) →
      wpAny (model prog w) A (isTrue ct (compEnvC scope cl C env) (eval ct (compEnvC scope cl C env))) (KTst prog w A E' elt (compEnvC scope cl C env) h₀ L m { s with heap := h, toks := tk } ((I, oI) :: (C, oC) :: (D, LCg.lst ys) :: news) (fun y => Inv (i + 1) (ys ++ [y])) (Inv (i + 1) ys)) E' { s with heap := h, toks := tk })
    (fin : ∀ ys, Inv n ys → Fin ys news) : LCt.CompRestT prog w A h₀ L m env ct elt x scope cl s S P Fin n 0 [] news := by
  have key : ∀ (j i : Nat) (ys : List Value), i + j = n → Inv i ys → LCt.CompRestT prog w A h₀ L m env ct elt x scope cl s S P Fin j i ys news := by
    intro j
    induction j with
    | zero =>
      intro i ys hi hy
      have e : i = n := by omega
      subst e
      exact LCt.CompRestT.zero (fin ys hy)
    | succ j ih =>
      intro i ys hi hy
      refine LCt.CompRestT.succ ?_
      intro v I oI C oC D m₂ h tk E' hv hC hx F N off ne
      refine wpAny_mono (turn i v ys I oI C oC D m₂ h tk E' (by omega) hv hy hC hx F N) (fun ok s₂ hq => ?_) fun _ _ e => e
      unfold KTst at hq
      split at hq
      · rename_i e
        rw [if_pos e]
        refine wpAny_mono hq (fun y s₃ hz => ?_) fun _ _ e => e
        obtain ⟨h', tk', led', rfl, F', N', sub, hp⟩ := hz
        exact ⟨h', tk', news, rfl, F', fun p hp => N' p (sub p hp), off, hS, ih (i + 1) _ (by omega) hp⟩
      · rename_i e
        rw [if_neg e]
        obtain ⟨h', tk', led', rfl, F', N', sub, hp⟩ := hq
        exact ⟨h', tk', news, rfl, F', fun p hp => N' p (sub p hp), off, hS, ih (i + 1) _ (by omega) hp⟩
  exact key n 0 [] (by omega) h0
end
end Mine
end

section
open PySem PySem.W PySem.Spec PySem.Calls PyProof.Rows
set_option maxRecDepth 100000
namespace Mine
section
variable {prog : Program} {w : World} {A : Around} {E : Value → Shared → Prop} {s : Shared}
theorem upd_at {d : Addr} {o o' : Obj} {post : List (Addr × Obj)} (b : ∀ p ∈ post, p.1 ≠ d) : ∀ {pre : List (Addr × Obj)}, (∀ p ∈ pre, p.1 ≠ d) → Upd d o o' (pre ++ (d, o) :: post) (pre ++ (d, o') :: post)
  | [], _ => .head b
  | p :: _, a => .tail (a p (.head _)) (upd_at b fun q hq => a q (.tail _ hq))
/-- an int is written into a list of ints -/
theorem set_int {h₀ : Heap} {L : Addr} {m : Str → Option Value} {news : List (Addr × Obj)} {g : Obj → List (Addr × Obj)} {l : Addr} {vs : List Value} {ns : List Int} {n : Nat} {k x : Int} {t u : Tok} {Q : Unit → Shared → Prop} (F : Fr h₀ L s.heap m) (N : News h₀ L s.heap news)
    (U : UpdF l (listOf vs.toArray n) news g) (hi : IntsAre vs ns) (h0 : 0 ≤ k) (h1 : k.toNat < vs.length) (hfit : k < 2 ^ 63)
    (h : ∀ h' vs', IntsAre vs' (ns.set k.toNat x) → Fr h₀ L h' m → News h₀ L h' (g (listOf vs'.toArray n)) → Q () { s with heap := h' }) : wpAny (model prog w) A (setItem (.ref l) (.int k t) (.int x u)) Q E s := by
  obtain ⟨pre, post, rfl, hg, a, b⟩ := U.split
  have U2 : Upd l (listOf vs.toArray n) (listOf (vs.set k.toNat (.int x u)).toArray n) (pre ++ (l, listOf vs.toArray n) :: post) (pre ++ (l, listOf (vs.set k.toNat (.int x u)).toArray n) :: post) := by
    exact upd_at b a
  refine set_cell F N U2 h0 h1 hfit fun h' F' N' => h h' (vs.set k.toNat (.int x u)) (ints_set hi _) F' ?_
  rw [hg]
  exact N'
end
end Mine
end

section
open PySem PySem.W PySem.Spec PySem.Calls PyProof.Rows
set_option maxRecDepth 100000
namespace Mine
section
variable {prog : Program} {w : World} {A : Around} {E : Value → Shared → Prop} {Q : Flow → Shared → Prop} {s : Shared} {env : Env} {h₀ : Heap} {L : Addr}
/-- over a list that stands -/
theorem for_list {σ : Type} {x : Str} {px : Pos} {body orelse : List Stmt} {ax : Addr} {vs : List Value} {e : Nat} {m₀ : Str → Option Value}
    (Led : σ → List (Addr × Obj)) (ps : σ → List (Str × Value)) (Inv : Nat → σ → Prop) (Fin : σ → Prop) (c₀ : σ)
    (hh : A.handled = none) (hled : ∀ i c, Inv i c → (ax, listOf vs.toArray e) ∈ Led c)
    (F : Fr h₀ env.locals s.heap m₀) (N : News h₀ env.locals s.heap (Led c₀)) (hi : Inv 0 c₀) (hk : ∀ p ∈ ps c₀, m₀ p.1 = some p.2)
    (turn : ∀ i v (c : σ) (u : Str → Option Value) h tk I oI, i < vs.length → vs[i]? = some v → Inv i c → (∀ p ∈ Led c, p.1 ≠ I) → Fr h₀ env.locals h (fun y => if y = x then some v else fmap u (ps c) y) → News h₀ env.locals h (Led c ++ [(I, oI)]) →
      wpAny (model prog w) A (execs body env) (FTEnd h₀ env.locals s Led ps (I, oI) (Inv (i + 1)) Fin Q) E { s with heap := h, toks := tk })
    (els : ∀ (c : σ) (u : Str → Option Value) h tk, Inv vs.length c → Fr h₀ env.locals h (fmap u (ps c)) → News h₀ env.locals h (Led c) → wpAny (model prog w) A (execs orelse env) (ElseEnd h₀ env.locals s Led ps Fin Q) E { s with heap := h, toks := tk })
    (done : ∀ (c : σ) (u : Str → Option Value) h tk, Fin c → Fr h₀ env.locals h (fmap u (ps c)) → News h₀ env.locals h (Led c) → Q .next { s with heap := h, toks := tk })
    (hx : env.kindOf x = some .local) (hp : (env.scope.kind == .class || (env.scope.kind == .module && env.locals != env.globals)) = false) (hE : PassesOwn (model prog w) A env E) :
    wpAny (model prog w) A (pyIter (.ref ax)) (fun it s₂ => LoopHere prog w A E env (.Name x px) body orelse Q it s₂) E s := by
  have hm := N _ (hled 0 c₀ hi)
  have hl : s.heap.IsList ax vs.toArray := PySem.IsL.isList (n := e) hm.1
  have hlt := Heap.lt_size hm.1
  refine wpAny_pyIter_list hl ?_
  have hI : h₀.get? s.heap.objs.size = none := next_is_new F
  have W := Walks.list (prog := prog) (w := w) hh s.heap.objs.size ax (Nat.ne_of_lt hlt) vs.toArray
  rw [List.size_toArray] at W
  refine forN Led ps Inv Fin c₀ (n := vs.length) W ⟨⟨_, Heap.get?_push_size _ rfl, rfl, rfl⟩, hl.push _⟩ hI
    (Nat.ne_of_gt F.ns.lt) (fun i h st => by obtain ⟨o, e, _⟩ := st.1; exact ⟨o, e⟩) (fun b hb => by
      rcases List.mem_cons.mp hb with rfl | hb
      · exact .inl rfl
      · rw [List.mem_singleton.mp hb]
        exact .inr (.inr ⟨_, hled⟩))
    (fun p hp e => absurd (Heap.lt_size (N p hp).1) (e ▸ Nat.lt_irrefl _)) (F.push _) (fun p hp => ⟨Heap.get?_push_of_some _ (N p hp).1, (N p hp).2⟩) hi hk ?_ els done hx hp hE
  rintro i v c u h tk oI hin hP hi' hne F' N'
  exact turn i v c u h tk _ oI hin (by simpa using hP) hi' hne F' N'
end
end Mine
end

section
open PySem PySem.W PySem.Spec PySem.Calls PyProof.Rows
set_option maxRecDepth 100000
namespace Mine
theorem newsSub {h₀ h : Heap} {L : Addr} {led led' : List (Addr × Obj)} (N : News h₀ L h led) (hs : ∀ p ∈ led', p ∈ led) : News h₀ L h led' := fun p hp => N p (hs p hp)
theorem allLt_memX {D : Addr} : ∀ {l : List (Addr × Obj)}, AllLt D l → ∀ p ∈ l, p.1 < D
  | [], _, _, h => nomatch h
  | _ :: _, x, p, h => by
    rcases List.mem_cons.mp h with rfl | h
    · exact x.1
    · exact allLt_memX x.2 p h
theorem off1_memX {D : Addr} : ∀ {l : List (Addr × Obj)}, LCg.Off1 D l → ∀ p ∈ l, p.1 ≠ D
  | [], _, _, h => nomatch h
  | _ :: _, x, p, h => by
    rcases List.mem_cons.mp h with rfl | h
    · exact x.1
    · exact off1_memX x.2 p h
/-- off the comprehension's own objects -/
noncomputable def Abv (I C D : Addr) (more : List (Addr × Obj)) : Prop := ∀ p ∈ more, p.1 ≠ I ∧ p.1 ≠ C ∧ p.1 ≠ D
theorem Abv.nil {I C D : Addr} : Abv I C D [] := fun _ h => nomatch h
theorem Abv.consN {I C D a : Addr} {o : Obj} {more : List (Addr × Obj)} (h : a ≠ I ∧ a ≠ C ∧ a ≠ D) (r : Abv I C D more) : Abv I C D ((a, o) :: more) := fun p hp => by
  rcases List.mem_cons.mp hp with rfl | hp
  · exact h
  · exact r p hp
theorem Abv.cons {I C D a : Addr} {o : Obj} {more : List (Addr × Obj)} (h : I < a ∧ C < a ∧ D < a) (r : Abv I C D more) : Abv I C D ((a, o) :: more) :=
  Abv.consN ⟨Nat.ne_of_gt h.1, Nat.ne_of_gt h.2.1, Nat.ne_of_gt h.2.2⟩ r
/-- where an element's turn ends; the ledger grows -/
noncomputable def GEnd (h₀ : Heap) (L : Addr) (m : Str → Option Value) (s : Shared) (led : List (Addr × Obj)) (I C D : Addr) (Post : Value → List (Addr × Obj) → Prop) (y : Value) (s₂ : Shared) : Prop :=
  ∃ h tk led' more, s₂ = { s with heap := h, toks := tk } ∧ Fr h₀ L h m ∧ News h₀ L h led' ∧ (∀ p ∈ led, p ∈ led') ∧ (∀ p ∈ more, p ∈ led') ∧ Abv I C D more ∧ Post y more
theorem GEnd.intro {h₀ : Heap} {L : Addr} {m : Str → Option Value} {s : Shared} {led led' : List (Addr × Obj)} {I C D : Addr} {Post : Value → List (Addr × Obj) → Prop} {y : Value} {h : Heap} {tk : Nat} (more : List (Addr × Obj)) (F : Fr h₀ L h m) (N : News h₀ L h led') (sub : ∀ p ∈ led, p ∈ led')
    (sub2 : ∀ p ∈ more, p ∈ led') (hlo : Abv I C D more) (hp : Post y more) :
    GEnd h₀ L m s led I C D Post y { s with heap := h, toks := tk } := ⟨h, tk, led', more, rfl, F, N, sub, sub2, hlo, hp⟩
/-- where an element's test ends -/
noncomputable def GTst (prog : Program) (w : World) (A : Around) (E : Value → Shared → Prop) (elt : PySem.Expr) (env : Env) (h₀ : Heap) (L : Addr) (m : Str → Option Value) (s : Shared) (led : List (Addr × Obj)) (I C D : Addr) (Yes : Value → List (Addr × Obj) → Prop) (No : Prop) (ok : Bool) (s₂ : Shared) : Prop :=
  if ok = true then wpAny (model prog w) A (eval elt env) (GEnd h₀ L m s led I C D Yes) E s₂ else GEnd h₀ L m s led I C D (fun _ more => more = [] ∧ No) Value.none s₂
section
variable {prog : Program} {w : World} {A : Around} {E : Value → Shared → Prop} {h₀ : Heap} {L : Addr} {m : Str → Option Value} {env : Env} {ct elt : PySem.Expr} {x : Str} {scope : Scope} {cl : List (Str × Addr)} {s : Shared} {S : List (Addr × Obj) → Prop} {P : Nat → Value → Prop} {Fin : List Value → List (Addr × Obj) → Prop} {news : List (Addr × Obj)}
theorem GTst.yes {led : List (Addr × Obj)} {I C D : Addr} {Yes : Value → List (Addr × Obj) → Prop} {No : Prop} {ok : Bool} {s₂ : Shared} (e : ok = true) (h : wpAny (model prog w) A (eval elt env) (GEnd h₀ L m s led I C D Yes) E s₂) : GTst prog w A E elt env h₀ L m s led I C D Yes No ok s₂ := by
  unfold GTst; rw [if_pos e]; exact h
theorem GTst.no {led led' : List (Addr × Obj)} {I C D : Addr} {Yes : Value → List (Addr × Obj) → Prop} {No : Prop} {ok : Bool} {h : Heap} {tk : Nat} (e : ok = false) (F : Fr h₀ L h m) (N : News h₀ L h led') (sub : ∀ p ∈ led, p ∈ led') (hp : No) :
    GTst prog w A E elt env h₀ L m s led I C D Yes No ok { s with heap := h, toks := tk } := by
  unfold GTst; rw [if_neg (by rw [e]; exact Bool.false_ne_true)]; exact GEnd.intro [] F N sub (fun _ h => nomatch h) Abv.nil ⟨rfl, hp⟩
theorem off3_app {I C D : Addr} {l more : List (Addr × Obj)} (h : LCg.Off3 I C D l) (h' : Abv I C D more) : LCg.Off3 I C D (l ++ more) :=
  LCg.Off3.of fun p hp => (List.mem_append.mp hp).elim (h.mem p) (fun hp => by
    have := h' p hp
    exact this)
theorem GEnd.to {I C D : Addr} {oI oC oD : Obj} {mo : List (Addr × Obj)} {s₁ : Shared} {Post : Value → List (Addr × Obj) → Prop} {rest : Value → List (Addr × Obj) → Prop} {y : Value} {s₂ : Shared}
    (h : GEnd h₀ L m s₁ ((I, oI) :: (C, oC) :: (D, oD) :: (news ++ mo)) I C D Post y s₂) (off : LCg.Off3 I C D (news ++ mo)) (hS : ∀ more, S (news ++ more))
    (hr : ∀ more, Post y more → rest y (news ++ (mo ++ more))) : LCg.CompEnd h₀ L m s₁ I oI C oC D oD S rest y s₂ := by
  obtain ⟨h', tk', led', more, rfl, F', N', sub, sub2, hge, hp⟩ := h
  refine ⟨h', tk', news ++ (mo ++ more), rfl, F', fun p hp => ?_, by rw [← List.append_assoc]; exact off3_app off hge, hS _, hr more hp⟩
  rcases List.mem_cons.mp hp with rfl | hp
  · exact N' _ (sub _ (.head _))
  rcases List.mem_cons.mp hp with rfl | hp
  · exact N' _ (sub _ (.tail _ (.head _)))
  rcases List.mem_cons.mp hp with rfl | hp
  · exact N' _ (sub _ (.tail _ (.tail _ (.head _))))
  rw [← List.append_assoc] at hp
  rcases List.mem_append.mp hp with hp | hp
  · exact N' p (sub p (.tail _ (.tail _ (.tail _ hp))))
  · exact N' p (sub2 p hp)
/-- a comprehension whose ledger grows -/
theorem comp_grow {n : Nat} (Inv : Nat → List Value → List (Addr × Obj) → Prop) (hS : ∀ more, S (news ++ more)) (h0 : Inv 0 [] [])
    (turn : ∀ i v ys mo I oI C oC D m₂ h tk (E' : Value → Shared → Prop), i < n → P i v → Inv i ys mo → LCg.NsObj oC m₂ → m₂ x = some v → Fr h₀ L h m → News h₀ L h ((I, oI) :: (C, oC) :: (D, LCg.lst ys) :: (news ++ mo)) →
      wpAny (model prog w) A (eval elt (compEnvC scope cl C env)) (GEnd h₀ L m { s with heap := h, toks := tk } ((I, oI) :: (C, oC) :: (D, LCg.lst ys) :: (news ++ mo)) I C D (fun y more => Inv (i + 1) (ys ++ [y]) (mo ++ more))) E' { s with heap := h, toks := tk })
    (fin : ∀ ys mo, Inv n ys mo → Fin ys (news ++ mo)) : LCg.CompRest prog w A h₀ L m env elt x scope cl s S P Fin n 0 [] news := by
  refine comp_rest (fun i ys nw => ∃ mo, nw = news ++ mo ∧ Inv i ys mo) ⟨[], (List.append_nil _).symm, h0⟩ ?_ fun ys nw hq => by obtain ⟨mo, rfl, hq⟩ := hq; exact fin ys mo hq
  rintro i v ys nw I oI C oC D m₂ h tk E' hi hv ⟨mo, rfl, hy⟩ hC hx F N off ne
  refine wpAny_mono (turn i v ys mo I oI C oC D m₂ h tk E' hi hv hy hC hx F N) (fun y s₂ hq => ?_) fun _ _ e => e
  exact hq.to off hS fun more hp => ⟨mo ++ more, rfl, hp⟩
/-- the same with one test -/
theorem comp_growT {n : Nat} (Inv : Nat → List Value → List (Addr × Obj) → Prop) (hS : ∀ more, S (news ++ more)) (h0 : Inv 0 [] [])
    (turn : ∀ i v ys mo I oI C oC D m₂ h tk (E' : Value → Shared → Prop), i < n → P i v → Inv i ys mo → LCg.NsObj oC m₂ → m₂ x = some v → Fr h₀ L h m → News h₀ L h ((I, oI) :: (C, oC) :: (D, LCg.lst ys) :: (news ++ mo)) →
      wpAny (model prog w) A (isTrue ct (compEnvC scope cl C env) (eval ct (compEnvC scope cl C env))) (GTst prog w A E' elt (compEnvC scope cl C env) h₀ L m { s with heap := h, toks := tk } ((I, oI) :: (C, oC) :: (D, LCg.lst ys) :: (news ++ mo)) I C D (fun y more => Inv (i + 1) (ys ++ [y]) (mo ++ more)) (Inv (i + 1) ys mo)) E' { s with heap := h, toks := tk })
    (fin : ∀ ys mo, Inv n ys mo → Fin ys (news ++ mo)) : LCt.CompRestT prog w A h₀ L m env ct elt x scope cl s S P Fin n 0 [] news := by
  have key : ∀ (j i : Nat) (ys : List Value) (mo : List (Addr × Obj)), i + j = n → Inv i ys mo → LCt.CompRestT prog w A h₀ L m env ct elt x scope cl s S P Fin j i ys (news ++ mo) := by
    intro j
    induction j with
    | zero =>
      intro i ys mo hi hy
      have e : i = n := by omega
      subst e
      exact LCt.CompRestT.zero (fin ys mo hy)
    | succ j ih =>
      intro i ys mo hi hy
      refine LCt.CompRestT.succ ?_
      intro v I oI C oC D m₂ h tk E' hv hC hx F N off ne
      refine wpAny_mono (turn i v ys mo I oI C oC D m₂ h tk E' (by omega) hv hy hC hx F N) (fun ok s₂ hq => ?_) fun _ _ e => e
      unfold GTst at hq
      split at hq
      · rename_i e
        rw [if_pos e]
        refine wpAny_mono hq (fun y s₃ hz => ?_) fun _ _ e => e
        exact hz.to off hS fun more hp => ih (i + 1) _ _ (by omega) hp
      · rename_i e
        rw [if_neg e]
        refine hq.to off hS fun more hp => ?_
        obtain ⟨rfl, hp⟩ := hp
        rw [List.append_nil]
        exact ih (i + 1) _ _ (by omega) hp
  have := key n 0 [] [] (by omega) h0
  rwa [List.append_nil] at this
end
end Mine
end

section
open PySem PySem.W PySem.Spec PySem.Calls PyProof.Rows
set_option maxRecDepth 100000
namespace Mine
section
variable {prog : Program} {w : World} {A : Around} {E : Value → Shared → Prop} {Q : Flow → Shared → Prop} {s : Shared} {env : Env} {h₀ : Heap} {L : Addr}
/-- over a list that stands; the name is stored by the turn itself -/
theorem for_listG {σ : Type} {x : Str} {px : Pos} {body orelse : List Stmt} {ax : Addr} {vs : List Value} {e : Nat} {m₀ : Str → Option Value}
    (Led : σ → List (Addr × Obj)) (ps : σ → List (Str × Value)) (Inv : Nat → σ → Prop) (Fin : σ → Prop) (c₀ : σ)
    (hh : A.handled = none) (hled : ∀ i c, Inv i c → (ax, listOf vs.toArray e) ∈ Led c)
    (F : Fr h₀ env.locals s.heap m₀) (N : News h₀ env.locals s.heap (Led c₀)) (hi : Inv 0 c₀) (hk : ∀ p ∈ ps c₀, m₀ p.1 = some p.2)
    (turn : ∀ i v (c : σ) (u : Str → Option Value) h tk I oI, i < vs.length → vs[i]? = some v → Inv i c → (∀ p ∈ Led c, p.1 ≠ I) → Fr h₀ env.locals h (fmap u (ps c)) → News h₀ env.locals h (Led c ++ [(I, oI)]) →
      wpAny (model prog w) A (storeName env x v) (fun _ s₂ => wpAny (model prog w) A (execs body env) (FTEnd h₀ env.locals s Led ps (I, oI) (Inv (i + 1)) Fin Q) E s₂) E { s with heap := h, toks := tk })
    (els : ∀ (c : σ) (u : Str → Option Value) h tk, Inv vs.length c → Fr h₀ env.locals h (fmap u (ps c)) → News h₀ env.locals h (Led c) → wpAny (model prog w) A (execs orelse env) (ElseEnd h₀ env.locals s Led ps Fin Q) E { s with heap := h, toks := tk })
    (done : ∀ (c : σ) (u : Str → Option Value) h tk, Fin c → Fr h₀ env.locals h (fmap u (ps c)) → News h₀ env.locals h (Led c) → Q .next { s with heap := h, toks := tk })
    (hE : PassesOwn (model prog w) A env E) :
    wpAny (model prog w) A (pyIter (.ref ax)) (fun it s₂ => LoopHere prog w A E env (.Name x px) body orelse Q it s₂) E s := by
  have hm := N _ (hled 0 c₀ hi)
  have hl : s.heap.IsList ax vs.toArray := PySem.IsL.isList (n := e) hm.1
  have hlt := Heap.lt_size hm.1
  refine wpAny_pyIter_list hl ?_
  have hI : h₀.get? s.heap.objs.size = none := next_is_new F
  have W := Walks.list (prog := prog) (w := w) hh s.heap.objs.size ax (Nat.ne_of_lt hlt) vs.toArray
  rw [List.size_toArray] at W
  refine forG Led ps Inv Fin c₀ (n := vs.length) W ⟨⟨_, Heap.get?_push_size _ rfl, rfl, rfl⟩, hl.push _⟩ hI
    (Nat.ne_of_gt F.ns.lt) (fun i h st => by obtain ⟨o, e, _⟩ := st.1; exact ⟨o, e⟩) (fun b hb => by
      rcases List.mem_cons.mp hb with rfl | hb
      · exact .inl rfl
      · rw [List.mem_singleton.mp hb]
        exact .inr (.inr ⟨_, hled⟩))
    (fun p hp e => absurd (Heap.lt_size (N p hp).1) (e ▸ Nat.lt_irrefl _)) (F.push _) (fun p hp => ⟨Heap.get?_push_of_some _ (N p hp).1, (N p hp).2⟩) hi hk ?_ els done (fun _ => rfl) hE
  rintro i v c u h tk oI hin hP hi' hne F' N'
  exact wpAny_assign_Name (turn i v c u h tk _ oI hin (by simpa using hP) hi' hne F' N')
end
end Mine
end

section
open PySem PySem.W PySem.Spec PySem.Calls PyProof.Rows
set_option maxRecDepth 100000
set_option maxHeartbeats 4000000
namespace Mine

section
variable {prog : Program} {w : World} {A : Around} {E : Value → Shared → Prop} {s : Shared}

theorem gt_tree {a b : Addr} {i j k l : Int} {ti tj tk tl : Tok} {n n' : Nat} {P : Fin → Shared → Prop} (hx : s.heap.get? a = some (tup2 i j ti tj n)) (hy : s.heap.get? b = some (tup2 k l tk tl n'))
    (h : P (.done (.ret (.bool (plt (k, l) (i, j))))) s) :
    wpAny (model prog w) A (Builtin.«tuple.__gt__» ⟨[.ref a, .ref b], []⟩) P E s := by
  have hTb : s.TypeIs (.ref b) "tuple" := tup_typeIs rfl hy
  show wpAny _ _ (isInstance (.ref b) (.type "tuple") >>= _) _ _ s
  refine wpAny_bind (wpAny_isInstance hTb isSubtype_tuple_tuple ?_)
  simp only [Bool.not_true, Bool.false_eq_true, if_false]
  refine wpAny_bind (wpAny_tupleItemsOf hx rfl ?_)
  refine wpAny_bind (wpAny_tupleItemsOf hy rfl ?_)
  simp only [List.zip_cons_cons, List.zip_nil_right, List.forIn_cons, List.forIn_nil]
  refine wpAny_bind (wpAny_bind (wpAny_bind (wpAny_eqBool_int ?_)))
  by_cases h1 : i = k
  · have e1 : (i == k) = true := beq_iff_eq.mpr h1
    rw [e1]
    simp only [Bool.not_true, Bool.false_eq_true, if_false]
    refine wpAny_pure ?_
    refine wpAny_bind (wpAny_bind (wpAny_eqBool_int ?_))
    by_cases h2 : j = l
    · have e2 : (j == l) = true := beq_iff_eq.mpr h2
      rw [e2]
      simp only [Bool.not_true, Bool.false_eq_true, if_false]
      refine wpAny_pure (wpAny_pure (wpAny_pure ?_))
      have e : plt (k, l) (i, j) = false := by simp [plt, h1, h2]
      rw [e] at h
      exact h
    · have e2 : (j == l) = false := beq_eq_false_iff_ne.mpr h2
      rw [e2]
      simp only [Bool.not_false, if_true]
      refine wpAny_bind (wpAny_rule (wpAny_bind (gt_int (wpAny_bind (wpAny_pure (wpAny_pure (wpAny_pure ?_)))))))
      have e : plt (k, l) (i, j) = decide (j > l) := by simp [plt, h1]
      rw [e] at h
      exact wpAny_pure h
  · have e1 : (i == k) = false := beq_eq_false_iff_ne.mpr h1
    rw [e1]
    simp only [Bool.not_false, if_true]
    refine wpAny_bind (wpAny_rule (wpAny_bind (gt_int (wpAny_bind (wpAny_pure (wpAny_pure (wpAny_pure ?_)))))))
    have e : plt (k, l) (i, j) = decide (i > k) := by simp [plt, Ne.symm h1]
    rw [e] at h
    exact wpAny_pure h

theorem gt_tup {a b : Addr} {i j k l : Int} {ti tj tk tl : Tok} {n n' : Nat} {Q : Value → Shared → Prop} (hu : A.units < cLine) (hx : s.heap.get? a = some (tup2 i j ti tj n)) (hy : s.heap.get? b = some (tup2 k l tk tl n'))
    (h : Q (.bool (plt (k, l) (i, j))) s) : wpAny (model prog w) A (richCompare .Gt (.ref a) (.ref b)) Q E s :=
  wpAny_richCompare_same_room (op := .Gt) (tup_typeIs rfl hx) (tup_typeIs rfl hy) F.slot_tuple_gt
    (wpAny_call_entry F.slot_tuple_gt (tup_typeIs rfl hx) F.entry_tuple_gt (gt_tree hx hy ⟨_, rfl, (fun e => nomatch e), h⟩) (F.args_tuple_gt_2 _ _)) hu
end

/-- the place of the greatest of the first k + 1 -/
noncomputable def mxAt (ps : List (Int × Int)) : Nat → Nat
  | 0 => 0
  | k + 1 => if plt (ps.getD (mxAt ps k) (0, 0)) (ps.getD (k + 1) (0, 0)) then k + 1 else mxAt ps k

section
variable {prog : Program} {w : World} {A : Around} {R : Result → Shared → Prop} {E : Value → Shared → Prop} {s : Shared} {h₀ : Heap} {L : Addr} {m : Str → Option Value} {led : List (Addr × Obj)}

theorem mx_fr {h h' : Heap} {I : Addr} (F : Fr h₀ L h m) (hk : ∀ b o, b ≠ I → h.get? b = some o → h'.get? b = some o) (hL : I ≠ L) (h0 : h₀.get? I = none) : Fr h₀ L h' m :=
  ⟨F.ns.at' fun o e => hk _ o hL.symm e, fun b o e => hk b o (fun q => by rw [q, h0] at e; cases e) (F.keep b o e), F.above⟩
theorem mx_news {h h' : Heap} {I : Addr} (N : News h₀ L h led) (hk : ∀ b o, b ≠ I → h.get? b = some o → h'.get? b = some o) (hn : ∀ p ∈ led, p.1 ≠ I) : News h₀ L h' led :=
  fun p hp => ⟨hk _ _ (hn p hp) (N p hp).1, (N p hp).2⟩

theorem max_go {l I S : Addr} {vs : List Value} {n : Nat} {ps : List (Int × Int)} (hh : A.handled = none) (hu : A.units + 8 < cLine) (hl : (l, listOf vs.toArray n) ∈ led) (hP : Prs led vs ps)
    (hIS : I ≠ S) (hIL : I ≠ L) (hSL : S ≠ L) (hI0 : h₀.get? I = none) (hS0 : h₀.get? S = none) (hnI : ∀ p ∈ led, p.1 ≠ I) (hnS : ∀ p ∈ led, p.1 ≠ S)
    (hR : ∀ v h' tk', vs[mxAt ps (ps.length - 1)]? = some v → Fr h₀ L h' m → News h₀ L h' led → R (.ok (.ret v)) { s with heap := h', toks := tk' }) :
    ∀ (r j : Nat) (h : Heap) (tk : Nat) (vb : Value) (c : Nat), ps.length - (j + 1) = r → j + 1 ≤ ps.length → vs[mxAt ps j]? = some vb → Fr h₀ L h m → News h₀ L h led → h.IsListIter I l (j + 1) →
      h.get? S = some { cls := .type "list", dict := none, data := .seq #[vb, vb] c, slots := #[] } →
      codeAny (model prog w) A (.builtin "max.loop" ⟨[.ref I, .none, .ref S], []⟩) R { s with heap := h, toks := tk } := by
  have hname : (toString "max" ++ toString ".loop" : String) = "max.loop" := by decide
  have hlI : l ≠ I := hnI _ hl
  have W := Walks.list (prog := prog) (w := w) (A := A.in1) hh I l hlI vs.toArray
  have hvl := hP.length
  rw [List.size_toArray] at W
  have mx_lt : ∀ j, j < ps.length → mxAt ps j < ps.length := by
    intro j
    induction j with
    | zero => intro hj; exact hj
    | succ j ih =>
      intro hj
      unfold mxAt
      split
      · exact hj
      · exact ih (by omega)
  intro r
  induction r with
  | zero =>
    intro j h tk vb c hr hj hvb F N hit hS
    have hin : j + 1 = ps.length := by omega
    refine codeAny_builtin PySem.F.entry_max_loop ?_
    rw [Around.under_plainId PySem.F.plain_max_loop _]
    show wpAny _ A.in1 (seqItems? (.ref S) >>= _) _ _ _
    refine wpAny_bind (wpAny_seqItems hS rfl ?_)
    show wpAny _ A.in1 (tryCatch (pyNext (.ref I)) _ >>= _) _ _ _
    refine wpAny_bind (wpAny_tryCatch (W.done _ _ _ ⟨by rw [hvl, ← hin]; exact hit, PySem.IsL.isList (n := n) (N _ hl).1⟩ fun h' tk' hk' => ?_))
    have hk1 : ∀ b o, b ≠ I → h.get? b = some o → h'.get? b = some o := fun b o hb e => hk' b o (by simpa using hb) e
    have F1 := mx_fr F hk1 hIL hI0
    have N1 := mx_news N hk1 hnI
    have hS' := hk1 S _ hIS.symm hS
    show wpAny _ A.in1 (updateSeq S (fun _ => #[]) >>= _) _ _ _
    refine wpAny_bind ?_
    refine wpAny_updateSeq hS' rfl (wpAny_bind (wpAny_letGo (wpAny_pure ?_)))
    have hk2 : ∀ b o, b ≠ S → h'.get? b = some o → (h'.update S (Obj.mapSeq fun _ => (#[] : Array Value))).get? b = some o := fun b o hb e => (Heap.get?_update_other _ _ (Ne.symm hb)).trans e
    refine hR vb _ tk' ?_ (mx_fr F1 hk2 hSL hS0) (mx_news N1 hk2 hnS)
    rw [← hin]
    exact hvb
  | succ r ih =>
    intro j h tk vb c hr hj hvb F N hit hS
    have hlt : j + 1 < ps.length := by omega
    refine codeAny_builtin PySem.F.entry_max_loop ?_
    rw [Around.under_plainId PySem.F.plain_max_loop _]
    show wpAny _ A.in1 (seqItems? (.ref S) >>= _) _ _ _
    refine wpAny_bind (wpAny_seqItems hS rfl ?_)
    show wpAny _ A.in1 (tryCatch (pyNext (.ref I)) _ >>= _) _ _ _
    refine wpAny_bind (wpAny_tryCatch (W.item (j + 1) _ _ _ (by rw [hvl]; exact hlt) ⟨hit, PySem.IsL.isList (n := n) (N _ hl).1⟩ fun v h' tk' hPv hst' hk' => ?_))
    have hv : vs[j + 1]? = some v := by simpa using hPv
    have hk1 : ∀ b o, b ≠ I → h.get? b = some o → h'.get? b = some o := fun b o hb e => hk' b o (by simpa using hb) e
    have F1 := mx_fr F hk1 hIL hI0
    have N1 := mx_news N hk1 hnI
    have hS' := hk1 S _ hIS.symm hS
    obtain ⟨oI', hoI', hoc, hod⟩ := id hst'.1
    obtain ⟨a1, ti1, tj1, n1, e1, m1⟩ := hP.get hlt
    obtain ⟨a0, ti0, tj0, n0, e0, m0⟩ := hP.get (mx_lt j (by omega))
    rw [e1] at hv
    rw [e0] at hvb
    cases hv
    cases hvb
    show wpAny _ A.in1 (tryCatch (holding [.ref a1, .ref a1] (richCompare .Gt (.ref a1) (.ref a0) >>= _)) _ >>= _) _ _ _
    refine wpAny_bind (wpAny_tryCatch (wpAny_holding (wpAny_bind (gt_tup (A := A.in1) (by show A.units + 1 < _; omega) (N1 _ m1).1 (N1 _ m0).1 ?_))))
    refine wpAny_bind (wpAny_holding (wpAny_truthy_bool ?_))
    refine wpAny_bind (wpAny_letGo (wpAny_pure ?_))
    cases hb : plt (ps.getD (mxAt ps j) (0, 0)) (ps.getD (j + 1) (0, 0)) with
    | true =>
      simp only [if_true]
      have hk2 : ∀ b o, b ≠ S → h'.get? b = some o → (h'.update S (Obj.mapSeq fun _ => #[Value.ref a1, Value.ref a1])).get? b = some o := fun b o hb e => (Heap.get?_update_other _ _ (Ne.symm hb)).trans e
      refine wpAny_bind ?_
      refine wpAny_updateSeq hS' rfl (wpAny_bind (wpAny_letGo ?_))
      rw [hname]
      refine wpAny_pure ⟨plainId_quiet PySem.F.plain_max_loop _, ih (j + 1) _ _ (.ref a1) _ (by omega) hlt ?_ (mx_fr F1 hk2 hSL hS0) (mx_news N1 hk2 hnS) ⟨oI', hk2 _ _ hIS hoI', hoc, hod⟩ (Heap.get?_update_self _ hS' rfl)⟩
      show vs[mxAt ps (j + 1)]? = _
      unfold mxAt
      rw [hb]
      exact e1
    | false =>
      simp only [Bool.false_eq_true, if_false]
      refine wpAny_bind (wpAny_letGo ?_)
      rw [hname]
      refine wpAny_pure ⟨plainId_quiet PySem.F.plain_max_loop _, ih (j + 1) _ _ (.ref a0) c (by omega) hlt ?_ F1 N1 hst'.1 hS'⟩
      show vs[mxAt ps (j + 1)]? = _
      unfold mxAt
      rw [hb]
      exact e0

theorem max_first {l I S : Addr} {vs : List Value} {n : Nat} {ps : List (Int × Int)} (hh : A.handled = none) (hu : A.units + 8 < cLine) (hl : (l, listOf vs.toArray n) ∈ led) (hP : Prs led vs ps) (hne : 0 < ps.length)
    (hIS : I ≠ S) (hIL : I ≠ L) (hSL : S ≠ L) (hI0 : h₀.get? I = none) (hS0 : h₀.get? S = none) (hnI : ∀ p ∈ led, p.1 ≠ I) (hnS : ∀ p ∈ led, p.1 ≠ S)
    {h : Heap} {tk : Nat} {c : Nat} (F : Fr h₀ L h m) (N : News h₀ L h led) (hit : h.IsListIter I l 0) (hS : h.get? S = some { cls := .type "list", dict := none, data := .seq #[] c, slots := #[] })
    (hR : ∀ v h' tk', vs[mxAt ps (ps.length - 1)]? = some v → Fr h₀ L h' m → News h₀ L h' led → R (.ok (.ret v)) { s with heap := h', toks := tk' }) :
      codeAny (model prog w) A (.builtin "max.loop" ⟨[.ref I, .none, .ref S], []⟩) R { s with heap := h, toks := tk } := by
  have hname : (toString "max" ++ toString ".loop" : String) = "max.loop" := by decide
  have hlI : l ≠ I := hnI _ hl
  have W := Walks.list (prog := prog) (w := w) (A := A.in1) hh I l hlI vs.toArray
  have hvl := hP.length
  rw [List.size_toArray] at W
  refine codeAny_builtin PySem.F.entry_max_loop ?_
  rw [Around.under_plainId PySem.F.plain_max_loop _]
  show wpAny _ A.in1 (seqItems? (.ref S) >>= _) _ _ _
  refine wpAny_bind (wpAny_seqItems hS rfl ?_)
  show wpAny _ A.in1 (tryCatch (pyNext (.ref I)) _ >>= _) _ _ _
  refine wpAny_bind (wpAny_tryCatch (W.item 0 _ _ _ (by rw [hvl]; exact hne) ⟨hit, PySem.IsL.isList (n := n) (N _ hl).1⟩ fun v h' tk' hPv hst' hk' => ?_))
  have hv : vs[0]? = some v := by simpa using hPv
  have hk1 : ∀ b o, b ≠ I → h.get? b = some o → h'.get? b = some o := fun b o hb e => hk' b o (by simpa using hb) e
  have F1 := mx_fr F hk1 hIL hI0
  have N1 := mx_news N hk1 hnI
  have hS' := hk1 S _ hIS.symm hS
  obtain ⟨oI', hoI', hoc, hod⟩ := id hst'.1
  have hk2 : ∀ b o, b ≠ S → h'.get? b = some o → (h'.update S (Obj.mapSeq fun _ => #[v, v])).get? b = some o := fun b o hb e => (Heap.get?_update_other _ _ (Ne.symm hb)).trans e
  show wpAny _ A.in1 (updateSeq S (fun _ => #[v, v]) >>= _) _ _ _
  refine wpAny_bind ?_
  refine wpAny_updateSeq hS' rfl ?_
  rw [hname]
  exact wpAny_pure ⟨plainId_quiet PySem.F.plain_max_loop _, max_go hh hu hl hP hIS hIL hSL hI0 hS0 hnI hnS hR _ 0 _ _ v _ rfl hne hv (mx_fr F1 hk2 hSL hS0) (mx_news N1 hk2 hnS) ⟨oI', hk2 _ _ hIS hoI', hoc, hod⟩ (Heap.get?_update_self _ hS' rfl)⟩

/-- max of a list of tuples of two ints -/
theorem max_tups {l : Addr} {vs : List Value} {n : Nat} {ps : List (Int × Int)} {Q : Value → Shared → Prop} (hh : A.handled = none) (hu : A.units + 16 < cLine) (F : Fr h₀ L s.heap m) (N : News h₀ L s.heap led) (hl : (l, listOf vs.toArray n) ∈ led) (hP : Prs led vs ps) (hne : 0 < ps.length)
    (h : ∀ v h' tk', vs[mxAt ps (ps.length - 1)]? = some v → Fr h₀ L h' m → News h₀ L h' led → Q v { s with heap := h', toks := tk' }) :
    wpAny (model prog w) A (call (.builtin "max") [.ref l]) Q E s := by
  have hname : (toString "max" ++ toString ".loop" : String) = "max.loop" := by decide
  have hls : s.heap.IsList l vs.toArray := PySem.IsL.isList (n := n) (N _ hl).1
  have hll : l < s.heap.objs.size := Heap.lt_size (N _ hl).1
  have hL : L < s.heap.objs.size := F.ns.lt
  refine call_function_tree PySem.F.kind_max PySem.F.plain_max PySem.F.entry_max (PySem.F.args_max1 _) ?_
  show wpAny _ A.in1 (Builtin.Builtins.bindParams "max" ["key", "default"] 0 ⟨[], []⟩ >>= _) _ _ s
  refine wpAny_bind (wpAny_of_eq (show Builtin.Builtins.bindParams "max" ["key", "default"] 0 ⟨[], []⟩ = pure [none, none] from rfl) ?_)
  refine wpAny_bind (wpAny_pure ?_)
  refine wpAny_bind (wpAny_pyIter_list hls ?_)
  refine wpAny_bind (wpAny_newObj_type ?_)
  rw [hname]
  have nI : h₀.get? s.heap.objs.size = none := next_is_new F
  have F1 := F.push (lit (.ref l) 0)
  have N1 : News h₀ L (s.heap.push (lit (.ref l) 0)) led := fun p hp => ⟨Heap.get?_push_of_some _ (N p hp).1, (N p hp).2⟩
  have nS : h₀.get? (s.heap.push (lit (.ref l) 0)).objs.size = none := next_is_new F1
  have hsz1 : (s.heap.push (lit (.ref l) 0)).objs.size = s.heap.objs.size + 1 := Heap.size_push _ _
  refine wpAny_pure ⟨plainId_quiet PySem.F.plain_max_loop _, max_first (s := s) (I := s.heap.objs.size) (S := (s.heap.push (lit (.ref l) 0)).objs.size) hh (by omega) hl hP hne (by rw [hsz1]; exact Nat.ne_of_lt (Nat.lt_succ_self _)) (Nat.ne_of_gt hL) (by rw [hsz1]; exact Nat.ne_of_gt (Nat.lt_succ_of_lt hL)) nI nS
    (fun p hp => Nat.ne_of_lt (Heap.lt_size (N p hp).1)) (fun p hp => Nat.ne_of_lt (Heap.lt_size (N1 p hp).1)) (F1.push _) (fun p hp => ⟨Heap.get?_push_of_some _ (N1 p hp).1, (N1 p hp).2⟩) ⟨_, Heap.get?_push_of_some _ (Heap.get?_push_size _ rfl), rfl, rfl⟩ (Heap.get?_push_size _ rfl) fun v h' tk' hv F' N' => h v h' tk' hv F' N'⟩
end
end Mine
end

section
open PySem PySem.W PySem.Spec PySem.Calls PyProof.Rows
set_option maxRecDepth 100000
namespace Mine
section
variable {prog : Program} {w : World} {A : Around} {E : Value → Shared → Prop} {Q : Flow → Shared → Prop} {s : Shared} {env : Env} {h₀ : Heap}

/-- a for with two names over a list of tuples of the ledger; the names are stored by the turn itself -/
theorem for_tups {σ : Type} {x0 x1 : Str} {p0 p1 pt : Pos} {kk : Nat} {body orelse : List Stmt} {ax : Addr} {vs : List Value} {e : Nat} {Ts : Nat → Addr} {va vb : Nat → Value} {nt : Nat → Nat} {m₀ : Str → Option Value}
    (Led : σ → List (Addr × Obj)) (ps : σ → List (Str × Value)) (Inv : Nat → σ → Prop) (Fin : σ → Prop) (c₀ : σ)
    (hh : A.handled = none) (hled : ∀ i c, Inv i c → (ax, listOf vs.toArray e) ∈ Led c) (hvs : ∀ j, j < vs.length → vs[j]? = some (.ref (Ts j)))
    (hTs : ∀ j, j < vs.length → ∀ i c, Inv i c → (Ts j, ({ cls := .type "tuple", data := .seq #[va j, vb j] (nt j) } : Obj)) ∈ Led c)
    (F : Fr h₀ env.locals s.heap m₀) (N : News h₀ env.locals s.heap (Led c₀)) (hi : Inv 0 c₀) (hk : ∀ p ∈ ps c₀, m₀ p.1 = some p.2)
    (turn : ∀ i (c : σ) (u : Str → Option Value) h tk I oI, i < vs.length → Inv i c → (∀ p ∈ Led c, p.1 ≠ I) → Fr h₀ env.locals h (fmap u (ps c)) → News h₀ env.locals h (Led c ++ [(I, oI)]) →
      wpAny (model prog w) A (storeName env x0 (va i)) (fun _ s₂ => wpAny (model prog w) A (storeName env x1 (vb i)) (fun _ s₃ => wpAny (model prog w) A (execs body env) (FTEnd h₀ env.locals s Led ps (I, oI) (Inv (i + 1)) Fin Q) E s₃) E s₂) E { s with heap := h, toks := tk })
    (els : ∀ (c : σ) (u : Str → Option Value) h tk, Inv vs.length c → Fr h₀ env.locals h (fmap u (ps c)) → News h₀ env.locals h (Led c) → wpAny (model prog w) A (execs orelse env) (ElseEnd h₀ env.locals s Led ps Fin Q) E { s with heap := h, toks := tk })
    (done : ∀ (c : σ) (u : Str → Option Value) h tk, Fin c → Fr h₀ env.locals h (fmap u (ps c)) → News h₀ env.locals h (Led c) → Q .next { s with heap := h, toks := tk })
    (hE : PassesOwn (model prog w) A env E) :
    wpAny (model prog w) A (pyIter (.ref ax)) (fun it s₂ => LoopHere prog w A E env (.Tuple [.Name x0 p0, .Name x1 p1] kk pt) body orelse Q it s₂) E s := by
  have hm := N _ (hled 0 c₀ hi)
  have hl : s.heap.IsList ax vs.toArray := PySem.IsL.isList (n := e) hm.1
  have hlt := Heap.lt_size hm.1
  have hTlt : ∀ j, j < vs.length → Ts j < s.heap.objs.size := fun j hj => Heap.lt_size (N _ (hTs j hj 0 c₀ hi)).1
  refine wpAny_pyIter_list hl ?_
  have hI0 : h₀.get? s.heap.objs.size = none := next_is_new F
  have N0 : News h₀ env.locals (s.heap.push { cls := .type "list_iterator", data := .fields #[.ref ax, .int 0 0] }) (Led c₀) := fun p hp => ⟨Heap.get?_push_of_some _ (N p hp).1, (N p hp).2⟩
  have hIL : s.heap.objs.size ≠ env.locals := Nat.ne_of_gt F.ns.lt
  generalize hIe : s.heap.objs.size = I at *
  have W := WalksU.listOfTuples (prog := prog) (w := w) hh I ax (Nat.ne_of_lt hlt) vs.toArray Ts (fun j => #[va j, vb j]) (fun j hj => by simpa using hvs j (by simpa using hj)) (fun j hj => Nat.ne_of_lt (hTlt j (by simpa using hj)))
  simp only [List.size_toArray] at W
  have hnI0 : ∀ p ∈ Led c₀, p.1 ≠ I := fun p hp q => absurd (Heap.lt_size (N p hp).1) (by rw [hIe, q]; exact Nat.lt_irrefl _)
  refine codeAny_forLoop_any (fun k s' => ∃ i c h' tk m', s' = { s with heap := h', toks := tk } ∧ (h'.IsListIter I ax i ∧ h'.IsList ax vs.toArray ∧ ∀ k, k < vs.length → h'.IsTuple (Ts k) #[va k, vb k]) ∧ Fr h₀ env.locals h' m' ∧ News h₀ env.locals h' (Led c) ∧ (∀ p ∈ Led c, p.1 ≠ I) ∧ (∀ p ∈ ps c, m' p.1 = some p.2) ∧ Inv i c ∧ i ≤ vs.length ∧ k = vs.length + 1 - i) ?_ (vs.length + 1)
    ⟨0, c₀, _, s.toks, m₀, rfl, ⟨⟨_, by rw [← hIe]; exact Heap.get?_push_size _ rfl, rfl, rfl⟩, hl.push _, fun k hk => ⟨_, (N0 _ (hTs k hk 0 c₀ hi)).1, rfl, _, rfl⟩⟩, F.push _, N0, hnI0, hk, hi, Nat.zero_le _, rfl⟩
  rintro k s' ⟨i, c, h', tk, m', rfl, hst', F', N', hnI', hk', hi', hin, rfl⟩
  have next : ∀ {h' h₁ : Heap}, Fr h₀ env.locals h' m' → News h₀ env.locals h' (Led c) → (∀ b o, b ∉ [I] → h'.get? b = some o → h₁.get? b = some o) → Fr h₀ env.locals h₁ m' ∧ News h₀ env.locals h₁ (Led c) := fun F' N' hk₁ =>
    ⟨⟨F'.ns.at' fun o e => hk₁ _ o (fun hm => hIL (List.mem_singleton.mp hm).symm) e, fun b o e => hk₁ b o (fun hm => by rw [List.mem_singleton.mp hm, hI0] at e; cases e) (F'.keep b o e), F'.above⟩,
      fun p hp => ⟨hk₁ _ _ (fun hm => hnI' p hp (List.mem_singleton.mp hm)) (N' p hp).1, (N' p hp).2⟩⟩
  by_cases hlt : i < vs.length
  · refine W.item i _ _ _ hlt hst' fun T vals h₁ tk₁ hPt hT hM hk₁ => ?_
    subst hPt
    obtain ⟨F₁, N₁⟩ := next F' N' hk₁
    have hTw := W.apart _ _ _ hM
    refine W.go _ _ _ i T _ _ _ hM fun h₂ hst₂ hk₂ => ?_
    obtain ⟨F₂, N₂⟩ := next F₁ N₁ hk₂
    have hT₂ : h₂.IsTuple T #[va i, vb i] := by
      obtain ⟨o, ho, r⟩ := hT
      exact ⟨o, hk₂ _ _ hTw ho, r⟩
    refine wpAny_assign_Tuple hh hT₂ rfl rfl fun h₃ hx₃ => ?_
    replace hx₃ : Heap.ExtBut h₂.objs.size h₂ h₃ := hx₃
    have old₃ : ∀ b o, h₂.get? b = some o → h₃.get? b = some o := fun b o x => hx₃ b o (Nat.ne_of_lt (Heap.lt_size x)) x
    have F₃ : Fr h₀ env.locals h₃ m' := ⟨F₂.ns.at' fun o e => old₃ _ o e, fun b o e => old₃ b o (F₂.keep b o e), F₂.above⟩
    have N₃ : News h₀ env.locals h₃ (Led c) := fun p hp => ⟨old₃ _ _ (N₂ p hp).1, (N₂ p hp).2⟩
    obtain ⟨oI, hoI, hoc, hod⟩ := id hst₂.1
    have hoI₃ := old₃ _ _ hoI
    have N₄ : News h₀ env.locals h₃ (Led c ++ [(I, oI)]) := fun p hp => (List.mem_append.mp hp).elim (N₃ p) fun hp => by
      rw [List.mem_singleton.mp hp]
      exact ⟨hoI₃, hIL, hI0⟩
    show wpAny _ A (do holding [vb i] (assign (.Name x0 p0) env (va i)); do holding [] (assign (.Name x1 p1) env (vb i)); pure ()) _ _ _
    refine wpAny_bind (wpAny_holding (wpAny_assign_Name ?_))
    refine wpAny_mono (turn i c m' h₃ _ I oI hlt hi' hnI' (by rw [fmap_eq hk']; exact F₃) N₄) (fun _ s₄ q₄ => ?_) hE
    refine wpAny_bind (wpAny_holding (wpAny_assign_Name ?_))
    refine wpAny_mono q₄ (fun _ s₅ q₅ => wpAny_pure ?_) hE
    refine wpAny_mono q₅ (fun f s₆ h₆ => ?_) hE
    have fin : FEnd h₀ env.locals s Led ps (I, oI) (Inv (i + 1)) s₆ → ∃ m, m < vs.length + 1 - i ∧ ∃ i c h' tk m', s₆ = { s with heap := h', toks := tk } ∧ (h'.IsListIter I ax i ∧ h'.IsList ax vs.toArray ∧ ∀ k, k < vs.length → h'.IsTuple (Ts k) #[va k, vb k]) ∧ Fr h₀ env.locals h' m' ∧ News h₀ env.locals h' (Led c) ∧ (∀ p ∈ Led c, p.1 ≠ I) ∧ (∀ p ∈ ps c, m' p.1 = some p.2) ∧ Inv i c ∧ i ≤ vs.length ∧ m = vs.length + 1 - i := by
      rintro ⟨c', h₇, tk₇, m₇, news₇, rfl, F₇, N₇, ho₇, hl₇, hne₇, hk₇, hi₇⟩
      have N₈ : News h₀ env.locals h₇ (Led c') := fun p hp => N₇ p (hl₇ p hp)
      exact ⟨vs.length + 1 - (i + 1), by omega, i + 1, c', h₇, tk₇, m₇, rfl, ⟨⟨oI, (N₇ _ ho₇).1, hoc, hod⟩, PySem.IsL.isList (n := e) (N₈ _ (hled _ _ hi₇)).1, fun k hk => ⟨_, (N₈ _ (hTs k hk _ _ hi₇)).1, rfl, _, rfl⟩⟩, F₇, N₈, hne₇, hk₇, hi₇, hlt, rfl⟩
    cases f with
    | ret v => exact h₆
    | brk => exact LEnd.done done h₆
    | next => exact fin h₆
    | cont => exact fin h₆
  · have hin' : i = vs.length := by omega
    subst hin'
    refine W.done _ _ _ hst' fun h₁ tk₁ hk₁ => ?_
    obtain ⟨F₁, N₁⟩ := next F' N' hk₁
    refine wpAny_mono (els c m' h₁ tk₁ hi' (by rw [fmap_eq hk']; exact F₁) N₁) (fun f s₃ h₃ => ?_) hE
    cases f with
    | next => exact LEnd.done done h₃
    | brk => exact h₃
    | cont => exact h₃
    | ret v => exact h₃
end
end Mine
end

section
open PySem PySem.W PySem.Spec PySem.Calls PyProof.Rows
set_option maxRecDepth 100000
namespace Mine
/-- a set of ties with its places' marks, as it lies -/
structure SRow where
  a : Addr
  t : Tok
  nt : Nat
  l : Addr
  nl : Nat
  us : List Value
  num : Nat
  mks : List Nat
noncomputable def SRow.key (r : SRow) : Nat × List Nat := (r.num, r.mks)
noncomputable def tupI (num : Nat) (t : Tok) (l : Addr) (nt : Nat) : Obj := { cls := .type "tuple", data := .seq #[.int (num : Int) t, .ref l] nt }
noncomputable def SRow.ok (tl : List (Addr × Obj)) (r : SRow) : Prop := (r.a, tupI r.num r.t r.l r.nt) ∈ tl ∧ (r.l, listOf r.us.toArray r.nl) ∈ tl ∧ IntsAre r.us (r.mks.map Int.ofNat)
noncomputable def Sts (tl : List (Addr × Obj)) (rs : List SRow) : Prop := ∀ r ∈ rs, r.ok tl
noncomputable def refs (rs : List SRow) : List Value := rs.map fun r => .ref r.a
theorem SRow.ok.mono {tl tl' : List (Addr × Obj)} {r : SRow} (h : r.ok tl) (hs : ∀ p ∈ tl, p ∈ tl') : r.ok tl' := ⟨hs _ h.1, hs _ h.2.1, h.2.2⟩
theorem Sts.mono {tl tl' : List (Addr × Obj)} {rs : List SRow} (h : Sts tl rs) (hs : ∀ p ∈ tl, p ∈ tl') : Sts tl' rs := fun r hr => (h r hr).mono hs
theorem Sts.snoc {tl : List (Addr × Obj)} {rs : List SRow} {r : SRow} (h : Sts tl rs) (hr : r.ok tl) : Sts tl (rs ++ [r]) := fun q hq => (List.mem_append.mp hq).elim (h q) fun hq => List.mem_singleton.mp hq ▸ hr
theorem Sts.nil {tl : List (Addr × Obj)} : Sts tl [] := fun _ h => nomatch h
theorem refs_snoc (rs : List SRow) (r : SRow) : refs (rs ++ [r]) = refs rs ++ [.ref r.a] := by unfold refs; rw [List.map_append]; rfl
/-! the plain function -/
noncomputable def tieE : List (Nat × Nat) := [(0, 1), (0, 2), (1, 2), (0, 3), (1, 3), (2, 3)]
noncomputable def mrg (o1 o2 : Nat) (mk : List Nat) : List Nat := mk.map fun m => if m = mk.getD o2 0 then mk.getD o1 0 else m
noncomputable def tstep1 (k : Nat) (p : Nat × List Nat) : List (Nat × List Nat) :=
  if p.2.getD (tieE.getD k (0, 0)).1 0 = p.2.getD (tieE.getD k (0, 0)).2 0 then [] else [p, (p.1 + 2 ^ k, mrg (tieE.getD k (0, 0)).1 (tieE.getD k (0, 0)).2 p.2)]
noncomputable def tstep (k : Nat) (sets : List (Nat × List Nat)) : List (Nat × List Nat) := sets.flatMap (tstep1 k)
noncomputable def tleft (ord : List Nat) : List (Nat × List Nat) := ord.foldl (fun s k => tstep k s) [(0, [0, 1, 2, 3])]
theorem tleft_snoc (ord : List Nat) (k : Nat) : tleft (ord ++ [k]) = tstep k (tleft ord) := by unfold tleft; rw [List.foldl_append]; rfl
theorem tstep_len (k : Nat) (sets : List (Nat × List Nat)) : (tstep k sets).length ≤ 2 * sets.length := by
  unfold tstep
  induction sets with
  | nil => exact Nat.zero_le _
  | cons p r ih =>
    rw [List.flatMap_cons, List.length_append, List.length_cons]
    have : (tstep1 k p).length ≤ 2 := by
      unfold tstep1
      split
      · exact Nat.zero_le _
      · exact Nat.le_refl _
    omega
theorem tleft_len (ord : List Nat) : (tleft ord).length ≤ 2 ^ ord.length := by
  suffices h : ∀ (s : List (Nat × List Nat)), (ord.foldl (fun s k => tstep k s) s).length ≤ 2 ^ ord.length * s.length by
    have := h [(0, [0, 1, 2, 3])]
    rw [List.length_singleton, Nat.mul_one] at this
    exact this
  induction ord with
  | nil => intro s; rw [List.length_nil, Nat.pow_zero, Nat.one_mul]; exact Nat.le_refl _
  | cons k r ih =>
    intro s
    rw [List.foldl_cons, List.length_cons, Nat.pow_succ]
    refine Nat.le_trans (ih _) ?_
    rw [Nat.mul_assoc]
    exact Nat.mul_le_mul_left _ (tstep_len k s)
theorem mrg_len (o1 o2 : Nat) (mk : List Nat) : (mrg o1 o2 mk).length = mk.length := List.length_map _
/-- what every set keeps -/
noncomputable def Good4 (b : Nat) (p : Nat × List Nat) : Prop := p.1 ≤ b ∧ p.2.length = 4 ∧ ∀ m ∈ p.2, m < 4
theorem mrg_good {o1 o2 b : Nat} {p : Nat × List Nat} (h : Good4 b p) : ∀ m ∈ mrg o1 o2 p.2, m < 4 := by
  intro m hm
  obtain ⟨x, hx, rfl⟩ := List.mem_map.mp hm
  have h4 : p.2.getD o1 0 < 4 := by
    rw [List.getD_eq_getElem?_getD]
    cases e : p.2[o1]? with
    | none => exact (by decide : 0 < 4)
    | some y => exact h.2.2 y (List.mem_of_getElem? e)
  split
  · exact h4
  · exact h.2.2 x hx
theorem tstep_good {b k : Nat} (hk : k < 6) {sets : List (Nat × List Nat)} (h : ∀ p ∈ sets, Good4 b p) : ∀ p ∈ tstep k sets, Good4 (b + 32) p := by
  intro p hp
  obtain ⟨q, hq, hp⟩ := List.mem_flatMap.mp hp
  have hg := h q hq
  unfold tstep1 at hp
  split at hp
  · cases hp
  · rcases List.mem_cons.mp hp with rfl | hp
    · exact ⟨Nat.le_trans hg.1 (Nat.le_add_right _ _), hg.2⟩
    · rw [List.mem_singleton.mp hp]
      have h32 : ∀ k < 6, 2 ^ k ≤ 32 := by decide
      exact ⟨Nat.add_le_add hg.1 (h32 k hk), by rw [mrg_len]; exact hg.2.1, mrg_good hg⟩
theorem tleft_good : ∀ (ord : List Nat), (∀ k ∈ ord, k < 6) → ∀ p ∈ tleft ord, Good4 (32 * ord.length) p := by
  intro ord
  suffices h : ∀ (b : Nat) (s : List (Nat × List Nat)), (∀ p ∈ s, Good4 b p) → (∀ k ∈ ord, k < 6) → ∀ p ∈ ord.foldl (fun s k => tstep k s) s, Good4 (b + 32 * ord.length) p by
    intro ho p hp
    have := h 0 [(0, [0, 1, 2, 3])] (fun p hp => by rw [List.mem_singleton.mp hp]; exact ⟨Nat.le_refl _, rfl, by decide⟩) ho p hp
    rwa [Nat.zero_add] at this
  induction ord with
  | nil => intro b s hs _ p hp; exact hs p hp
  | cons k r ih =>
    intro b s hs ho p hp
    rw [List.foldl_cons] at hp
    have := ih (b + 32) _ (tstep_good (ho k (.head _)) hs) (fun k hk => ho k (.tail _ hk)) p hp
    rw [List.length_cons]
    rw [show b + 32 * (r.length + 1) = b + 32 + 32 * r.length by omega]
    exact this
end Mine
end

section
open PySem PySem.W PySem.Spec PySem.Calls PyProof.Rows
set_option maxRecDepth 100000
namespace Mine
section
variable {prog : Program} {w : World} {A : Around} {E : Value → Shared → Prop} {h₀ : Heap} {L : Addr} {m : Str → Option Value} {env : Env} {elt : PySem.Expr} {x x₂ : Str} {scope : Scope} {cl : List (Str × Addr)} {s : Shared} {S : List (Addr × Obj) → Prop} {P : Nat → Value → Prop} {Fin : List Value → List (Addr × Obj) → Prop} {news : List (Addr × Obj)}
/-- a comprehension over tuples of two; the ledger stays -/
theorem comp_keepP {n : Nat} (Inv : Nat → List Value → Prop) (hS : S news) (h0 : Inv 0 [])
    (item : ∀ i v, i < n → P i v → ∃ (t : Addr) (ot : Obj) (v₁ v₂ : Value) (nt : Nat), v = .ref t ∧ (t, ot) ∈ news ∧ ot.cls = .type "tuple" ∧ ot.data = .seq #[v₁, v₂] nt ∧
      ∀ ys I oI C oC D m₂ h tk (E' : Value → Shared → Prop), Inv i ys → LCg.NsObj oC m₂ → m₂ x = some v₁ → m₂ x₂ = some v₂ → Fr h₀ L h m → News h₀ L h ((I, oI) :: (C, oC) :: (D, LCg.lst ys) :: news) →
      wpAny (model prog w) A (eval elt (compEnvC scope cl C env)) (KEnd h₀ L m { s with heap := h, toks := tk } ((I, oI) :: (C, oC) :: (D, LCg.lst ys) :: news) (fun y => Inv (i + 1) (ys ++ [y]))) E' { s with heap := h, toks := tk })
    (fin : ∀ ys, Inv n ys → Fin ys news) : LCp.CompRestP prog w A h₀ L m env elt x x₂ scope cl s S P Fin n 0 [] news := by
  have key : ∀ (j i : Nat) (ys : List Value), i + j = n → Inv i ys → LCp.CompRestP prog w A h₀ L m env elt x x₂ scope cl s S P Fin j i ys news := by
    intro j
    induction j with
    | zero =>
      intro i ys hi hy
      have e : i = n := by omega
      subst e
      exact LCp.CompRestP.zero (fin ys hy)
    | succ j ih =>
      intro i ys hi hy
      refine LCp.CompRestP.succ ?_
      intro v hv
      obtain ⟨t, ot, v₁, v₂, nt, h1, h2, h3, h4, turn⟩ := item i v (by omega) hv
      refine ⟨t, ot, v₁, v₂, nt, h1, h2, h3, h4, ?_⟩
      intro I oI C oC D m₂ h tk E' hC hx hx2 F N off ne
      refine wpAny_mono (turn ys I oI C oC D m₂ h tk E' hy hC hx hx2 F N) (fun y s₂ hq => ?_) fun _ _ e => e
      obtain ⟨h', tk', led', rfl, F', N', sub, hp⟩ := hq
      exact ⟨h', tk', news, rfl, F', fun p hp => N' p (sub p hp), off, hS, ih (i + 1) _ (by omega) hp⟩
  exact key n 0 [] (by omega) h0
end
end Mine
end

section
open PySem PySem.W PySem.Spec PySem.Calls PyProof.Rows
set_option maxRecDepth 100000
set_option maxHeartbeats 8000000
namespace Mine
local macro_rules | `(tactic| walk_at "exec For Name Call cons nil") => `(tactic| (k_dflt (refine Mine.for_held ?_ (by intro _; rfl))))
theorem begin_L2W : True := by
  w_top off
  exact True.intro

noncomputable def wys (q : Int) : Nat → Int
  | 0 => 1
  | k + 1 => wys q k * (q - k)
theorem q8 {q : Int} (h1 : -2 ≤ q) (h2 : q ≤ 5) : q = -2 ∨ q = -1 ∨ q = 0 ∨ q = 1 ∨ q = 2 ∨ q = 3 ∨ q = 4 ∨ q = 5 := by
  obtain ⟨n, hn⟩ := Int.eq_ofNat_of_zero_le (show 0 ≤ q + 2 by omega)
  have h3 : n ≤ 7 := by omega
  have h4 : q = (n : Int) - 2 := by omega
  subst h4
  clear h1 h2 hn
  match n, h3 with
  | 0, _ => exact .inl rfl
  | 1, _ => exact .inr (.inl rfl)
  | 2, _ => exact .inr (.inr (.inl rfl))
  | 3, _ => exact .inr (.inr (.inr (.inl rfl)))
  | 4, _ => exact .inr (.inr (.inr (.inr (.inl rfl))))
  | 5, _ => exact .inr (.inr (.inr (.inr (.inr (.inl rfl)))))
  | 6, _ => exact .inr (.inr (.inr (.inr (.inr (.inr (.inl rfl))))))
  | 7, _ => exact .inr (.inr (.inr (.inr (.inr (.inr (.inr rfl))))))
theorem wys_lt (q : Int) (hq : -2 ≤ q) (hq2 : q ≤ 5) : ∀ k ≤ 4, (wys q k).natAbs < 4096 := by
  have := q8 hq hq2
  rcases this with rfl | rfl | rfl | rfl | rfl | rfl | rfl | rfl <;> decide
theorem range_sizeW (n : Nat) : Builtin.Range.rangeSize 0 (n : Int) 1 = (n : Int) := by
  unfold Builtin.Range.rangeSize
  simp only [show (1 : Int) > 0 from by decide, if_true]
  split <;> omega

theorem ways_c (w : World) (led : List (Addr × Obj)) (q : Int) (t0 t1 : Tok) (k : Nat) (hq : -2 ≤ q) (hq2 : q ≤ 5) (hk : k ≤ 4) :
    Spec w 128 1 led [.int q t0, .int (k : Int) t1] (fun v led' => (∃ t, v = .int (wys q k) t) ∧ led' = led) := by
  unfold Spec
  k_fill
  intro mean mg mb dp un gd cn cs a ccd cl outer A₀ base h₀ L m s Q E B F X N T hk' hd hu hret
  refine wpAny_call ?_
  k_dflt cell_enter
  k_steps
  refine Held.out ?_
  rename Fr _ _ _ _ => F1
  rename News _ _ _ _ => N1
  rename IsRange _ _ _ _ _ _ _ _ => R1
  refine for_range (n := k) (σ := Nat × Tok) (fun _ => led) (fun c => [(Str.ofString "q", .int q t0), (Str.ofString "ways", .int (wys q c.1) c.2)])
    (fun i c => c.1 = i) (fun c => c.1 = k) (0, _) rfl R1 (small_one (by decide) (by decide) (by omega) (by omega)) (range_sizeW k) F1 N1 rfl (by kst_all) ?turn ?els ?done rfl rfl (by with_unfolding_all passes_own)
  case turn =>
    rintro i t ⟨j, tw⟩ u h tk I oI hin hj hne F2 N2
    dsimp only [fmap] at F2 N2 hj hne ⊢
    generalize hP1 : FTEnd _ _ _ _ _ _ _ _ _ = P1
    revert P1
    refine Held.mk (Held.out ?_)
    intro P1 hP1
    subst hj
    have hb := wys_lt q hq hq2 j (by omega)
    k_steps
    rename Fr _ _ _ _ => F3
    rename News _ _ _ _ => N3
    rw [← hP1]
    dsimp only [FTEnd]
    have ew : wys q j * (q - (0 + (j : Int))) = wys q (j + 1) := by rw [Int.zero_add]; rfl
    rw [ew] at F3
    refine FEnd.intro (j + 1, _) F3 N3 rfl (by simp) (fun p hp => by simp [hp]) hne (by kst_all)
  case els =>
    rintro ⟨j, tw⟩ u h tk hj F2 N2
    exact els_nil hj F2 N2 (by kst_all)
  case done =>
    rintro ⟨j, tw⟩ u h tk hj F2 N2
    dsimp only [fmap] at F2 N2 hj ⊢
    subst hj
    k_steps
    exact hret _ _ _ _ (by assumption) (by assumption) ⟨⟨_, rfl⟩, rfl⟩
end Mine
end

section
open PySem PySem.W PySem.Spec PySem.Calls PyProof.Rows
set_option maxRecDepth 100000
set_option maxHeartbeats 8000000
namespace Mine
local macro_rules | `(tactic| walk_at "exec For Name List cons nil") => `(tactic| (k_dflt (refine Mine.for_held ?_ (by intro _; rfl))))
local macro_rules | `(tactic| walk_at "eval ListComp") => `(tactic| (refine Mine.Held.mk ?_))
local macro_rules | `(tactic| walk_at "CompSrcT") => `(tactic| (refine Mine.Held.mk ?_))
local macro_rules | `(tactic| walk_at "call builtin:list.append") => `(tactic| (refine Mine.Held.mk ?_))
local macro_rules | `(tactic| walk_at "call builtin:max") => `(tactic| (refine Mine.Held.mk ?_))
local macro_rules | `(tactic| walk_at "subscriptTail Name Name ref int") => `(tactic| (refine Mine.Held.mk ?_))
local macro_rules | `(tactic| walk_at "Mine mem") => `(tactic| first | exact List.Mem.head _ | assumption | (refine List.Mem.tail _ ?_; walk_at "Mine mem") | (refine List.mem_append_left _ ?_; walk_at "Mine mem") | (refine List.mem_append_right _ ?_; walk_at "Mine mem"))
local macro_rules | `(tactic| walk_at "Mine subs") => `(tactic| first | exact Mine.subS | (refine Mine.subT ?_; walk_at "Mine subs") | (refine Mine.subL ?_; walk_at "Mine subs") | (refine Mine.subR ?_; walk_at "Mine subs"))
local macro_rules | `(tactic| walk_at "Mine sub") => `(tactic| ((try dsimp only); first | exact Mine.subN | (refine Mine.subC ?_ ?_; (focus walk_at "Mine mem"); (walk_at "Mine sub")) | (refine Mine.subA ?_ ?_; (focus walk_at "Mine sub"); (walk_at "Mine sub")) | walk_at "Mine subs"))
theorem begin_L2X : True := by
  w_top off
  exact True.intro


/-- a ring's ties with their prices -/
noncomputable def pl (ps : List Int) (r j : Nat) : List (Int × Int) := ((List.range j).filter fun k => r.testBit k).map fun k => (ps.getD k 0, (k : Int))
theorem pl_succ (ps : List Int) (r j : Nat) : pl ps r (j + 1) = pl ps r j ++ if r.testBit j then [(ps.getD j 0, (j : Int))] else [] := by
  unfold pl
  rw [List.range_succ, List.filter_append, List.map_append]
  simp only [List.filter_cons, List.filter_nil]
  split <;> rfl
/-- the rings of three or four ties -/
noncomputable def rgs : List Nat := [7, 25, 42, 52, 30, 45, 51]
noncomputable def rgV (tk : Tok) : List Value := [.int 7 tk, .int 25 (tk + 1), .int 42 (tk + 1 + 1), .int 52 (tk + 1 + 1 + 1), .int 30 (tk + 1 + 1 + 1 + 1), .int 45 (tk + 1 + 1 + 1 + 1 + 1), .int 51 (tk + 1 + 1 + 1 + 1 + 1 + 1)]
theorem rgV_at (tk : Tok) {i : Nat} {v : Value} (h : (rgV tk)[i]? = some v) : ∃ t, v = .int ((rgs.getD i 0 : Nat) : Int) t := by
  unfold rgV at h
  match i with
  | 0 => cases h; exact ⟨_, rfl⟩
  | 1 => cases h; exact ⟨_, rfl⟩
  | 2 => cases h; exact ⟨_, rfl⟩
  | 3 => cases h; exact ⟨_, rfl⟩
  | 4 => cases h; exact ⟨_, rfl⟩
  | 5 => cases h; exact ⟨_, rfl⟩
  | 6 => cases h; exact ⟨_, rfl⟩
  | n + 7 => cases h
theorem mxAt_lt {ps : List (Int × Int)} : ∀ j, j < ps.length → mxAt ps j < ps.length := by
  intro j
  induction j with
  | zero => intro hj; exact hj
  | succ j ih =>
    intro hj
    unfold mxAt
    split
    · exact hj
    · exact ih (by omega)
/-- the dearest of a ring's ties -/
noncomputable def dear (ps : List Int) (r : Nat) : Int × Int := (pl ps r 6).getD (mxAt (pl ps r 6) ((pl ps r 6).length - 1)) (0, 0)
theorem dear_mem (ps : List Int) (r : Nat) (h : 0 < (pl ps r 6).length) : ∃ k < 6, r.testBit k = true ∧ dear ps r = (ps.getD k 0, (k : Int)) := by
  have hlt := mxAt_lt (ps := pl ps r 6) ((pl ps r 6).length - 1) (by omega)
  have hm : dear ps r ∈ pl ps r 6 := by
    unfold dear
    rw [List.getD_eq_getElem?_getD, List.getElem?_eq_getElem hlt]
    exact List.getElem_mem hlt
  obtain ⟨k, hk, e⟩ := List.mem_map.mp hm
  have := List.mem_filter.mp hk
  exact ⟨k, List.mem_range.mp this.1, this.2, e.symm⟩
theorem pl_pos (ps : List Int) {i : Nat} (h : i < 7) : 0 < (pl ps (rgs.getD i 0) 6).length := by
  unfold pl
  rw [List.length_map]
  have : ∀ i < 7, 0 < ((List.range 6).filter fun k => (rgs.getD i 0).testBit k).length := by decide
  exact this i h
theorem bit_tst : ∀ r < 64, ∀ j < 6, (Builtin.bitAnd (((r : Nat) : Int).fdiv (2 ^ (0 + ((j : Nat) : Int)).toNat)) 1 != 0) = r.testBit j := by decide +kernel
/-- a ring without its dearest tie -/
noncomputable def brk1 (ps : List Int) (r : Nat) : Int := (r : Int) - 1 * 2 ^ (dear ps r).2.toNat
noncomputable def brkI (ps : List Int) (g i : Nat) : List Int := ((rgs.take i).filter fun r => r ||| g == g).map (brk1 ps)
theorem rgs_take : ∀ i < 7, rgs.take (i + 1) = rgs.take i ++ [rgs.getD i 0] := by decide
theorem brkI_yes {ps : List Int} {g i r : Nat} (hi : i < 7) (hr : rgs.getD i 0 = r) (h : Builtin.bitOr (r : Int) (g : Int) = (g : Int)) : brkI ps g (i + 1) = brkI ps g i ++ [brk1 ps r] := by
  rw [bitOr_nat] at h
  have h' : r ||| g = g := Int.ofNat.inj h
  unfold brkI
  rw [rgs_take i hi, hr, List.filter_append, List.map_append]
  simp [h']
theorem brkI_no {ps : List Int} {g i r : Nat} (hi : i < 7) (hr : rgs.getD i 0 = r) (h : Builtin.bitOr (r : Int) (g : Int) ≠ (g : Int)) : brkI ps g (i + 1) = brkI ps g i := by
  rw [bitOr_nat] at h
  have h' : r ||| g ≠ g := fun e => h (congrArg Int.ofNat e)
  unfold brkI
  rw [rgs_take i hi, hr, List.filter_append, List.map_append]
  simp [h']
theorem brkI_len (ps : List Int) (g i : Nat) : (brkI ps g i).length ≤ 7 := by
  unfold brkI
  rw [List.length_map]
  refine Nat.le_trans (List.length_filter_le _ _) ?_
  rw [List.length_take]
  exact Nat.min_le_right _ _
theorem broken_c (w : World) (led : List (Addr × Obj)) (l : Addr) (us : List Value) (ps : List Int) (n g : Nat) (t0 : Tok) (hus : IntsAre us ps) (hl : (l, listOf us.toArray n) ∈ led) (hg : g < 64) (h6 : ps.length = 6) :
    Spec w 121 3 led [.int (g : Int) t0, .ref l] (fun v led' => ∃ a bs k, v = .ref a ∧ led' = (a, listOf bs.toArray k) :: led ∧ (∀ p ∈ led, p.1 < a) ∧ IntsAre bs (brkI ps g 7)) := by
  unfold Spec
  k_fill
  intro mean mg mb dp un gd cn cs a ccd cl outer A₀ base h₀ L m s Q E B F X N T hk' hd hu hret
  refine wpAny_call ?_
  k_dflt (refine' code_defC ?k1 ?k2 ?k3 ?k4 ?k5 ?kA ?kF ?kK ?k6 ?k7 ?k8 ?k9 ?kB ?kD ?_ ?c2 ?c3 ?c4; (case kA => exact rfl); (case kF => exact rfl); (case kK => first | assumption | exact rfl); (case k1 => k_asm); (case k2 => k_asm); (case k3 => k_asm); (case k4 => k_asm); (case k5 => k_asm); (case k6 => k_is); (case k7 => k_is); (case k8 => ktr_room); (case k9 => exact BindsTo.of_eq rfl); (case kB => exact rfl); (case kD => decide +kernel); (case c2 => exact rfl); (case c3 => exact rfl); (case c4 => exact rfl); k_whole; intro g1 L1 h1 tk' cells' FG1 F1 N1 Y1 B1 X1 T1 l1; (have hY := CellsAre.two Y1; obtain ⟨oR, oP, hE, dR, dP⟩ := hY; subst hE; clear Y1); (try simp only [List.cons_append, List.nil_append] at N1); (try dsimp only); (try k_lift B1))
  have dP' : oP.data = .cell (some (.ref l)) := dP
  clear dP
  rename oP.data = _ => dP
  k_steps
  refine Held.out ?_
  rename Fr _ _ _ _ => F2
  rename News _ _ _ _ => N2
  rename_i Br _ l2 _ Rg _ l3
  obtain ⟨tkR, htk⟩ : ∃ t : Tok, t = tk := ⟨_, rfl⟩
  subst htk
  refine for_listG (σ := Obj × List Value × List Int × Nat) (ax := Rg) (vs := rgV tkR) (e := 0)
    (fun c => (Rg, listOf (rgV tkR).toArray 0) :: (Br, listOf c.2.1.toArray c.2.2.2) :: (L1 + 1 + 1, c.1) :: (L1 + 1, oP) :: led)
    (fun c => [(Str.ofString "graph", .int (g : Int) t0), (Str.ofString "broken", .ref Br)])
    (fun i c => IntsAre c.2.1 (brkI ps g i) ∧ ∃ v₀, c.1.data = .cell v₀) (fun c => IntsAre c.2.1 (brkI ps g 7)) (oR, [], [], 0) rfl (fun _ _ _ => .head _) F2 N2 ⟨.nil, _, dR⟩ (by kst_all) ?turn ?els ?done (by with_unfolding_all passes_own)
  case turn =>
    rintro i v ⟨oR1, bs, xs, e⟩ u h tk2 I oI hin hv ⟨hbs, v₀, dR1⟩ hne F3 N3
    dsimp only [fmap] at F3 N3 hbs dR1 hne ⊢
    generalize hP1 : FTEnd _ _ _ _ _ _ _ _ _ = P1
    revert P1
    refine Held.mk (Held.out ?_)
    intro P1 hP1
    obtain ⟨tv, rfl⟩ := rgV_at tkR hv
    refine storeX_C F3 N3 rfl (.tail (Nat.ne_of_gt l3.2.1) (.tail (Nat.ne_of_gt l2.1) (.head ?hapC))) dR1 ?_ rfl rfl
    case hapC =>
      intro p hp
      rcases List.mem_append.mp hp with hp | hp
      · rcases List.mem_cons.mp hp with rfl | hp
        · exact Nat.ne_of_lt (Nat.lt_succ_self _)
        · exact Nat.ne_of_lt (Nat.lt_succ_of_lt (Nat.lt_succ_of_lt (l1 p hp)))
      · rw [List.mem_singleton.mp hp]
        exact (hne (L1 + 1 + 1, oR1) (by walk_at "Mine mem")).symm
    intro h5 oR2 F5 N5 dR2
    generalize hr : rgs.getD i 0 = r at *
    have hr64 : r < 64 := by
      rw [← hr, List.getD_eq_getElem?_getD]
      have : ∀ i < 7, rgs[i]?.getD 0 < 64 := by decide
      exact this i hin
    k_steps
    · refine Held.out ?_
      rename _ = (g : Int) => hring
      refine LCt.ListComp_T (F₀ := F5) (by with_unfolding_all rfl) (by decide) (by rfl) (by decide) (by rfl) ?_
      k_steps
      refine Held.out ?_
      rename Fr _ _ _ _ => F6
      rename News _ _ _ _ => N6
      rename IsRange _ _ _ _ _ _ _ _ => R6
      refine LCt.CompSrcT.range (n := 6) rfl F6 N6 R6 (by decide) (by decide) (by rw [PySem.sizeLine_eq]; omega) ?_
      intro g6
      refine comp_growT (fun j ys mo => Prs mo ys (pl ps r j)) (fun _ => True.intro) .nil ?cturn ?cfin
      case cturn =>
        rintro j v ys mo I2 oI2 C oC D m₂ h tk3 E' hj ⟨tw, rfl⟩ hys hNs hmx F7 N7
        generalize hP2 : GTst _ _ _ _ _ _ _ _ _ _ _ _ _ _ _ _ = P2
        revert P2
        refine Held.mk (Held.out ?_)
        intro P2 hP2
        simp only [List.cons_append] at N7
        k_steps
        rw [bit_tst r hr64 j hj]
        cases hb : r.testBit j with
        | false =>
          rw [← hP2]
          refine GTst.no rfl F7 N7 (by walk_at "Mine sub") ?_
          rw [pl_succ, hb, if_neg Bool.false_ne_true, List.append_nil]
          exact hys
        | true =>
          rw [← hP2]
          refine GTst.yes rfl ?_
          obtain ⟨tp, hup⟩ : ∃ t, us[j]? = some (.int (ps.getD j 0) t) := hus.get j _ (by rw [List.getD_eq_getElem?_getD, List.getElem?_eq_getElem (by omega)]; rfl)
          have ej : (0 : Int) + (j : Int) = ((j : Nat) : Int) := Int.zero_add _
          rw [ej] at hmx
          k_steps
          refine Held.out ?_
          refine item_cell (N7 (l, listOf us.toArray n) (by walk_at "Mine mem")).1 (by omega) (by omega) (by rw [Int.toNat_natCast]; exact hup) ?_
          k_steps
          rename Fr _ _ _ _ => F9
          rename News _ _ _ _ => N9
          rename _ ∧ _ => l9
          rename_i _ Tq _
          refine GEnd.intro [(Tq, tup2 (ps.getD j 0) (j : Int) tp tw 0)] F9 N9 (fun p hp => .tail _ hp) (fun p hp => by rw [List.mem_singleton.mp hp]; exact .head _) (Abv.cons ⟨l9.1, l9.2.1, l9.2.2.1⟩ Abv.nil) ?_
          rw [pl_succ, if_pos hb]
          exact Prs.append (Prs.mono hys fun p hp => List.mem_append_left _ hp) (.cons (List.mem_append_right _ (.head _)) .nil)
      case cfin =>
        intro ys mo hys Dl h8 tk8 F8 N8 off8
        simp only [List.cons_append] at N8
        have hpos : 0 < (pl ps r 6).length := by rw [← hr]; exact pl_pos ps hin
        obtain ⟨kd, hkd, hkb, hde⟩ := dear_mem ps r hpos
        k_steps
        refine Held.out ?_
        refine max_tups (ps := pl ps r 6) (vs := ys) (n := ys.length) (l := Dl) rfl (by ktr_units) F8 N8 (.head _) (Prs.mono hys (by walk_at "Mine subs")) hpos fun v h9 tk9 hv F9 N9 => ?_
        obtain ⟨ad, td, ud, nd, hvd, hmd⟩ := hys.get (mxAt_lt (ps := pl ps r 6) ((pl ps r 6).length - 1) (by omega))
        rw [hvd] at hv
        cases hv
        rw [show (pl ps r 6).getD (mxAt (pl ps r 6) ((pl ps r 6).length - 1)) (0, 0) = (ps.getD kd 0, (kd : Int)) from hde] at hmd
        k_steps
        rename News _ _ _ _ => N10
        refine item_tupleT (l := [.int (ps.getD kd 0) td, .int (kd : Int) ud]) (News.isTup (n := nd) (d := none) (sl := #[]) N10 ?hmem) (by decide) (by decide) rfl rfl ?_ (by with_unfolding_all rfl)
        case hmem =>
          have : (ad, ({ cls := .type "tuple", dict := none, data := .seq [.int (ps.getD kd 0) td, .int (kd : Int) ud].toArray nd, slots := #[] } : Obj)) ∈ mo := hmd
          walk_at "Mine mem"
        k_steps
        refine Held.out ?_
        rename Fr _ _ _ _ => F11
        rename News _ _ _ _ => N11
        have hbl := hbs.length
        have hbl7 := brkI_len ps g i
        have hneB : ∀ p ∈ (Rg, listOf (rgV tkR).toArray 0) :: (L1 + 1 + 1, oR2) :: (L1 + 1, oP) :: (led ++ [(I, oI)]), p.1 ≠ Br := by
          exact List.forall_mem_cons.mpr ⟨Nat.ne_of_gt l3.1, List.forall_mem_cons.mpr ⟨Nat.ne_of_lt l2.1, List.forall_mem_cons.mpr ⟨Nat.ne_of_lt l2.2.1, List.forall_mem_append.mpr ⟨fun p hp => Nat.ne_of_lt (allLt_memX l2.2.2 p hp), List.forall_mem_cons.mpr ⟨(hne _ (.tail _ (.head _))).symm, fun _ h => nomatch h⟩⟩⟩⟩⟩
        have N12 := newsSub (led' := (Br, listOf bs.toArray e) :: (Rg, listOf (rgV tkR).toArray 0) :: (L1 + 1 + 1, oR2) :: (L1 + 1, oP) :: (led ++ [(I, oI)])) N11 (by walk_at "Mine sub")
        refine append_K F11 N12 (.head hneB) (fun h13 F13 N13 => ?_) (by rw [List.size_toArray, PySem.sizeLine_eq]; omega)
        k_steps
        rw [← hP1]
        dsimp only [FTEnd]
        simp only [List.push_toArray] at N13
        have ev : (r : Int) - 1 * 2 ^ ((kd : Int)).toNat = brk1 ps r := by unfold brk1; rw [hde]
        rw [ev] at N13
        refine FEnd.intro (oR2, bs ++ [.int (brk1 ps r) (tk9 + 1 + 1)], [], e + 1) F13 N13 ⟨?_, _, dR2⟩ (by walk_at "Mine mem") (by walk_at "Mine sub") (fun p hp => ?_) (by kst_all)
        · rw [brkI_yes hin hr hring]
          exact hbs.append (.cons _ _ .nil)
        · rcases List.mem_cons.mp hp with rfl | hp
          · exact hne _ (.head _)
          rcases List.mem_cons.mp hp with rfl | hp
          · exact hne (Br, listOf bs.toArray e) (by walk_at "Mine mem")
          rcases List.mem_cons.mp hp with rfl | hp
          · exact hne (L1 + 1 + 1, oR1) (by walk_at "Mine mem")
          · exact hne p (.tail _ (.tail _ (.tail _ hp)))
    · rename _ ≠ (g : Int) => hring
      rename Fr _ _ _ _ => F6
      rename News _ _ _ _ => N6
      rw [← hP1]
      dsimp only [FTEnd]
      refine FEnd.intro (oR2, bs, [], e) F6 N6 ⟨?_, _, dR2⟩ (by walk_at "Mine mem") (by walk_at "Mine sub") (fun p hp => ?_) (by kst_all)
      · rw [brkI_no hin hr hring]
        exact hbs
      · rcases List.mem_cons.mp hp with rfl | hp
        · exact hne _ (.head _)
        rcases List.mem_cons.mp hp with rfl | hp
        · exact (hne _ (.tail _ (.head _)))
        rcases List.mem_cons.mp hp with rfl | hp
        · exact hne (L1 + 1 + 1, oR1) (by walk_at "Mine mem")
        · exact hne p (.tail _ (.tail _ (.tail _ hp)))
  case els =>
    rintro ⟨oR1, bs, xs, e⟩ u h tk2 ⟨hbs, v₀, dR1⟩ F3 N3
    exact els_nil hbs F3 N3 (by kst_all)
  case done =>
    rintro ⟨oR1, bs, xs, e⟩ u h tk2 hbs F3 N3
    dsimp only [fmap] at F3 N3 hbs ⊢
    k_steps
    exact hret _ _ _ _ (by assumption) (newsSub (by assumption) (by walk_at "Mine sub")) ⟨Br, bs, e, rfl, rfl, (fun p hp => allLt_memX l2.2.2 p hp), hbs⟩
end Mine
end

section
open PySem PySem.W PySem.Spec PySem.Calls PyProof.Rows
set_option maxRecDepth 100000
set_option maxHeartbeats 8000000
namespace Mine
local macro_rules | `(tactic| walk_at "exec For Name Name cons nil") => `(tactic| (k_dflt (refine Mine.for_held ?_ (by intro _; rfl))))
local macro_rules | `(tactic| walk_at "exec For Tuple Name cons nil") => `(tactic| (k_dflt (refine Mine.for_held ?_ (by intro _; rfl))))
local macro_rules | `(tactic| walk_at "exec While Compare cons nil") => `(tactic| (refine Mine.Held.mk ?_))
local macro_rules | `(tactic| walk_at "call ref") => `(tactic| (refine Mine.Held.mk ?_))
local macro_rules | `(tactic| walk_at "compareOp NotEq ref ref") => `(tactic| (refine Mine.Held.mk ?_))
local macro_rules | `(tactic| walk_at "exec Assign cons ListComp") => `(tactic| (refine Mine.Held.mk ?_))
local macro_rules | `(tactic| walk_at "eval ListComp") => `(tactic| (refine Mine.Held.mk ?_))
local macro_rules | `(tactic| walk_at "CompSrc") => `(tactic| (refine Mine.Held.mk ?_))
local macro_rules | `(tactic| walk_at "CompSrcP") => `(tactic| (refine Mine.Held.mk ?_))
local macro_rules | `(tactic| walk_at "subscriptTail Name Name ref int") => `(tactic| (refine Mine.Held.mk ?_))
local macro_rules | `(tactic| walk_at "call builtin:list.append") => `(tactic| (refine Mine.Held.mk ?_))
local macro_rules | `(tactic| walk_at "storeName") => `(tactic| ((first | (with_reducible show wpAny _ _ (storeName _ (Str.ofString "one") _) _ _ _) | (with_reducible show wpAny _ _ (storeName _ (Str.ofString "other") _) _ _ _)); (refine Mine.Held.mk ?_)))
local macro_rules | `(tactic| walk_at "Mine mem") => `(tactic| first | exact List.Mem.head _ | assumption | (refine List.Mem.tail _ ?_; walk_at "Mine mem") | (refine List.mem_append_left _ ?_; walk_at "Mine mem") | (refine List.mem_append_right _ ?_; walk_at "Mine mem"))
local macro_rules | `(tactic| walk_at "Mine subs") => `(tactic| first | exact Mine.subS | (refine Mine.subT ?_; walk_at "Mine subs") | (refine Mine.subL ?_; walk_at "Mine subs") | (refine Mine.subR ?_; walk_at "Mine subs"))
local macro_rules | `(tactic| walk_at "Mine sub") => `(tactic| ((try dsimp only); first | exact Mine.subN | (refine Mine.subC ?_ ?_; (focus walk_at "Mine mem"); (walk_at "Mine sub")) | (refine Mine.subA ?_ ?_; (focus walk_at "Mine sub"); (walk_at "Mine sub")) | walk_at "Mine subs"))
theorem begin_L2J : True := by
  w_top off
  exact True.intro

noncomputable def row0 : SRow := ⟨0, 0, 0, 0, 0, [], 0, []⟩
theorem tieE_at : ∀ k < 6, ∃ o1 o2 : Nat, o1 < 4 ∧ o2 < 4 ∧ tieE.getD k (0, 0) = (o1, o2) ∧ (tieE.map fun p => ((p.1 : Int), (p.2 : Int))).getD k (0, 0) = ((o1 : Int), (o2 : Int))
  | 0, _ => ⟨0, 1, by decide, by decide, rfl, rfl⟩
  | 1, _ => ⟨0, 2, by decide, by decide, rfl, rfl⟩
  | 2, _ => ⟨1, 2, by decide, by decide, rfl, rfl⟩
  | 3, _ => ⟨0, 3, by decide, by decide, rfl, rfl⟩
  | 4, _ => ⟨1, 3, by decide, by decide, rfl, rfl⟩
  | 5, _ => ⟨2, 3, by decide, by decide, rfl, rfl⟩
  | n + 6, h => absurd h (by omega)
theorem row_at {rs : List SRow} {i : Nat} (h : i < rs.length) : rs[i]? = some (rs.getD i row0) ∧ rs.getD i row0 ∈ rs := by
  rw [List.getD_eq_getElem?_getD, List.getElem?_eq_getElem h]
  exact ⟨rfl, List.getElem_mem h⟩
theorem getD_natI (l : List Nat) (k : Nat) : (l.map Int.ofNat).getD k 0 = ((l.getD k 0 : Nat) : Int) := by
  simp only [List.getD_eq_getElem?_getD, List.getElem?_map]
  cases l[k]? <;> rfl
theorem tstep1_no {k o1 o2 : Nat} {p : Nat × List Nat} (hto : tieE.getD k (0, 0) = (o1, o2)) (h : p.2.getD o1 0 = p.2.getD o2 0) : tstep1 k p = [] := by
  unfold tstep1
  rw [hto]
  exact if_pos h
theorem tstep1_yes {k o1 o2 : Nat} {p : Nat × List Nat} (hto : tieE.getD k (0, 0) = (o1, o2)) (h : p.2.getD o1 0 ≠ p.2.getD o2 0) : tstep1 k p = [p, (p.1 + 2 ^ k, mrg o1 o2 p.2)] := by
  unfold tstep1
  rw [hto]
  exact if_neg h
theorem off4 {a L : Nat} (h1 : a ≠ L + 1) (h2 : a ≠ L + 1 + 1) (h3 : a ≠ L + 1 + 1 + 1) (h4 : a ≠ L + 1 + 1 + 1 + 1) : ∀ x : Nat, L < x → x ≤ L + 1 + 1 + 1 + 1 → a ≠ x := by
  intro x hx hx2
  omega
theorem take_snoc {α : Type} {l : List α} {j : Nat} {a : α} (h : l[j]? = some a) : l.take (j + 1) = l.take j ++ [a] := by
  rw [List.take_add_one, h]
  rfl
/-- where the loop over the heap stands -/
structure LSt where
  hs : List Value
  hp : List (Int × Int)
  hk : Nat
  done : List Nat
  rs : List SRow
  S : Addr
  se : Nat
  tl : List (Addr × Obj)
  oM : Obj
  oO : Obj
  oN : Obj
/-- a tie with its price -/
noncomputable def key (ps : List Int) (k : Nat) : Int × Int := (ps.getD k 0, (k : Int))
noncomputable def LInv (ps : List Int) (ts : List Nat) (mo : List (Addr × Obj)) (L1 b Dh : Addr) (c : LSt) : Prop :=
  (Prs mo c.hs c.hp ∧ HeapFrom 0 c.hp ∧ (c.done.map (key ps) ++ c.hp).Perm (ts.map (key ps)) ∧ c.done.Pairwise (fun i j => plt (key ps j) (key ps i) = false) ∧ ∀ d ∈ c.done, ∀ q ∈ c.hp, plt q (key ps d) = false) ∧
  (Sts c.tl c.rs ∧ c.rs.map SRow.key = tleft c.done ∧ (∀ p ∈ c.tl, (∀ x : Nat, L1 < x → x ≤ b → p.1 ≠ x) ∧ p.1 ≠ Dh) ∧ b < c.S ∧ Dh < c.S) ∧ (∃ v₀, c.oM.data = .cell v₀) ∧ (∃ v₀, c.oO.data = .cell v₀) ∧ (∃ v₀, c.oN.data = .cell v₀)
theorem left_c (w : World) (led : List (Addr × Obj)) (lt lh lp : Addr) (tv hv pv : List Value) (nt nh np : Nat) (ts : List Nat) (ps : List Int)
    (hlt : (lt, listOf tv.toArray nt) ∈ led) (htv : Prs led tv (tieE.map fun p => ((p.1 : Int), (p.2 : Int)))) (hlh : (lh, listOf hv.toArray nh) ∈ led) (hhv : IntsAre hv (ts.map Int.ofNat)) (hts : ∀ k ∈ ts, k < 6) (htl : ts.length ≤ 6)
    (hlp : (lp, listOf pv.toArray np) ∈ led) (hpv : IntsAre pv ps) (h6 : ps.length = 6) :
    Spec w 116 5 led [.ref lt, .ref lh, .ref lp]
      (fun v led' => ∃ a us k ord, v = .ref a ∧ led' = (a, listOf us.toArray k) :: led ∧ (∀ p ∈ led, p.1 ≠ a) ∧ ord.Perm ts ∧ ord.Pairwise (fun i j => plt (key ps j) (key ps i) = false) ∧ IntsAre us ((tleft ord).map fun p => (p.1 : Int))) := by
  unfold Spec
  k_fill
  intro mean mg mb dp un gd cn cs a ccd cl outer A₀ base h₀ L m s Q E B F X N T hk' hd hu hret
  refine wpAny_call ?_
  k_dflt (refine' code_defC ?k1 ?k2 ?k3 ?k4 ?k5 ?kA ?kF ?kK ?k6 ?k7 ?k8 ?k9 ?kB ?kD ?_ ?c2 ?c3 ?c4; (case kA => exact rfl); (case kF => exact rfl); (case kK => first | assumption | exact rfl); (case k1 => k_asm); (case k2 => k_asm); (case k3 => k_asm); (case k4 => k_asm); (case k5 => k_asm); (case k6 => k_is); (case k7 => k_is); (case k8 => ktr_room); (case k9 => exact BindsTo.of_eq rfl); (case kB => exact rfl); (case kD => decide +kernel); (case c2 => exact rfl); (case c3 => exact rfl); (case c4 => exact rfl); k_whole; intro g1 L1 h1 tk' cells' FG1 F1 N1 Y1 B1 X1 T1 l1; (have hY := CellsAre.four Y1; obtain ⟨oM, oO, oN, oP, hE, dM, dO, dN, dP⟩ := hY; subst hE; clear Y1); (try simp only [List.cons_append, List.nil_append] at N1); (try dsimp only); (try k_lift B1))
  have dP' : oP.data = .cell (some (.ref lp)) := dP
  clear dP
  rename oP.data = _ => dP
  have hhl := hhv.length
  rw [List.length_map] at hhl
  k_steps
  refine Held.out ?_
  refine LCg.Assign_ListComp_U (F₀ := F1) (by rfl) (by with_unfolding_all rfl) (by with_unfolding_all rfl) (by decide) (by rfl) (by decide) (by rfl) (by rfl) (by rfl) ?_
  k_steps
  refine Held.out ?_
  rename Fr _ _ _ _ => F2
  rename News _ _ _ _ => N2
  refine LCg.CompSrc.ledger (its := hv.toArray) (k := nh) rfl F2 N2 (show (lh, listOf hv.toArray nh) ∈ _ from by walk_at "Mine mem") (by rw [List.size_toArray, PySem.sizeLine_eq]; omega) ?_
  intro g2
  refine comp_grow (fun j ys mo => Prs mo ys ((ts.take j).map (key ps)) ∧ ∀ p ∈ mo, L1 + 1 + 1 + 1 + 1 < p.1) (fun _ => .inr ⟨_, show (lh, listOf hv.toArray nh) ∈ _ from by walk_at "Mine mem", rfl, _, rfl⟩) ⟨.nil, fun _ h => nomatch h⟩ ?cturn ?cfin
  case cturn =>
    rintro j v ys mo I oI C oC D m₂ h tk3 E' hj hv2 ⟨hys, hmo⟩ hNs hmx F3 N3
    simp only [List.cons_append] at N3
    rw [List.size_toArray] at hj
    obtain ⟨tk4, hve⟩ := hhv.int_at j v (by simpa using hv2)
    rw [show (ts.map Int.ofNat).getD j 0 = ((ts.getD j 0 : Nat) : Int) from by
      simp only [List.getD_eq_getElem?_getD, List.getElem?_map]
      cases ts[j]? <;> rfl] at hve
    subst hve
    have hjt : j < ts.length := by omega
    have hk6 : ts.getD j 0 < 6 := by
      rw [List.getD_eq_getElem?_getD, List.getElem?_eq_getElem hjt]
      exact hts _ (List.getElem_mem hjt)
    generalize hkk : ts.getD j 0 = k at *
    obtain ⟨tp, hup⟩ : ∃ t, pv[k]? = some (.int (ps.getD k 0) t) := hpv.get k _ (by rw [List.getD_eq_getElem?_getD, List.getElem?_eq_getElem (by omega)]; rfl)
    k_steps
    refine Held.out ?_
    refine item_cell (N3 (lp, listOf pv.toArray np) (by walk_at "Mine mem")).1 (by omega) (by omega) (by rw [Int.toNat_natCast]; exact hup) ?_
    k_steps
    rename Fr _ _ _ _ => F4
    rename News _ _ _ _ => N4
    rename _ ∧ _ => l4
    rename_i Tq _
    refine GEnd.intro [(Tq, tup2 (ps.getD k 0) (k : Int) tp tk4 0)] F4 N4 (fun p hp => .tail _ hp) (fun p hp => by rw [List.mem_singleton.mp hp]; exact .head _) (Abv.cons ⟨l4.1, l4.2.1, l4.2.2.1⟩ Abv.nil) ⟨?_, ?_⟩
    · have et : (ts.take (j + 1)).map (key ps) = (ts.take j).map (key ps) ++ [key ps k] := by
        rw [List.take_add_one, List.getElem?_eq_getElem hjt, List.map_append]
        have : ts[j] = k := by rw [← hkk, List.getD_eq_getElem?_getD, List.getElem?_eq_getElem hjt]; rfl
        rw [this]
        rfl
      rw [et]
      exact Prs.append (Prs.mono hys fun p hp => List.mem_append_left _ hp) (.cons (List.mem_append_right _ (.head _)) .nil)
    · intro p hp
      rcases List.mem_append.mp hp with hp | hp
      · exact hmo p hp
      · rw [List.mem_singleton.mp hp]
        exact l4.2.2.2.1
  case cfin =>
    rintro ys mo ⟨hys, hmo⟩ Dh h3 tk3 F3 N3 off3
    rw [List.size_toArray, hhl, List.take_length] at hys
    simp only [List.cons_append] at N3 off3
    have o3 := off1_memX off3
    k_steps
    refine Held.out ?_
    rename Fr _ _ _ _ => F4
    rename News _ _ _ _ => N4
    have hysl := hys.length
    rw [List.length_map] at hysl
    refine Spec.use (heapify_c w mo _ Dh ys _ ys.length o3 (by walk_at "Mine subs") hys (by rw [List.length_map]; omega)) (by assumption) F4 (by assumption) N4 (by assumption) rfl (by ktr_room) (by ktr_units) ?_
    rintro v led' h' tk' F5 N5 ⟨rfl, hs0, ps0, rfl, hP0, hH0, hperm0⟩
    k_steps
    refine Held.out ?_
    rename Fr _ _ _ _ => F6
    rename News _ _ _ _ => N6
    rename_i M0 _ lM T0 _ lT S0 _ lS h9
    obtain ⟨tT, us0, N6', hus0⟩ : ∃ (t : Tok) (us : List Value), News g1 L1 h9 ((S0, listOf #[.ref T0] 0) :: (T0, tupI 0 t M0 0) :: (M0, listOf us.toArray 0) :: (Dh, listOf hs0.toArray ys.length) :: (L1 + 1 + 1 + 1 + 1, oM) :: (L1 + 1 + 1 + 1, oO) :: (L1 + 1 + 1, oN) :: (L1 + 1, oP) :: (led ++ mo)) ∧ IntsAre us ([0, 1, 2, 3].map Int.ofNat) :=
      ⟨_, _, N6, .cons _ _ (.cons _ _ (.cons _ _ (.cons _ _ .nil)))⟩
    refine whileL (σ := LSt)
      (fun c => (c.S, listOf (refs c.rs).toArray c.se) :: (Dh, listOf c.hs.toArray c.hk) :: (L1 + 1 + 1 + 1 + 1, c.oM) :: (L1 + 1 + 1 + 1, c.oO) :: (L1 + 1 + 1, c.oN) :: (L1 + 1, oP) :: (led ++ (mo ++ c.tl)))
      (fun c => [(Str.ofString "ties", .ref lt), (Str.ofString "heap", .ref Dh), (Str.ofString "sets", .ref c.S)])
      (LInv ps ts mo L1 (L1 + 1 + 1 + 1 + 1) Dh) (fun c => LInv ps ts mo L1 (L1 + 1 + 1 + 1 + 1) Dh c ∧ c.hp = []) (fun c => c.hp.length)
      ⟨hs0, ps0, ys.length, [], [⟨T0, tT, 0, M0, 0, us0, 0, [0, 1, 2, 3]⟩], S0, 0, [(T0, tupI 0 tT M0 0), (M0, listOf us0.toArray 0)], oM, oO, oN⟩ F6 ?n0 ?i0 (by kst_all) ?turn ?done
    case n0 =>
      exact newsSub N6' (by walk_at "Mine sub")
    case i0 =>
      refine ⟨⟨hP0, hH0, hperm0, .nil, fun _ h => nomatch h⟩, ⟨?_, rfl, ?_, ?_, ?_⟩, ⟨_, dM⟩, ⟨_, dO⟩, ⟨_, dN⟩⟩
      · intro r hr
        rw [List.mem_singleton.mp hr]
        exact ⟨.head _, .tail _ (.head _), hus0⟩
      · intro p hp
        simp only [List.mem_cons, List.not_mem_nil, or_false] at hp
        rcases hp with rfl | rfl
        · exact ⟨fun x _ h2 => Nat.ne_of_gt (Nat.lt_of_le_of_lt h2 lT.2.2.1), Nat.ne_of_gt lT.2.1⟩
        · exact ⟨fun x _ h2 => Nat.ne_of_gt (Nat.lt_of_le_of_lt h2 lM.2.1), Nat.ne_of_gt lM.1⟩
      · exact lS.2.2.2.1
      · exact lS.2.2.1
    case done =>
      rintro c u h tk ⟨hI, hnil⟩ F7 N7
      obtain ⟨⟨hP, hH, hperm, hpw, hord⟩, ⟨hst, hkeys, htl2, hSb, hSD⟩, _⟩ := hI
      dsimp only [fmap] at F7 N7 ⊢
      k_steps
      refine Held.out ?_
      refine LCp.ListComp_P (F₀ := F7) (by with_unfolding_all rfl) (by decide) (by rfl) (by decide) (by rfl) (by rfl) (by decide) ?_
      k_steps
      rename Fr _ _ _ _ => F8
      rename News _ _ _ _ => N8
      have hrefl : (refs c.rs).length = c.rs.length := List.length_map _
      have hdl : c.done.length ≤ 6 := by
        have := hperm.length_eq
        simp only [List.length_append, List.length_map] at this
        omega
      have hrl : c.rs.length ≤ 64 := by
        have h1 := tleft_len c.done
        rw [← hkeys, List.length_map] at h1
        exact Nat.le_trans h1 (Nat.pow_le_pow_right (by decide) hdl)
      refine LCp.SrcLP.ledger (its := (refs c.rs).toArray) (k := c.se) rfl F8 N8 (.head _) (by rw [List.size_toArray, PySem.sizeLine_eq]; omega) ?_
      intro g9
      refine comp_keepP (fun j ys => IntsAre ys ((c.rs.take j).map fun r => (r.num : Int))) (.inr ⟨_, .head _, rfl, _, rfl⟩) .nil ?item ?fin
      case item =>
        intro i v hi hv
        rw [List.size_toArray, hrefl] at hi
        obtain ⟨hri, hrm⟩ := row_at hi
        obtain ⟨hr1, hr2, hr3⟩ := hst _ hrm
        refine ⟨_, _, .int ((c.rs.getD i row0).num : Int) (c.rs.getD i row0).t, .ref (c.rs.getD i row0).l, (c.rs.getD i row0).nt, ?_, (show ((c.rs.getD i row0).a, tupI (c.rs.getD i row0).num (c.rs.getD i row0).t (c.rs.getD i row0).l (c.rs.getD i row0).nt) ∈ _ from by walk_at "Mine mem"), rfl, rfl, ?_⟩
        · have h1 : (refs c.rs)[i]? = some v := by simpa using hv
          unfold refs at h1
          rw [List.getElem?_map, hri] at h1
          exact (Option.some.inj h1).symm
        · intro ys I oI C oC D m₂ h tk E' hys hNs hmx hmx2 F9 N9
          k_steps
          refine KEnd.intro F9 N9 (fun p hp => hp) ?_
          rw [take_snoc hri, List.map_append]
          exact hys.append (.cons _ _ .nil)
      case fin =>
        intro ys hys D h10 tk10 F10 N10 off10
        rw [List.size_toArray, hrefl, List.take_length] at hys
        have o10 := off1_memX off10
        k_steps
        refine hret _ _ _ _ (by assumption) (newsSub (by assumption) (by walk_at "Mine sub")) ⟨D, ys, _, c.done, rfl, rfl, fun p hp => o10 p (by walk_at "Mine mem"), ?_, hpw, ?_⟩
        · rw [hnil, List.append_nil] at hperm
          have h1 := hperm.map (fun p : Int × Int => p.2.toNat)
          simp only [List.map_map] at h1
          have e : ((fun p : Int × Int => p.2.toNat) ∘ key ps) = id := funext fun k => Int.toNat_natCast k
          rw [e, List.map_id, List.map_id] at h1
          exact h1
        · rw [← hkeys, List.map_map]
          exact hys
    case turn =>
      rintro c u h tk hI F7 N7
      dsimp only [fmap] at F7 N7 ⊢
      generalize hP2 : TEnd _ _ _ _ _ _ _ _ = P2
      revert P2
      refine Held.mk (Held.out ?_)
      intro P2 hP2
      obtain ⟨⟨hP, hH, hperm, hpw, hord⟩, ⟨hst, hkeys, htl2, hSb, hSD⟩, ⟨vM, dM⟩, ⟨vO, dO⟩, ⟨vN, dN⟩⟩ := hI
      have hvl := hP.length
      k_steps
      refine Held.out ?_
      rename Fr _ _ _ _ => F8
      rename News _ _ _ _ => N8
      rename_i De h8 lE _
      cases hhs : c.hs with
      | nil =>
        have hnil : c.hp = [] := List.eq_nil_of_length_eq_zero (by rw [← hvl, hhs]; rfl)
        rw [hhs] at N8
        refine cmp_ofNotEq (ke_ne_ints (ns := []) (ms := []) (PySem.IsL.isList (n := c.hk) (N8 _ (.tail _ (.tail _ (.head _)))).1) (PySem.IsL.isList (n := 0) (N8 _ (.head _)).1) .nil .nil (by ktr_units) ?_)
        k_steps
        rename Fr _ _ _ _ => F9
        rename News _ _ _ _ => N9
        refine LEnd.intro c F9 N9 ⟨⟨⟨hP, hH, hperm, hpw, hord⟩, ⟨hst, hkeys, htl2, hSb, hSD⟩, ⟨_, dM⟩, ⟨_, dO⟩, ⟨_, dN⟩⟩, hnil⟩ (fun p hp => .tail _ (by rw [hhs] at hp; exact hp)) (by kst_all)
      | cons v0 hr =>
        have hpos : 0 < c.hp.length := by rw [← hvl, hhs]; exact Nat.succ_pos _
        refine cmp_ofNotEq (PySem.SeqAt.RcNeAt.lists_lengths (PySem.IsL.isList (n := c.hk) (N8 _ (.tail _ (.tail _ (.head _)))).1) (PySem.IsL.isList (n := 0) (N8 _ (.head _)).1) (by rw [hhs]; simp) (by ktr_units) _ _ _ _ ?_)
        k_steps
        refine Held.out ?_
        rename Fr _ _ _ _ => F9
        rename News _ _ _ _ => N9
        have hap : ∀ p ∈ (c.S, listOf (refs c.rs).toArray c.se) :: (L1 + 1 + 1 + 1 + 1, c.oM) :: (L1 + 1 + 1 + 1, c.oO) :: (L1 + 1 + 1, c.oN) :: (L1 + 1, oP) :: (led ++ (mo ++ c.tl)), p.1 ≠ Dh := by
          exact List.forall_mem_cons.mpr ⟨Nat.ne_of_gt hSD, List.forall_mem_cons.mpr ⟨o3 (L1 + 1 + 1 + 1 + 1, oM) (by walk_at "Mine mem"), List.forall_mem_cons.mpr ⟨o3 (L1 + 1 + 1 + 1, oO) (by walk_at "Mine mem"), List.forall_mem_cons.mpr ⟨o3 (L1 + 1 + 1, oN) (by walk_at "Mine mem"), List.forall_mem_cons.mpr ⟨o3 (L1 + 1, oP) (by walk_at "Mine mem"), List.forall_mem_append.mpr ⟨fun p hp => o3 p (by walk_at "Mine mem"), List.forall_mem_append.mpr ⟨fun p hp => o3 p (by walk_at "Mine mem"), fun p hp => (htl2 p hp).2⟩⟩⟩⟩⟩⟩⟩
        refine Spec.use (heappop_c w mo ((c.S, listOf (refs c.rs).toArray c.se) :: (L1 + 1 + 1 + 1 + 1, c.oM) :: (L1 + 1 + 1 + 1, c.oO) :: (L1 + 1 + 1, c.oN) :: (L1 + 1, oP) :: (led ++ (mo ++ c.tl))) Dh c.hs c.hp c.hk hap (by walk_at "Mine sub") hP hH (by intro e; rw [e] at hpos; exact absurd hpos (Nat.lt_irrefl _)) ?_) (by assumption) F9 (by assumption) (newsSub N9 (by walk_at "Mine sub")) (by assumption) rfl (by ktr_room) (by ktr_units) ?_
        · have := hperm.length_eq
          simp only [List.length_append, List.length_map] at this
          omega
        rintro v led' h' tk' F10 N10 ⟨a2, ti2, tj2, k2, rfl, hm2, hs3, ps3, n3, rfl, hP3, hH3, hperm3⟩
        obtain ⟨k, hkt, hkey⟩ : ∃ k ∈ ts, G c.hp 0 = key ps k := by
          have h1 : G c.hp 0 ∈ c.hp := hperm3.mem_iff.mp (.head _)
          have h2 : G c.hp 0 ∈ ts.map (key ps) := hperm.mem_iff.mp (List.mem_append_right _ h1)
          obtain ⟨k, hk, e⟩ := List.mem_map.mp h2
          exact ⟨k, hk, e.symm⟩
        have hk6 := hts k hkt
        rw [hkey] at hm2
        k_steps
        rename News _ _ _ _ => N11
        refine item_tupleT (l := [.int (ps.getD k 0) ti2, .int (k : Int) tj2]) (News.isTup (n := k2) (d := none) (sl := #[]) N11 ?hmem2) (by decide) (by decide) rfl rfl ?_ (by with_unfolding_all rfl)
        case hmem2 =>
          have : (a2, ({ cls := .type "tuple", dict := none, data := .seq [.int (ps.getD k 0) ti2, .int (k : Int) tj2].toArray k2, slots := #[] } : Obj)) ∈ mo := hm2
          walk_at "Mine mem"
        k_steps
        refine Held.out ?_
        rename Fr _ _ _ _ => F12
        rename News _ _ _ _ => N12
        obtain ⟨at3, ta, tb, n4, hvt, hmt⟩ := htv.get (k := k) (by rw [List.length_map]; exact hk6)
        obtain ⟨o1, o2, ho1, ho2, hto, hte⟩ := tieE_at k hk6
        rw [hte] at hmt
        refine item_cell (N12 (lt, listOf tv.toArray nt) (by walk_at "Mine mem")).1 (by omega) (by omega) (by rw [Int.toNat_natCast]; exact hvt) ?_
        have hm5 : (at3, ({ cls := .type "tuple", data := .seq #[.int (o1 : Int) ta, .int (o2 : Int) tb] n4 } : Obj)) ∈ led := hmt
        k_steps
        rename Fr _ _ _ _ => F13
        rename News _ _ _ _ => N13
        have hcn : ∀ x : Nat, L1 < x → x ≤ L1 + 1 + 1 + 1 + 1 → ∀ p ∈ led ++ (mo ++ c.tl), p.1 ≠ x := by
          intro x h1 h2 p hp
          rcases List.mem_append.mp hp with hp | hp
          · exact Nat.ne_of_lt (Nat.lt_trans (l1 p hp) h1)
          rcases List.mem_append.mp hp with hp | hp
          · exact Nat.ne_of_gt (Nat.lt_of_le_of_lt h2 (hmo p hp))
          · exact (htl2 p hp).1 x h1 h2
        have hD4 : Dh ≠ L1 + 1 + 1 + 1 + 1 := (o3 (L1 + 1 + 1 + 1 + 1, oM) (by walk_at "Mine mem")).symm
        have hD3 : Dh ≠ L1 + 1 + 1 + 1 := (o3 (L1 + 1 + 1 + 1, oO) (by walk_at "Mine mem")).symm
        have hD2 : Dh ≠ L1 + 1 + 1 := (o3 (L1 + 1 + 1, oN) (by walk_at "Mine mem")).symm
        have l12 : L1 + 1 < L1 + 1 + 1 := Nat.lt_succ_self _
        have l23 : L1 + 1 + 1 < L1 + 1 + 1 + 1 := Nat.lt_succ_self _
        have l34 : L1 + 1 + 1 + 1 < L1 + 1 + 1 + 1 + 1 := Nat.lt_succ_self _
        have l01 : L1 < L1 + 1 := Nat.lt_succ_self _
        refine wpAny_assign_Tuple rfl (⟨_, (N13 (at3, _) (by simp only [List.mem_cons, List.mem_append]; exact .inr (.inr (.inr (.inr (.inr (.inr (.inl hm5)))))))).1, rfl, _, rfl⟩ : Heap.IsTuple _ at3 #[.int (o1 : Int) ta, .int (o2 : Int) tb]) rfl rfl fun h14 hx14 => ?_
        have old14 := fun b o x => hx14 b o (Nat.ne_of_lt (Heap.lt_size x)) x
        have F14 := F13.keeps old14
        have N14 := N13.grown old14
        refine wpAny_bind (wpAny_holding (wpAny_assign_Name ?_))
        refine storeX_C F14 (newsSub (led' := (L1 + 1 + 1, c.oN) :: (L1 + 1 + 1 + 1, c.oO) :: (L1 + 1 + 1 + 1 + 1, c.oM) :: (Dh, listOf hs3.toArray n3) :: (c.S, listOf (refs c.rs).toArray c.se) :: (L1 + 1, oP) :: (led ++ (mo ++ c.tl))) N14 (by walk_at "Mine sub")) rfl (.head ?ha1) dN ?_ rfl rfl
        case ha1 =>
          intro p hp
          rcases List.mem_cons.mp hp with rfl | hp
          · exact Nat.ne_of_gt l23
          rcases List.mem_cons.mp hp with rfl | hp
          · exact Nat.ne_of_gt (Nat.lt_trans l23 l34)
          rcases List.mem_cons.mp hp with rfl | hp
          · exact hD2
          rcases List.mem_cons.mp hp with rfl | hp
          · exact Nat.ne_of_gt (Nat.lt_trans (Nat.lt_trans l23 l34) hSb)
          rcases List.mem_cons.mp hp with rfl | hp
          · exact Nat.ne_of_lt l12
          · exact hcn _ (Nat.lt_trans l01 l12) (Nat.le_of_lt (Nat.lt_trans l23 l34)) p hp
        intro h15 oN2 F15 N15 dN2
        refine wpAny_bind (wpAny_holding (wpAny_assign_Name ?_))
        refine storeX_C F15 N15 rfl (.tail (Nat.ne_of_lt l23) (.head ?ha2)) dO ?_ rfl rfl
        case ha2 =>
          intro p hp
          rcases List.mem_cons.mp hp with rfl | hp
          · exact Nat.ne_of_gt l34
          rcases List.mem_cons.mp hp with rfl | hp
          · exact hD3
          rcases List.mem_cons.mp hp with rfl | hp
          · exact Nat.ne_of_gt (Nat.lt_trans l34 hSb)
          rcases List.mem_cons.mp hp with rfl | hp
          · exact Nat.ne_of_lt (Nat.lt_trans l12 l23)
          · exact hcn _ (Nat.lt_trans l01 (Nat.lt_trans l12 l23)) (Nat.le_of_lt l34) p hp
        intro h16 oO2 F16 N16 dO2
        refine wpAny_pure ?_
        k_steps
        refine Held.out ?_
        rename Fr _ _ _ _ => F17
        rename News _ _ _ _ => N17
        rename _ ∧ _ => lF
        rename_i Fa _ _
        have hgood := tleft_good c.done ?gd
        case gd =>
          intro d hd
          have h1 : key ps d ∈ ts.map (key ps) := hperm.mem_iff.mp (List.mem_append_left _ (List.mem_map_of_mem hd))
          obtain ⟨d', hd', e⟩ := List.mem_map.mp h1
          have e2 : (d' : Int) = (d : Int) := congrArg Prod.snd e
          have e3 : d' = d := Int.ofNat.inj e2
          exact e3 ▸ hts d' hd'
        have hdl : c.done.length ≤ 6 := by
          have := hperm.length_eq
          simp only [List.length_append, List.length_map] at this
          omega
        have hrl : c.rs.length ≤ 64 := by
          have h1 := tleft_len c.done
          rw [← hkeys, List.length_map] at h1
          exact Nat.le_trans h1 (Nat.pow_le_pow_right (by decide) hdl)
        have hrefl : (refs c.rs).length = c.rs.length := List.length_map _
        have hF4 : L1 + 1 + 1 + 1 + 1 < Fa := lF.2.2.1
        refine for_tups (σ := List SRow × List (Addr × Obj) × Nat × Obj) (ax := c.S) (vs := refs c.rs) (e := c.se) (Ts := fun j => (c.rs.getD j row0).a) (va := fun j => .int ((c.rs.getD j row0).num : Int) (c.rs.getD j row0).t) (vb := fun j => .ref (c.rs.getD j row0).l) (nt := fun j => (c.rs.getD j row0).nt)
          (fun x => (Fa, listOf (refs x.1).toArray x.2.2.1) :: (c.S, listOf (refs c.rs).toArray c.se) :: (Dh, listOf hs3.toArray n3) :: (L1 + 1 + 1 + 1 + 1, x.2.2.2) :: (L1 + 1 + 1 + 1, oO2) :: (L1 + 1 + 1, oN2) :: (L1 + 1, oP) :: (led ++ (mo ++ (c.tl ++ x.2.1))))
          (fun _ => [(Str.ofString "ties", .ref lt), (Str.ofString "heap", .ref Dh), (Str.ofString "k", .int (k : Int) tj2), (Str.ofString "further", .ref Fa)])
          (fun i x => Sts (c.tl ++ x.2.1) x.1 ∧ x.1.map SRow.key = (c.rs.take i).flatMap (fun r => tstep1 k r.key) ∧ (∀ p ∈ x.2.1, (∀ y : Nat, L1 < y → y ≤ L1 + 1 + 1 + 1 + 1 → p.1 ≠ y) ∧ p.1 ≠ Dh ∧ p.1 ≠ Fa) ∧ ∃ v₀, x.2.2.2.data = .cell v₀)
          (fun x => Sts (c.tl ++ x.2.1) x.1 ∧ x.1.map SRow.key = c.rs.flatMap (fun r => tstep1 k r.key) ∧ (∀ p ∈ x.2.1, (∀ y : Nat, L1 < y → y ≤ L1 + 1 + 1 + 1 + 1 → p.1 ≠ y) ∧ p.1 ≠ Dh ∧ p.1 ≠ Fa) ∧ ∃ v₀, x.2.2.2.data = .cell v₀)
          ([], [], 0, c.oM) rfl (fun _ _ _ => .tail _ (.head _)) (fun j hj => ?vs) (fun j hj i x _ => ?ts) F17 (newsSub N17 (by walk_at "Mine sub")) ⟨Sts.nil, rfl, fun _ h => (nomatch h), _, dM⟩ (by kst_all) ?fturn ?fels ?fdone (by with_unfolding_all passes_own)
        case vs =>
          rw [hrefl] at hj
          show (c.rs.map fun r => Value.ref r.a)[j]? = _
          rw [List.getElem?_map, (row_at hj).1]
          rfl
        case ts =>
          rw [hrefl] at hj
          have h1 := (hst _ (row_at hj).2).1
          walk_at "Mine mem"
        case fturn =>
          rintro i ⟨fr, tl3, e, oM3⟩ u h tk I oI hin ⟨hfr, hfk, htl3, vM3, dM3⟩ hne F18 N18
          dsimp only [fmap] at F18 N18 hfr hfk htl3 dM3 hne ⊢
          generalize hP1 : FTEnd _ _ _ _ _ _ _ _ _ = P1
          revert P1
          refine Held.mk (Held.out ?_)
          intro P1 hP1
          rw [hrefl] at hin
          obtain ⟨hri, hrm⟩ := row_at hin
          generalize c.rs.getD i row0 = r at *
          refine wpAny_storeName_local (by rfl) F18.ns (fun h19 hn19 hs19 => ?_) (by rfl)
          have F19 := F18.set hn19 hs19
          have N19 := N18.set hs19
          have hneM : ∀ p ∈ (Fa, listOf (refs fr).toArray e) :: (c.S, listOf (refs c.rs).toArray c.se) :: (Dh, listOf hs3.toArray n3) :: (L1 + 1 + 1 + 1, oO2) :: (L1 + 1 + 1, oN2) :: (L1 + 1, oP) :: ((led ++ (mo ++ c.tl)) ++ (tl3 ++ [(I, oI)])), p.1 ≠ L1 + 1 + 1 + 1 + 1 := by
            refine List.forall_mem_cons.mpr ⟨Nat.ne_of_gt hF4, List.forall_mem_cons.mpr ⟨Nat.ne_of_gt hSb, List.forall_mem_cons.mpr ⟨hD4, List.forall_mem_cons.mpr ⟨Nat.ne_of_lt l34, List.forall_mem_cons.mpr ⟨Nat.ne_of_lt (Nat.lt_trans l23 l34), List.forall_mem_cons.mpr ⟨Nat.ne_of_lt (Nat.lt_trans l12 (Nat.lt_trans l23 l34)), List.forall_mem_append.mpr ⟨hcn _ (Nat.lt_trans l01 (Nat.lt_trans l12 (Nat.lt_trans l23 l34))) (Nat.le_refl _), List.forall_mem_append.mpr ⟨fun p hp => (htl3 p hp).1 _ (Nat.lt_trans l01 (Nat.lt_trans l12 (Nat.lt_trans l23 l34))) (Nat.le_refl _), List.forall_mem_cons.mpr ⟨(hne (L1 + 1 + 1 + 1 + 1, oM3) (by walk_at "Mine mem")).symm, fun _ h => (nomatch h)⟩⟩⟩⟩⟩⟩⟩⟩⟩
          refine storeX_C F19 (newsSub (led' := (L1 + 1 + 1 + 1 + 1, oM3) :: (Fa, listOf (refs fr).toArray e) :: (c.S, listOf (refs c.rs).toArray c.se) :: (Dh, listOf hs3.toArray n3) :: (L1 + 1 + 1 + 1, oO2) :: (L1 + 1 + 1, oN2) :: (L1 + 1, oP) :: ((led ++ (mo ++ c.tl)) ++ (tl3 ++ [(I, oI)]))) N19 (by walk_at "Mine sub")) rfl (.head hneM) dM3 ?_ rfl rfl
          intro h20 oM4 F20 N20 dM4
          obtain ⟨hr1, hr2, hr3⟩ := hst r hrm
          have hg4 : Good4 (32 * c.done.length) r.key := hgood r.key (by rw [← hkeys]; exact List.mem_map_of_mem hrm)
          obtain ⟨hnum, hm4, hmk4⟩ := hg4
          replace hm4 : r.mks.length = 4 := hm4
          replace hnum : r.num ≤ 32 * c.done.length := hnum
          obtain ⟨u1, hu1⟩ : ∃ t, r.us[o1]? = some (.int ((r.mks.getD o1 0 : Nat) : Int) t) := hr3.get o1 _ (by rw [← getD_natI, List.getD_eq_getElem?_getD, List.getElem?_eq_getElem (by rw [List.length_map]; omega)]; rfl)
          obtain ⟨u2, hu2⟩ : ∃ t, r.us[o2]? = some (.int ((r.mks.getD o2 0 : Nat) : Int) t) := hr3.get o2 _ (by rw [← getD_natI, List.getD_eq_getElem?_getD, List.getElem?_eq_getElem (by rw [List.length_map]; omega)]; rfl)
          k_steps
          refine Held.out ?_
          rename News _ _ _ _ => N21
          refine item_cell (N21 (r.l, listOf r.us.toArray r.nl) (by walk_at "Mine mem")).1 (by omega) (by omega) (by rw [Int.toNat_natCast]; exact hu1) ?_
          k_steps
          refine Held.out ?_
          rename News _ _ _ _ => N22
          refine item_cell (N22 (r.l, listOf r.us.toArray r.nl) (by walk_at "Mine mem")).1 (by omega) (by omega) (by rw [Int.toNat_natCast]; exact hu2) ?_
          k_steps
          · rename _ ≠ _ => hdiff
            refine Held.out ?_
            rename Fr _ _ _ _ => F23
            rename News _ _ _ _ => N23
            rename _ ∧ _ => lT1
            rename_i T1 _
            have hFa1 : Fa < T1 := lT1.2.1
            have hT14 : L1 + 1 + 1 + 1 + 1 < T1 := lT1.1
            have hT1D : Dh < T1 := lT1.2.2.2.1
            have hneF : ∀ o4, ∀ p ∈ (L1 + 1 + 1 + 1 + 1, o4) :: (c.S, listOf (refs c.rs).toArray c.se) :: (Dh, listOf hs3.toArray n3) :: (L1 + 1 + 1 + 1, oO2) :: (L1 + 1 + 1, oN2) :: (L1 + 1, oP) :: ((led ++ (mo ++ c.tl)) ++ (tl3 ++ [(I, oI)])), p.1 ≠ Fa := by
              intro o4
              refine List.forall_mem_cons.mpr ⟨Nat.ne_of_lt lF.2.2.1, List.forall_mem_cons.mpr ⟨Nat.ne_of_lt lF.2.2.2.2.1, List.forall_mem_cons.mpr ⟨Nat.ne_of_lt lF.2.2.2.1, List.forall_mem_cons.mpr ⟨Nat.ne_of_lt lF.2.1, List.forall_mem_cons.mpr ⟨Nat.ne_of_lt lF.1, List.forall_mem_cons.mpr ⟨Nat.ne_of_lt lF.2.2.2.2.2.1, List.forall_mem_append.mpr ⟨fun p hp => Nat.ne_of_lt (allLt_memX lF.2.2.2.2.2.2 p hp), List.forall_mem_append.mpr ⟨fun p hp => (htl3 p hp).2.2, List.forall_mem_cons.mpr ⟨(hne (Fa, listOf (refs fr).toArray e) (by walk_at "Mine mem")).symm, fun _ h => (nomatch h)⟩⟩⟩⟩⟩⟩⟩⟩⟩
            have hfrl : fr.length ≤ 128 := by
              have h1 := congrArg List.length hfk
              rw [List.length_map] at h1
              have h2 : ((c.rs.take i).flatMap (fun r => tstep1 k r.key)).length ≤ 2 * (c.rs.take i).length := by
                have := tstep_len k ((c.rs.take i).map SRow.key)
                unfold tstep at this
                rw [List.flatMap_map, List.length_map] at this
                exact this
              rw [List.length_take] at h2
              omega
            have hrefsl : (refs fr).length = fr.length := List.length_map _
            refine append_K F23 (newsSub (led' := (Fa, listOf (refs fr).toArray e) :: (T1, tupI r.num r.t r.l 0) :: (L1 + 1 + 1 + 1 + 1, oM4) :: (c.S, listOf (refs c.rs).toArray c.se) :: (Dh, listOf hs3.toArray n3) :: (L1 + 1 + 1 + 1, oO2) :: (L1 + 1 + 1, oN2) :: (L1 + 1, oP) :: ((led ++ (mo ++ c.tl)) ++ (tl3 ++ [(I, oI)]))) N23 (by walk_at "Mine sub")) (.head (List.forall_mem_cons.mpr ⟨Nat.ne_of_gt hFa1, hneF oM4⟩)) (fun h24 F24 N24 => ?_) (by rw [List.size_toArray, PySem.sizeLine_eq]; omega)
            simp only [List.push_toArray] at N24
            k_steps
            refine Held.out ?_
            rename Fr _ _ _ _ => F25
            rename News _ _ _ _ => N25
            refine LCg.ListComp_U (F₀ := F25) (by with_unfolding_all rfl) (by decide) (by rfl) (by decide) (by rfl) ?_
            k_steps
            refine Held.out ?_
            have hul := hr3.length
            rw [List.length_map, hm4] at hul
            refine LCg.CompSrc.ledger (its := r.us.toArray) (k := r.nl) rfl F25 N25 (show (r.l, listOf r.us.toArray r.nl) ∈ _ from by walk_at "Mine mem") (by rw [List.size_toArray, PySem.sizeLine_eq]; omega) ?_
            intro g26
            refine comp_keep (fun j ys => IntsAre ys (((r.mks.take j).map fun m => if m = r.mks.getD o2 0 then r.mks.getD o1 0 else m).map Int.ofNat)) (.inr ⟨_, show (r.l, listOf r.us.toArray r.nl) ∈ _ from by walk_at "Mine mem", rfl, _, rfl⟩) .nil ?mturn ?mfin
            case mturn =>
              rintro j v ys I3 oI3 C3 oC3 D3 m₂ h tk4 E' hj hv hys hNs hmx F27 N27
              generalize hP3 : KEnd _ _ _ _ _ _ = P3
              revert P3
              refine Held.mk (Held.out ?_)
              intro P3 hP3
              simp only [List.size_toArray] at hj
              obtain ⟨tm, hve⟩ := hr3.int_at j v (by simpa using hv)
              rw [getD_natI] at hve
              subst hve
              have hjm : j < r.mks.length := by omega
              have hmj : r.mks[j]? = some (r.mks.getD j 0) := by rw [List.getD_eq_getElem?_getD, List.getElem?_eq_getElem hjm]; rfl
              k_steps
              refine Held.out ?_
              refine item_cell (N27 (r.l, listOf r.us.toArray r.nl) (by walk_at "Mine mem")).1 (by omega) (by omega) (by rw [Int.toNat_natCast]; exact hu2) ?_
              k_steps
              · rename _ = _ => heq
                refine Held.out ?_
                refine item_cell (N27 (r.l, listOf r.us.toArray r.nl) (by walk_at "Mine mem")).1 (by omega) (by omega) (by rw [Int.toNat_natCast]; exact hu1) ?_
                k_steps
                rw [← hP3]
                refine KEnd.intro F27 N27 (fun p hp => hp) ?_
                rw [take_snoc hmj, List.map_append, List.map_append]
                refine hys.append ?_
                show IntsAre _ [Int.ofNat (if r.mks.getD j 0 = r.mks.getD o2 0 then r.mks.getD o1 0 else r.mks.getD j 0)]
                rw [if_pos (Int.ofNat.inj heq)]
                exact .cons _ _ .nil
              · rename _ ≠ _ => hne7
                rw [← hP3]
                refine KEnd.intro F27 N27 (fun p hp => hp) ?_
                rw [take_snoc hmj, List.map_append, List.map_append]
                refine hys.append ?_
                show IntsAre _ [Int.ofNat (if r.mks.getD j 0 = r.mks.getD o2 0 then r.mks.getD o1 0 else r.mks.getD j 0)]
                rw [if_neg (fun e => hne7 (congrArg Int.ofNat e))]
                exact .cons _ _ .nil
            case mfin =>
              intro ys hys D4 h28 tk28 F28 N28 off28
              rw [List.size_toArray, hul, ← hm4, List.take_length] at hys
              k_steps
              refine Held.out ?_
              rename Fr _ _ _ _ => F29
              rename News _ _ _ _ => N29
              rename _ ∧ _ => lT2
              rename_i T2 _
              have hnn : ((r.num : Int)) + 1 * 2 ^ ((k : Int)).toNat = ((r.num + 2 ^ k : Nat) : Int) := by
                rw [Int.toNat_natCast, Int.one_mul]
                push_cast
                rfl
              rw [hnn] at N29
              have hD4 := off1_memX off28
              have hD4F : D4 ≠ Fa := (hD4 (Fa, _) (by walk_at "Mine mem")).symm
              have hD4D : D4 ≠ Dh := (hD4 (Dh, listOf hs3.toArray n3) (by walk_at "Mine mem")).symm
              have hD4c : ∀ y : Nat, L1 < y → y ≤ L1 + 1 + 1 + 1 + 1 → D4 ≠ y := off4 (hD4 (L1 + 1, oP) (by walk_at "Mine mem")).symm (hD4 (L1 + 1 + 1, oN2) (by walk_at "Mine mem")).symm (hD4 (L1 + 1 + 1 + 1, oO2) (by walk_at "Mine mem")).symm (hD4 (L1 + 1 + 1 + 1 + 1, oM4) (by walk_at "Mine mem")).symm
              have hFT2 : Fa < T2 := lT2.2.1
              have hT24 : L1 + 1 + 1 + 1 + 1 < T2 := lT2.2.2.2.1
              have hT2D : Dh < T2 := lT2.2.2.2.2.2.1
              obtain ⟨t2, N30⟩ : ∃ t2 : Tok, News g1 L1 _ ((T2, tupI (r.num + 2 ^ k) t2 D4 0) :: _) := ⟨_, N29⟩
              have hneF2 : ∀ p ∈ (T2, tupI (r.num + 2 ^ k) t2 D4 0) :: (D4, listOf ys.toArray ys.length) :: (T1, tupI r.num r.t r.l 0) :: (L1 + 1 + 1 + 1 + 1, oM4) :: (c.S, listOf (refs c.rs).toArray c.se) :: (Dh, listOf hs3.toArray n3) :: (L1 + 1 + 1 + 1, oO2) :: (L1 + 1 + 1, oN2) :: (L1 + 1, oP) :: ((led ++ (mo ++ c.tl)) ++ (tl3 ++ [(I, oI)])), p.1 ≠ Fa :=
                List.forall_mem_cons.mpr ⟨Nat.ne_of_gt hFT2, List.forall_mem_cons.mpr ⟨hD4F, List.forall_mem_cons.mpr ⟨Nat.ne_of_gt hFa1, hneF oM4⟩⟩⟩
              refine append_K F29 (newsSub (led' := (Fa, listOf (refs fr ++ [Value.ref T1]).toArray (e + 1)) :: (T2, tupI (r.num + 2 ^ k) t2 D4 0) :: (D4, listOf ys.toArray ys.length) :: (T1, tupI r.num r.t r.l 0) :: (L1 + 1 + 1 + 1 + 1, oM4) :: (c.S, listOf (refs c.rs).toArray c.se) :: (Dh, listOf hs3.toArray n3) :: (L1 + 1 + 1 + 1, oO2) :: (L1 + 1 + 1, oN2) :: (L1 + 1, oP) :: ((led ++ (mo ++ c.tl)) ++ (tl3 ++ [(I, oI)]))) N30 (by walk_at "Mine sub")) (.head hneF2) (fun h31 F31 N31 => ?_) (by rw [List.size_toArray, PySem.sizeLine_eq, List.length_append, List.length_singleton]; omega)
              simp only [List.push_toArray] at N31
              k_steps
              rw [← hP1]
              dsimp only [FTEnd]
              rename Fr _ _ _ _ => F32
              rename News _ _ _ _ => N32
              refine FEnd.intro (fr ++ [⟨T1, r.t, 0, r.l, r.nl, r.us, r.num, r.mks⟩, ⟨T2, t2, 0, D4, ys.length, ys, r.num + 2 ^ k, mrg o1 o2 r.mks⟩], tl3 ++ [(T1, tupI r.num r.t r.l 0), (T2, tupI (r.num + 2 ^ k) t2 D4 0), (D4, listOf ys.toArray ys.length)], e + 1 + 1, oM4) F32 N32 ⟨?_, ?_, ?_, _, dM4⟩ (by walk_at "Mine mem") ?_ ?_ (by kst_all)
              · have hs1 : Sts (c.tl ++ (tl3 ++ [(T1, tupI r.num r.t r.l 0), (T2, tupI (r.num + 2 ^ k) t2 D4 0), (D4, listOf ys.toArray ys.length)])) fr := hfr.mono (by walk_at "Mine sub")
                intro q hq
                rcases List.mem_append.mp hq with hq | hq
                · exact hs1 q hq
                rcases List.mem_cons.mp hq with rfl | hq
                · exact ⟨by walk_at "Mine mem", by walk_at "Mine mem", hr3⟩
                · rw [List.mem_singleton.mp hq]
                  exact ⟨by walk_at "Mine mem", by walk_at "Mine mem", hys⟩
              · rw [List.take_add_one, hri, List.flatMap_append, List.map_append, hfk]
                show _ ++ _ = _ ++ (tstep1 k r.key ++ [])
                rw [tstep1_yes hto (fun e => hdiff (congrArg Int.ofNat e)), List.append_nil]
                rfl
              · refine List.forall_mem_append.mpr ⟨htl3, List.forall_mem_cons.mpr ⟨⟨fun y _ h2 => Nat.ne_of_gt (Nat.lt_of_le_of_lt h2 hT14), Nat.ne_of_gt hT1D, Nat.ne_of_gt hFa1⟩, List.forall_mem_cons.mpr ⟨⟨fun y _ h2 => Nat.ne_of_gt (Nat.lt_of_le_of_lt h2 hT24), Nat.ne_of_gt hT2D, Nat.ne_of_gt hFT2⟩, List.forall_mem_cons.mpr ⟨⟨hD4c, hD4D, hD4F⟩, fun _ h => nomatch h⟩⟩⟩⟩
              · have e7 : refs (fr ++ [⟨T1, r.t, 0, r.l, r.nl, r.us, r.num, r.mks⟩, ⟨T2, t2, 0, D4, ys.length, ys, r.num + 2 ^ k, mrg o1 o2 r.mks⟩]) = refs fr ++ [Value.ref T1] ++ [Value.ref T2] := by
                  unfold refs
                  rw [List.map_append, List.append_assoc]
                  rfl
                dsimp only
                rw [e7]
                walk_at "Mine sub"
              · refine List.forall_mem_cons.mpr ⟨hne (Fa, listOf (refs fr).toArray e) (by walk_at "Mine mem"), List.forall_mem_cons.mpr ⟨hne (c.S, listOf (refs c.rs).toArray c.se) (by walk_at "Mine mem"), List.forall_mem_cons.mpr ⟨hne (Dh, listOf hs3.toArray n3) (by walk_at "Mine mem"), List.forall_mem_cons.mpr ⟨hne (L1 + 1 + 1 + 1 + 1, oM3) (by walk_at "Mine mem"), List.forall_mem_cons.mpr ⟨hne (L1 + 1 + 1 + 1, oO2) (by walk_at "Mine mem"), List.forall_mem_cons.mpr ⟨hne (L1 + 1 + 1, oN2) (by walk_at "Mine mem"), List.forall_mem_cons.mpr ⟨hne (L1 + 1, oP) (by walk_at "Mine mem"), ?_⟩⟩⟩⟩⟩⟩⟩
                refine List.forall_mem_append.mpr ⟨fun p hp => hne p (by walk_at "Mine mem"), List.forall_mem_append.mpr ⟨fun p hp => hne p (by walk_at "Mine mem"), List.forall_mem_append.mpr ⟨fun p hp => hne p (by walk_at "Mine mem"), List.forall_mem_append.mpr ⟨fun p hp => hne p (by walk_at "Mine mem"), ?_⟩⟩⟩⟩
                exact List.forall_mem_cons.mpr ⟨Nat.ne_of_gt (allLt_memX lT1.2.2.2.2.2.2.2 (I, oI) (by walk_at "Mine mem")), List.forall_mem_cons.mpr ⟨Nat.ne_of_gt (allLt_memX lT2.2.2.2.2.2.2.2.2.2 (I, oI) (by walk_at "Mine mem")), List.forall_mem_cons.mpr ⟨(hD4 (I, oI) (by walk_at "Mine mem")).symm, fun _ h => nomatch h⟩⟩⟩
          · rename _ = _ => hsame
            rename Fr _ _ _ _ => F23
            rename News _ _ _ _ => N23
            rw [← hP1]
            dsimp only [FTEnd]
            refine FEnd.intro (fr, tl3, e, oM4) F23 N23 ⟨hfr, ?_, htl3, _, dM4⟩ (by walk_at "Mine mem") (by walk_at "Mine sub") ?_ (by kst_all)
            · rw [List.take_add_one, hri, List.flatMap_append, hfk]
              show _ = _ ++ (tstep1 k r.key ++ [])
              rw [tstep1_no hto (Int.ofNat.inj hsame)]
              simp
            · exact List.forall_mem_cons.mpr ⟨hne (Fa, listOf (refs fr).toArray e) (by walk_at "Mine mem"), List.forall_mem_cons.mpr ⟨hne (c.S, listOf (refs c.rs).toArray c.se) (by walk_at "Mine mem"), List.forall_mem_cons.mpr ⟨hne (Dh, listOf hs3.toArray n3) (by walk_at "Mine mem"), List.forall_mem_cons.mpr ⟨hne (L1 + 1 + 1 + 1 + 1, oM3) (by walk_at "Mine mem"), fun p hp => hne p (.tail _ (.tail _ (.tail _ (.tail _ hp))))⟩⟩⟩⟩
        case fels =>
          rintro ⟨fr, tl3, e, oM3⟩ u h tk ⟨hfr, hfk, htl3, vM3, dM3⟩ F18 N18
          rw [hrefl, List.take_length] at hfk
          exact els_nil ⟨hfr, hfk, htl3, vM3, dM3⟩ F18 N18 (by kst_all)
        case fdone =>
          rintro ⟨fr, tl3, e, oM3⟩ u h tk ⟨hfr, hfk, htl3, vM3, dM3⟩ F18 N18
          dsimp only [fmap] at F18 N18 hfr hfk htl3 dM3 ⊢
          k_steps
          rw [← hP2]
          dsimp only [TEnd]
          rename Fr _ _ _ _ => F33
          rename News _ _ _ _ => N33
          have hkm : key ps k ∈ c.hp := by rw [← hkey]; exact hperm3.mem_iff.mp (.head _)
          have hsub3 : ∀ q ∈ ps3, q ∈ c.hp := fun q hq => hperm3.mem_iff.mp (.tail _ hq)
          refine LEnd.intro (⟨hs3, ps3, n3, c.done ++ [k], fr, Fa, e, c.tl ++ tl3, oM3, oO2, oN2⟩ : LSt) F33 N33 ⟨⟨⟨hP3, hH3, ?q1, ?q2, ?q3⟩, ⟨hfr, ?q4, ?q5, lF.2.2.1, lF.2.2.2.1⟩, ⟨_, dM3⟩, ⟨_, dO2⟩, ⟨_, dN2⟩⟩, ?q6⟩ (by walk_at "Mine sub") (by kst_all)
          case q1 =>
            rw [List.map_append, List.append_assoc]
            refine List.Perm.trans (List.Perm.append_left _ ?_) hperm
            show (key ps k :: ps3).Perm c.hp
            rw [← hkey]
            exact hperm3
          case q2 =>
            refine List.pairwise_append.mpr ⟨hpw, List.pairwise_singleton _ _, fun d hd q hq => ?_⟩
            rw [List.mem_singleton.mp hq]
            exact hord d hd _ hkm
          case q3 =>
            intro d hd q hq
            rcases List.mem_append.mp hd with hd | hd
            · exact hord d hd q (hsub3 q hq)
            · rw [List.mem_singleton.mp hd]
              have := heap_root_mem hH (hsub3 q hq)
              rw [hkey] at this
              exact this
          case q4 =>
            show fr.map SRow.key = tleft (c.done ++ [k])
            rw [hfk, tleft_snoc, ← hkeys]
            unfold tstep
            rw [List.flatMap_map]
          case q5 =>
            exact List.forall_mem_append.mpr ⟨htl2, fun p hp => ⟨(htl3 p hp).1, (htl3 p hp).2.1⟩⟩
          case q6 =>
            have := hperm3.length_eq
            rw [List.length_cons] at this
            show ps3.length < c.hp.length
            omega
end Mine
end

section
open PySem
namespace Mine
/-- a price's two octets -/
noncomputable def oct2 (v : Int) : List Int := [64 + (v.fmod 4096).fdiv 64, v.fmod 64]
theorem flat2_len : ∀ l : List Int, (l.flatMap oct2).length = 2 * l.length
  | [] => rfl
  | a :: r => by
    rw [List.flatMap_cons, List.length_append, flat2_len r, List.length_cons]
    show 2 + _ = _
    omega
theorem groups2_of {os : List Int} : ∀ (l : List Int) (i : Nat), os.drop i = l.flatMap oct2 → i ≤ os.length →
    Groups os i (l.map fun _ => 2) ∧ vals os i (l.map fun _ => 2) = l.map fun v => v.fmod 4096
  | [], i, h, hi => by
    have : i = os.length := by
      have := congrArg List.length h
      simp at this
      omega
    subst this
    exact ⟨.nil, rfl⟩
  | a :: r, i, h, hi => by
    rw [List.flatMap_cons] at h
    have hl : (os.drop i).length = 2 + (r.flatMap oct2).length := by rw [h, List.length_append]; rfl
    rw [List.length_drop] at hl
    have h0 : os.getD i 0 = 64 + (a.fmod 4096).fdiv 64 := by
      have : (os.drop i)[0]? = some (64 + (a.fmod 4096).fdiv 64) := by rw [h]; rfl
      rw [List.getElem?_drop, Nat.add_zero] at this
      rw [List.getD_eq_getElem?_getD, this]
      rfl
    have h1 : os.getD (i + 1) 0 = a.fmod 64 := by
      have : (os.drop i)[1]? = some (a.fmod 64) := by rw [h]; rfl
      rw [List.getElem?_drop] at this
      rw [List.getD_eq_getElem?_getD, this]
      rfl
    have e1 : a.fmod 4096 = a % 4096 := Int.fmod_eq_emod_of_nonneg _ (by decide)
    have e2 : a.fmod 64 = a % 64 := Int.fmod_eq_emod_of_nonneg _ (by decide)
    have e3 : (a.fmod 4096).fdiv 64 = a % 4096 / 64 := by rw [e1]; exact Int.fdiv_eq_ediv_of_nonneg _ (by decide)
    have hd : os.drop (i + 2) = r.flatMap oct2 := by
      rw [← List.drop_drop, h]
      rfl
    obtain ⟨g, hv⟩ := groups2_of r (i + 2) hd (by omega)
    have hpv : pv os i 2 = a.fmod 4096 := by
      show os.getD i 0 % 64 * 64 + os.getD (i + 1) 0 % 64 = _
      rw [h0, h1, e3, e2, e1]
      omega
    refine ⟨.cons (k := 2) (by decide) (by decide) (by omega) (fun j hj => ?_) ?_ g, ?_⟩
    · have : j = 0 := by omega
      subst this
      rw [Nat.add_zero, h0, e3, bitAnd64 (by omega) (by omega), if_neg (by omega)]
      decide
    · show Builtin.bitAnd (os.getD (i + 1) 0) 64 = 0
      rw [h1, e2, bitAnd64 (by omega) (by omega), if_pos (by omega)]
    · show pv os i 2 :: vals os (i + 2) _ = a.fmod 4096 :: _
      rw [hpv, hv]
end Mine
end

section
open PySem PySem.W PySem.Spec PySem.Calls PyProof.Rows
set_option maxRecDepth 100000
set_option maxHeartbeats 8000000
namespace Mine
noncomputable def row2 (f : Nat) : PySem.Str := Txt.join (Str.ofString "") (modeCh f 10)
noncomputable def chC (f i : Nat) : PySem.Str := if i = 0 then Str.ofString "-" else if f.testBit (9 - i) then sgn i else Str.ofString "-"
noncomputable def row3 (f : Nat) : PySem.Str := Txt.join (Str.ofString "") ((List.range 10).map (chC f))
theorem row2_is {f : Nat} (h : f < 64) : row2 f = row3 f := by
  unfold row2 row3 modeCh
  congr 1
  refine List.map_congr_left fun i hi => ?_
  exact chAt_is f (by omega) i (List.mem_range.mp hi)
/-- the letter of a tie, counted from below -/
noncomputable def colB (f j : Nat) : PySem.Str := if f.testBit j then Txt.item (Str.ofString "xwrxwr") (j : Int) else Str.ofString "-"
/-- the same, counted from the left -/
noncomputable def colD (f j : Nat) : PySem.Str := if f.testBit (5 - j) then Txt.item (Str.ofString "rwxrwx") (j : Int) else Str.ofString "-"
theorem row3_len : ∀ f < 64, (row3 f).length = 10 := by decide +kernel
theorem row3_at : ∀ f < 64, ∀ j < 6, Txt.item (row3 f) (9 - (0 + ((j : Nat) : Int))) = colB f j := by decide +kernel
theorem colB_ne : ∀ f < 64, ∀ j < 6, (colB f j != Str.ofString "-") = f.testBit j := by decide +kernel
theorem row3_eq : ∀ f < 64, row3 f = Str.ofString "----" ++ Txt.join (Str.ofString "") ((List.range 6).map (colD f)) := by decide +kernel
theorem colD_sum : ∀ f < 64, (((List.range 6).map (colD f)).map (·.length)).sum + ((List.range 6).map (colD f)).length * 64 ≤ 16777216 := by decide +kernel
theorem item_rwx : ∀ j < 6, Txt.item (Str.ofString "rwxrwx") ((j : Nat) : Int) = Txt.item (Str.ofString "rwxrwx") (j : Int) := fun _ _ => rfl
theorem sh_bit : ∀ f < 64, ∀ j < 6, (Builtin.bitAnd (((f : Nat) : Int).fdiv (2 ^ (5 - ((j : Nat) : Int)).toNat)) 1 ≠ 0 ↔ f.testBit (5 - j) = true) := by decide +kernel
/-- a set's words -/
noncomputable def wrd (n : Nat) : PySem.Str := Txt.join (Str.ofString ", ") (pfl n)
end Mine
end

section
open PySem PySem.W PySem.Spec PySem.Calls PyProof.Rows
set_option maxRecDepth 100000
namespace Mine
section
variable {M : Model} {A : Around} {E : Value → Shared → Prop} {s : Shared}
theorem iter_keep {h h' : Heap} {I l : Addr} {i : Nat} {o : Obj} (st : h.IsListIter I l i) (e : h.get? I = some o) (e' : h'.get? I = some o) : h'.IsListIter I l i := by
  obtain ⟨o', q, r⟩ := st
  rw [e] at q
  cases q
  exact ⟨o, e', r⟩
/-- a comprehension's frame with one cell of its own -/
theorem newFn_one {scope : Scope} {globals : Addr} {cl : List (Str × Addr)} {qual : Str} {outer : Env} {x : Str} {Q : Env → Shared → Prop}
    (hcl : ∀ a, cellsFrom a scope.names cl = (x, a) :: cl) (hpc : ∀ h, pushCells h scope.names = h.push { cls := .type "cell", data := .cell none })
    (h : Q { scope, locals := s.heap.objs.size, globals, cells := (x, (s.heap.push { cls := .type "dict", data := .dict #[] }).objs.size) :: cl, qual, func := none, code := outer.code, frame := outer.frame, builtins := outer.builtins }
      { s with heap := (s.heap.push { cls := .type "dict", data := .dict #[] }).push { cls := .type "cell", data := .cell none } }) :
    wpAny M A (newFunctionEnv scope globals cl [] qual none .none (some outer)) Q E s := by
  simp only [newFunctionEnv, Option.isSome_some, if_true]
  refine wpAny_bind (wpAny_alloc ?_)
  refine wpAny_bind (wpAny_layCells _ (fun name kind cells => by cases hkc : kind == NameKind.cell <;> simp [hkc]) _ _ _ _ ?_)
  rw [hcl, hpc]
  exact wpAny_bind (wpAny_pure (wpAny_pure h))
end

section
variable {prog : Program} {w : World} {A : Around} {E : Value → Shared → Prop} {s : Shared} {h₀ : Heap} {L : Addr} {m : Str → Option Value} {env : Env}

theorem block_C {ct elt iter : PySem.Expr} {x : Str} {px : Pos} {scope : Scope} {cl : List (Str × Addr)} {pos : Pos} {s₂ : Shared} {I : Addr} {fp : List Addr} {n : Nat} {P : Nat → Value → Prop} {St : Nat → Heap → Prop} {news : List (Addr × Obj)}
    {RR : Value → Addr → Result → Shared → Prop} (Inv : Nat → List Value → List (Addr × Obj) → Prop)
    (W : Walks prog w A I fp [I] n P St) (hsz : n ≤ sizeLine) (hIo : ∀ i h, St i h → ∃ o, h.get? I = some o)
    (hSt : ∀ i h h' o nw, St i h → h.get? I = some o → h'.get? I = some o → (∀ b o, h₀.get? b = some o → h'.get? b = some o) → News h₀ L h' nw → (∀ p ∈ news, p ∈ nw) → St i h')
    (hcl : ∀ a, cellsFrom a scope.names cl = (x, a) :: cl) (hpc : ∀ h, pushCells h scope.names = h.push { cls := .type "cell", data := .cell none }) (hkind : scope.kind = .function) (hx : (relabel scope env).names.lookup x = some .cell)
    (hst : St 0 s₂.heap) (hfp : ∀ b ∈ fp, b < s₂.heap.objs.size) (F : Fr h₀ L s₂.heap m) (N : News h₀ L s₂.heap news) (hIL : L ≠ I) (hI₀ : h₀.get? I = none) (off : ∀ p ∈ news, p.1 ≠ I)
    (h0 : Inv 0 [] [])
    (turn : ∀ i v ys mo oI C oC D Cc oK m₂ h tk (E' : Value → Shared → Prop), i < n → P i v → Inv i ys mo → LCg.NsObj oC m₂ → oK.data = .cell (some v) → Fr h₀ L h m →
      News h₀ L h ((I, oI) :: (C, oC) :: (D, LCg.lst ys) :: (Cc, oK) :: (news ++ mo)) →
      wpAny (model prog w) A (isTrue ct (compEnvC scope ((x, Cc) :: cl) C env) (eval ct (compEnvC scope ((x, Cc) :: cl) C env)))
        (GTst prog w A E' elt (compEnvC scope ((x, Cc) :: cl) C env) h₀ L m { s₂ with heap := h, toks := tk } ((I, oI) :: (C, oC) :: (D, LCg.lst ys) :: (Cc, oK) :: (news ++ mo)) I C D (fun y more => Abv Cc Cc Cc more ∧ Inv (i + 1) (ys ++ [y]) (mo ++ more)) (Inv (i + 1) ys mo)) E' { s₂ with heap := h, toks := tk })
    (hRR : ∀ D C h tk m' ys mo, Inv n ys mo → Fr h₀ L h m → News h₀ L h ((D, LCg.lst ys) :: (news ++ mo)) → (∀ p ∈ news ++ mo, p.1 ≠ D) → h.Ns C m' → h₀.get? C = none → h₀.get? D = none → C ≠ L → D ≠ L → C ≠ D → (∀ p ∈ news ++ mo, p.1 ≠ C) → RR (.ref D) C (.ok .next) { s₂ with heap := h, toks := tk }) :
    wpAny (model prog w) A (newList []) (fun acc s₃ => wpAny (model prog w) A (newFunctionEnv scope env.globals cl [] env.qual none .none (some env)) (fun cenv s₄ =>
      codeAny (model prog w) A (.compStart (.ListComp elt [⟨.Name x px, iter, [ct], 0⟩] scope pos) 0 (.ref I) acc { cenv with scope := relabel scope env }) (RR acc cenv.locals) s₄) E s₃) E s₂ := by
  refine wpAny_newObj_type (newFn_one hcl hpc ?_)
  dsimp only
  have hD : (s₂.heap.push { cls := .type "list", dict := none, data := .seq ([] : List Value).toArray }).objs.size = s₂.heap.objs.size + 1 := Heap.size_push _ _
  generalize hH1 : s₂.heap.push { cls := .type "list", dict := none, data := .seq ([] : List Value).toArray } = H1 at hD ⊢
  have hC : (H1.push { cls := .type "dict", data := .dict #[] }).objs.size = H1.objs.size + 1 := Heap.size_push _ _
  have hnsC : (H1.push { cls := .type "dict", data := .dict #[] }).Ns H1.objs.size (fun _ => none) := Heap.Ns.new H1 (.type "dict")
  generalize hH2 : H1.push { cls := .type "dict", data := .dict #[] } = H2 at hC hnsC ⊢
  have up1 : ∀ b o, s₂.heap.get? b = some o → H1.get? b = some o := fun b o e => hH1 ▸ Heap.get?_push_of_some _ e
  have up2 : ∀ b o, H1.get? b = some o → H2.get? b = some o := fun b o e => hH2 ▸ Heap.get?_push_of_some _ e
  have up3 : ∀ b o, H2.get? b = some o → (H2.push { cls := .type "cell", data := .cell none }).get? b = some o := fun b o e => Heap.get?_push_of_some _ e
  have old : ∀ b o, s₂.heap.get? b = some o → (H2.push { cls := .type "cell", data := .cell none }).get? b = some o := fun b o e => up3 b o (up2 b o (up1 b o e))
  have hacc : (H2.push { cls := .type "cell", data := .cell none }).get? s₂.heap.objs.size = some (LCg.lst []) := up3 _ _ (up2 _ _ (hH1 ▸ Heap.get?_push_size _ rfl))
  have hcellg : (H2.push { cls := .type "cell", data := .cell none }).get? H2.objs.size = some { cls := .type "cell", data := .cell none } := Heap.get?_push_size _ rfl
  have hns3 : (H2.push { cls := .type "cell", data := .cell none }).Ns H1.objs.size (fun _ => none) := hnsC.keeps up3
  generalize hDe : s₂.heap.objs.size = D at *
  generalize hCe : H1.objs.size = C at *
  generalize hCce : H2.objs.size = Cc at *
  generalize hH3 : H2.push { cls := .type "cell", data := .cell none } = H3 at *
  have hDC : D < C := by rw [hD]; exact Nat.lt_succ_self _
  have hCCc : C < Cc := by rw [hC]; exact Nat.lt_succ_self _
  have below : ∀ b, b < D → b ≠ D ∧ b ≠ C ∧ b ≠ Cc := fun b hb => ⟨Nat.ne_of_lt hb, Nat.ne_of_lt (Nat.lt_trans hb hDC), Nat.ne_of_lt (Nat.lt_trans hb (Nat.lt_trans hDC hCCc))⟩
  have fresh₀ : ∀ a, D ≤ a → h₀.get? a = none := fun a ha => by
    cases e : h₀.get? a with
    | none => rfl
    | some o' => exact absurd (Heap.lt_size (F.keep a o' e)) (by rw [hDe]; exact Nat.not_lt.mpr ha)
  have hD₀ : h₀.get? D = none := fresh₀ _ (Nat.le_refl _)
  have hC₀ : h₀.get? C = none := fresh₀ _ (Nat.le_of_lt hDC)
  have hCc₀ : h₀.get? Cc = none := fresh₀ _ (Nat.le_of_lt (Nat.lt_trans hDC hCCc))
  have hLlt : L < D := hDe ▸ F.ns.lt
  have hLn := below L hLlt
  have hIf : I ∈ fp := W.sub I (List.mem_singleton.mpr rfl)
  have hIn := below I (hfp I hIf)
  have hDf : D ∉ fp := fun hm => Nat.lt_irrefl _ (hfp _ hm)
  have hCf : C ∉ fp := fun hm => absurd (hfp _ hm) (Nat.not_lt.mpr (Nat.le_of_lt hDC))
  have hCcf : Cc ∉ fp := fun hm => absurd (hfp _ hm) (Nat.not_lt.mpr (Nat.le_of_lt (Nat.lt_trans hDC hCCc)))
  have hNlt : ∀ p ∈ news, p.1 < D := fun p hp => hDe ▸ Heap.lt_size (N p hp).1
  have hst₁ : St 0 H3 := W.frame _ _ _ hst fun b _ o e => old b o e
  have loop : ∀ s₃ : Shared, s₃ = { s₂ with heap := H3 } →
      codeAny (model prog w) A (.compLoop (.ListComp elt [⟨.Name x px, iter, [ct], 0⟩] scope pos) 0 (.ref I) (.ref D) (compEnvC scope ((x, Cc) :: cl) C env)) (RR (.ref D) C) s₃ := by
    rintro s₃ rfl
    refine codeAny_compLoop_tests
      (fun k s' => ∃ h' tk i ys mo m' oK v₀, s' = { s₂ with heap := h', toks := tk } ∧ i ≤ n ∧ k = n + 1 - i ∧ ys.length ≤ i ∧ St i h' ∧ Fr h₀ L h' m ∧ h'.Ns C m' ∧ oK.data = .cell v₀ ∧ News h₀ L h' ((D, LCg.lst ys) :: (Cc, oK) :: (news ++ mo)) ∧
        (∀ p ∈ news ++ mo, p.1 ≠ I ∧ p.1 ≠ C ∧ p.1 ≠ D ∧ p.1 ≠ Cc) ∧ Inv i ys mo) ?_ (n + 1)
      ⟨H3, _, 0, [], [], _, { cls := .type "cell", data := .cell none }, none, rfl, Nat.zero_le _, rfl, Nat.le_refl _, hst₁, F.keeps old, hns3, rfl, fun p hp => ?_, fun p hp => ?_, h0⟩
    · rintro k s' ⟨h', tk, i, ys, mo, m', oK, v₀, rfl, hi, rfl, hyl, hst', F', hn', hdK, N', off', hInv⟩
      by_cases hlt : i < n
      · refine W.item i _ _ _ hlt hst' fun v h₂ tk₂ hPv hst₂ hk₂ => ?_
        have hk₂' : ∀ b o, b ≠ I → h'.get? b = some o → h₂.get? b = some o := fun b o hb e => hk₂ b o (by simpa using hb) e
        have F₂ := LCg.fr_but F' hk₂ hIL hI₀
        have N₂ : News h₀ L h₂ ((D, LCg.lst ys) :: (Cc, oK) :: (news ++ mo)) := LCg.news_but N' hk₂ fun p hp => by
          rcases List.mem_cons.mp hp with rfl | hp
          · exact hIn.1.symm
          rcases List.mem_cons.mp hp with rfl | hp
          · exact hIn.2.2.symm
          · exact (off' p hp).1
        have hn₂ : h₂.Ns C m' := hn'.at' fun o e => hk₂ _ o (by simpa using hIn.2.1.symm) e
        have cK := N₂ (Cc, oK) (.tail _ (.head _))
        refine wpAny_assign_Name (wpAny_storeName_cell (env := compEnvC scope ((x, Cc) :: cl) C env) hkind hx (by simp [compEnvC]) ⟨oK, cK.1, hdK⟩ fun h₃ hv₃ hs₃ => ?_)
        obtain ⟨oK2, hoK2, hdK2⟩ := hv₃
        refine wpAny_tests_one ?_
        have hst₃ : St (i + 1) h₃ := W.frame _ _ _ hst₂ fun b hb o e => hs₃.extBut b o (fun q => hCcf (by have q' : b = Cc := q; rw [← q']; exact hb)) e
        obtain ⟨oI, heI⟩ := hIo _ _ hst₃
        have hn₃ : h₃.Ns C m' := hn₂.sameBut hs₃ (Nat.ne_of_lt hCCc)
        obtain ⟨oC, heC, hoC⟩ := LCg.ns_obj hn₃
        have F₃ : Fr h₀ L h₃ m := F₂.change hs₃ hLn.2.2.symm hCc₀
        have N₃ : News h₀ L h₃ ((I, oI) :: (C, oC) :: (D, LCg.lst ys) :: (Cc, oK2) :: (news ++ mo)) := fun p hp => by
          rcases List.mem_cons.mp hp with rfl | hp
          · exact ⟨heI, Ne.symm hIL, hI₀⟩
          rcases List.mem_cons.mp hp with rfl | hp
          · exact ⟨heC, hLn.2.1.symm, hC₀⟩
          rcases List.mem_cons.mp hp with rfl | hp
          · have z := N₂ _ (.head _)
            exact ⟨hs₃.extBut _ _ (Nat.ne_of_lt (Nat.lt_trans hDC hCCc)) z.1, z.2⟩
          rcases List.mem_cons.mp hp with rfl | hp
          · exact ⟨hoK2, cK.2⟩
          · have z := N₂ p (.tail _ (.tail _ hp))
            exact ⟨hs₃.extBut _ _ (off' p hp).2.2.2 z.1, z.2⟩
        refine wpAny_mono (turn i v ys mo oI C oC D Cc oK2 _ h₃ _ _ hlt hPv hInv hoC hdK2 F₃ N₃) (fun ok s₄ h₄ => ?_) fun _ _ e => e
        unfold GTst at h₄
        cases ok with
        | true =>
          simp only [if_true] at h₄ ⊢
          refine wpAny_mono h₄ (fun y s₅ h₅ => ?_) fun _ _ e => e
          obtain ⟨h₄, tk₄, led₄, more, rfl, F₄, N₄, sub, sub2, hab, hab2, hInv₄⟩ := h₅
          have zI := (N₄ _ (sub _ (.head _))).1
          have zC := (N₄ _ (sub _ (.tail _ (.head _)))).1
          have zD := (N₄ _ (sub _ (.tail _ (.tail _ (.head _))))).1
          have N₄' : News h₀ L h₄ (news ++ (mo ++ more)) := fun p hp => by
            rw [← List.append_assoc] at hp
            rcases List.mem_append.mp hp with hp | hp
            · exact N₄ p (sub p (.tail _ (.tail _ (.tail _ (.tail _ hp)))))
            · exact N₄ p (sub2 p hp)
          have off₄ : ∀ p ∈ news ++ (mo ++ more), p.1 ≠ I ∧ p.1 ≠ C ∧ p.1 ≠ D ∧ p.1 ≠ Cc := fun p hp => by
            rw [← List.append_assoc] at hp
            rcases List.mem_append.mp hp with hp | hp
            · exact off' p hp
            · have a := hab p hp
              exact ⟨a.1, a.2.1, a.2.2, (hab2 p hp).1⟩
          have hst₄ : St (i + 1) h₄ := hSt _ _ _ _ _ hst₃ heI zI F₄.keep N₄' fun p hp => List.mem_append_left _ hp
          refine append_at (hsz := by show ys.toArray.size ≤ sizeLine; rw [List.size_toArray]; exact Nat.le_trans (Nat.le_trans hyl hi) hsz) zD fun h₅ hs₅ hD₅ => ?_
          refine ⟨n + 1 - (i + 1), by omega, h₅, tk₄, i + 1, ys ++ [y], mo ++ more, _, oK2, _, rfl, hlt, rfl, by rw [List.length_append, List.length_singleton]; exact Nat.succ_le_succ hyl, W.frame _ _ _ hst₄ fun b hb o e => hs₅.extBut b o (fun q => hDf (q ▸ hb)) e, F₄.change hs₅ hLn.1.symm hD₀,
            (hoC.ns zC).sameBut hs₅ (Nat.ne_of_gt hDC), hdK2, fun p hp => ?_, off₄, hInv₄⟩
          rcases List.mem_cons.mp hp with rfl | hp
          · exact ⟨hD₅.trans (congrArg some (LCg.lst_snoc ys y)), hLn.1.symm, hD₀⟩
          rcases List.mem_cons.mp hp with rfl | hp
          · have z := N₄ _ (sub _ (.tail _ (.tail _ (.tail _ (.head _)))))
            exact ⟨hs₅.extBut _ _ (Nat.ne_of_gt (Nat.lt_trans hDC hCCc)) z.1, z.2⟩
          · exact ⟨hs₅.extBut _ _ (off₄ p hp).2.2.1 (N₄' p hp).1, (N₄' p hp).2⟩
        | false =>
          simp only [Bool.false_eq_true, if_false] at h₄ ⊢
          obtain ⟨h₅, tk₄, led₄, more, rfl, F₄, N₄, sub, sub2, hab, rfl, hInv₄⟩ := h₄
          have zI := (N₄ _ (sub _ (.head _))).1
          have zC := (N₄ _ (sub _ (.tail _ (.head _)))).1
          have N₄' : News h₀ L h₅ (news ++ mo) := fun p hp => N₄ p (sub p (.tail _ (.tail _ (.tail _ (.tail _ hp)))))
          have hst₄ : St (i + 1) h₅ := hSt _ _ _ _ _ hst₃ heI zI F₄.keep N₄' fun p hp => List.mem_append_left _ hp
          refine ⟨n + 1 - (i + 1), by omega, h₅, tk₄, i + 1, ys, mo, _, oK2, _, rfl, hlt, rfl, Nat.le_succ_of_le hyl, hst₄, F₄, hoC.ns zC, hdK2, fun p hp => ?_, off', hInv₄⟩
          rcases List.mem_cons.mp hp with rfl | hp
          · exact N₄ _ (sub _ (.tail _ (.tail _ (.head _))))
          rcases List.mem_cons.mp hp with rfl | hp
          · exact N₄ _ (sub _ (.tail _ (.tail _ (.tail _ (.head _)))))
          · exact N₄' p hp
      · obtain rfl : i = n := Nat.le_antisymm hi (Nat.not_lt.mp hlt)
        refine W.done _ _ _ hst' fun h₂ tk₂ hk₂ => ?_
        have N₂ : News h₀ L h₂ ((D, LCg.lst ys) :: (Cc, oK) :: (news ++ mo)) := LCg.news_but N' hk₂ fun p hp => by
          rcases List.mem_cons.mp hp with rfl | hp
          · exact hIn.1.symm
          rcases List.mem_cons.mp hp with rfl | hp
          · exact hIn.2.2.symm
          · exact (off' p hp).1
        refine hRR _ _ h₂ tk₂ _ ys mo hInv (LCg.fr_but F' hk₂ hIL hI₀) (fun p hp => ?_) (fun p hp => (off' p hp).2.2.1) (hn'.at' fun o e => hk₂ _ o (by simpa using hIn.2.1.symm) e) hC₀ hD₀ hLn.2.1.symm hLn.1.symm (Nat.ne_of_gt hDC) (fun p hp => (off' p hp).2.1)
        rcases List.mem_cons.mp hp with rfl | hp
        · exact N₂ _ (.head _)
        · exact N₂ _ (.tail _ (.tail _ hp))
    · rcases List.mem_cons.mp hp with rfl | hp
      · exact ⟨hacc, hLn.1.symm, hD₀⟩
      rcases List.mem_cons.mp hp with rfl | hp
      · exact ⟨hcellg, hLn.2.2.symm, hCc₀⟩
      · rw [List.append_nil] at hp
        exact ⟨old _ _ (N p hp).1, (N p hp).2⟩
    · rw [List.append_nil] at hp
      have b := below _ (hNlt p hp)
      exact ⟨off p hp, b.2.1, b.1, b.2.2⟩
  exact codeAny_compStart_list (loop _ rfl) (W.self 0 _ _ _ hst₁ (loop _ rfl))

/-- what comes behind a comprehension that is stored under a local name -/
noncomputable def AfterC (h₀ : Heap) (L : Addr) (m : Str → Option Value) (s : Shared) (y : Str) (news : List (Addr × Obj)) (Q : Flow → Shared → Prop) (ys : List Value) (mo : List (Addr × Obj)) : Prop :=
  ∀ D h tk, Fr h₀ L h (fun z => if z = y then some (.ref D) else m z) → News h₀ L h ((D, LCg.lst ys) :: (news ++ mo)) → (∀ p ∈ news ++ mo, p.1 ≠ D) → Q .next { s with heap := h, toks := tk }

theorem after_use {y : Str} {py : Pos} {Q : Flow → Shared → Prop} {news : List (Addr × Obj)} {ys : List Value} {mo : List (Addr × Obj)} {D C : Addr} {h' : Heap} {tk : Nat} {m' : Str → Option Value} {s₂ : Shared}
    (hy : env.kindOf y = some .local) (hp : (env.scope.kind == .class || (env.scope.kind == .module && env.locals != env.globals)) = false)
    (F' : Fr h₀ env.locals h' m) (N' : News h₀ env.locals h' ((D, LCg.lst ys) :: (news ++ mo))) (o1 : ∀ p ∈ news ++ mo, p.1 ≠ D) (hn : h'.Ns C m') (hC₀ : h₀.get? C = none) (hCL : C ≠ env.locals) (hCD : C ≠ D) (offC : ∀ p ∈ news ++ mo, p.1 ≠ C)
    (fin : AfterC h₀ env.locals m s₂ y news Q ys mo) :
    compPost (model prog w) A E (some (assign (.Name y py) env)) (fun _ s' => Q .next s') (.ref D) C (.ok .next) { s₂ with heap := h', toks := tk } := by
  show wpAny _ A (assign (.Name y py) env (.ref D)) _ _ _
  refine wpAny_assign_Name (wpAny_storeName_local hy F'.ns (fun h₂ hn₂ hs₂ => ?_) hp)
  have hL₀ : h₀.get? env.locals = none := Heap.get?_none_of_le F'.above
  have F₂ : Fr h₀ env.locals h₂ (fun z => if z = y then some (.ref D) else m z) := ⟨hn₂, fun b o e => hs₂.extBut b o (fun q => by rw [q, hL₀] at e; cases e) (F'.keep b o e), F'.above⟩
  refine ⟨m', hn.sameBut hs₂ hCL, fun h'' hs'' => fin D h'' _ (F₂.change hs'' hCL hC₀) (fun p hp => ?_) o1⟩
  have z : h₂.get? p.1 = some p.2 := hs₂.extBut _ _ (N' p hp).2.1 (N' p hp).1
  refine ⟨hs''.extBut _ _ ?_ z, (N' p hp).2⟩
  rcases List.mem_cons.mp hp with rfl | hp
  · exact Ne.symm hCD
  · exact offC p hp

/-- a comprehension with a captured name of its own and one test, stored under a local name; its source a list of the ledger -/
theorem assign_cellT_list {ct elt iter : PySem.Expr} {x y : Str} {px py : Pos} {scope : Scope} {cl : List (Str × Addr)} {pos spos : Pos} {Q : Flow → Shared → Prop}
    (hsw : swapsWith (.ListComp elt [⟨.Name x px, iter, [ct], 0⟩] scope pos) (some (.Name y py)) spos.line env = pure true)
    (hclos : closureFor scope env = pure cl) (hcl : ∀ a, cellsFrom a scope.names cl = (x, a) :: cl) (hpc : ∀ h, pushCells h scope.names = h.push { cls := .type "cell", data := .cell none }) (hkind : scope.kind = .function)
    (hnames : ∀ z ∈ scope.names, z.2 = .local → scope.names.lookup z.1 = some .local) (hx : (relabel scope env).names.lookup x = some .cell)
    (hy : env.kindOf y = some .local) (hp : (env.scope.kind == .class || (env.scope.kind == .module && env.locals != env.globals)) = false)
    (h : wpAny (model prog w) A (eval iter env) (fun xv s₁ => ∃ (ax : Addr) (vs : List Value) (k : Nat) (news : List (Addr × Obj)), xv = .ref ax ∧ A.handled = none ∧ Fr h₀ env.locals s₁.heap m ∧ News h₀ env.locals s₁.heap news ∧ (ax, listOf vs.toArray k) ∈ news ∧ vs.length ≤ sizeLine ∧
      ∃ Inv : Nat → List Value → List (Addr × Obj) → Prop, Inv 0 [] [] ∧
      (∀ g i v ys mo I oI oC C D Cc oK m₂ h tk (E' : Value → Shared → Prop), i < vs.length → vs[i]? = some v → Inv i ys mo → LCg.NsObj oC m₂ → oK.data = .cell (some v) → Fr h₀ env.locals h m →
        News h₀ env.locals h ((I, oI) :: (C, oC) :: (D, LCg.lst ys) :: (Cc, oK) :: (news ++ mo)) →
        wpAny (model prog w) A (isTrue ct (compEnvC scope ((x, Cc) :: cl) C env) (eval ct (compEnvC scope ((x, Cc) :: cl) C env)))
          (GTst prog w A E' elt (compEnvC scope ((x, Cc) :: cl) C env) h₀ env.locals m { ({ s₁ with heap := g } : Shared) with heap := h, toks := tk } ((I, oI) :: (C, oC) :: (D, LCg.lst ys) :: (Cc, oK) :: (news ++ mo)) I C D (fun y more => Abv Cc Cc Cc more ∧ Inv (i + 1) (ys ++ [y]) (mo ++ more)) (Inv (i + 1) ys mo)) E' { ({ s₁ with heap := g } : Shared) with heap := h, toks := tk }) ∧
      ∀ g ys mo, Inv vs.length ys mo → AfterC h₀ env.locals m { s₁ with heap := g } y news Q ys mo) E s)
    (hs : ∀ x, foldedSetIterable iter env x = pure x := by intro _; rfl) :
    wpAny (model prog w) A (exec (.Assign [.Name y py] (.ListComp elt [⟨.Name x px, iter, [ct], 0⟩] scope pos) spos) env) Q E s := by
  rw [exec_Assign_Name_used _ _ _ _ hsw]
  refine wpAny_bind (wpAny_standAt (wpAny_bind ?_))
  show wpAny _ A (do let _ ← comprehension (.ListComp elt [⟨.Name x px, iter, [ct], 0⟩] scope pos) scope env _ (newList []) false (eval iter env) (some (assign (.Name y py) env))) _ _ s
  refine wpAny_bind (wpAny_mono (wpAny_comprehension_free (use := some (assign (.Name y py) env)) (Q := fun _ s' => Q .next s') rfl hs hclos hkind hnames
    (wpAny_mono h (fun xv s₁ h₁ => ?_) fun _ _ e => e)) (fun _ s' hq => wpAny_pure (wpAny_pure hq)) fun _ _ e => e)
  obtain ⟨ax, vs, k, news, rfl, hh, F, N, hmem, hsz, Inv, h0, turn, fin⟩ := h₁
  have hl : s₁.heap.IsList ax vs.toArray := PySem.IsL.isList (n := k) (N _ hmem).1
  have hlt : ax < s₁.heap.objs.size := Heap.lt_size (N _ hmem).1
  refine wpAny_pyIter_list hl ?_
  have up : ∀ b o, s₁.heap.get? b = some o → (s₁.heap.push { cls := .type "list_iterator", data := .fields #[.ref ax, .int 0 0] }).get? b = some o := fun b o e => Heap.get?_push_of_some _ e
  have W := Walks.list (prog := prog) (w := w) (A := A) hh s₁.heap.objs.size ax (Nat.ne_of_lt hlt) vs.toArray
  rw [List.size_toArray] at W
  refine block_C Inv W hsz (fun i h st => by obtain ⟨o, e, _⟩ := st.1; exact ⟨o, e⟩) (fun i h h' o nw st e e' kp N' sub => ⟨iter_keep st.1 e e', PySem.IsL.isList (n := k) (N' _ (sub _ hmem)).1⟩) hcl hpc hkind hx ⟨⟨_, Heap.get?_push_size _ rfl, rfl, rfl⟩, hl.push _⟩ (fun b hb => ?_)
    (F.keeps up) (N.grown up) (Nat.ne_of_lt F.ns.lt) (next_is_new F) (fun p hp => Nat.ne_of_lt (Heap.lt_size (N p hp).1)) h0
    (fun i v ys mo oI C oC D Cc oK m₂ h tk E' hi hv hy hC hK F' N' => turn _ i v ys mo _ oI oC C D Cc oK m₂ h tk E' hi (by simpa using hv) hy hC hK F' N')
    (fun D C h tk m' ys mo hI F' N' o1 hn hC₀ hD₀ hCL hDL hCD offC => after_use hy hp F' N' o1 hn hC₀ hCL hCD offC (fin _ ys mo hI))
  show b < (s₁.heap.push _).objs.size
  rw [Heap.size_push]
  rcases List.mem_cons.mp hb with rfl | hb
  · exact Nat.lt_succ_self _
  · rw [List.mem_singleton.mp hb]; exact Nat.lt_succ_of_lt hlt

/-- the same over a range -/
theorem assign_cellT_range {ct elt iter : PySem.Expr} {x y : Str} {px py : Pos} {scope : Scope} {cl : List (Str × Addr)} {pos spos : Pos} {Q : Flow → Shared → Prop}
    (hsw : swapsWith (.ListComp elt [⟨.Name x px, iter, [ct], 0⟩] scope pos) (some (.Name y py)) spos.line env = pure true)
    (hclos : closureFor scope env = pure cl) (hcl : ∀ a, cellsFrom a scope.names cl = (x, a) :: cl) (hpc : ∀ h, pushCells h scope.names = h.push { cls := .type "cell", data := .cell none }) (hkind : scope.kind = .function)
    (hnames : ∀ z ∈ scope.names, z.2 = .local → scope.names.lookup z.1 = some .local) (hx : (relabel scope env).names.lookup x = some .cell)
    (hy : env.kindOf y = some .local) (hp : (env.scope.kind == .class || (env.scope.kind == .module && env.locals != env.globals)) = false)
    (h : wpAny (model prog w) A (eval iter env) (fun xv s₁ => ∃ (r : Addr) (a b : Int) (t u v : Tok) (n : Nat) (news : List (Addr × Obj)), xv = .ref r ∧ A.handled = none ∧ Fr h₀ env.locals s₁.heap m ∧ News h₀ env.locals s₁.heap news ∧ IsRange s₁.heap r a b 1 t u v ∧ Builtin.Range.small a b 1 = true ∧ Builtin.Range.rangeSize a b 1 = ((n : Nat) : Int) ∧ n ≤ sizeLine ∧
      ∃ Inv : Nat → List Value → List (Addr × Obj) → Prop, Inv 0 [] [] ∧
      (∀ g i v ys mo I oI oC C D Cc oK m₂ h tk (E' : Value → Shared → Prop), i < n → (∃ t, v = .int (a + (i : Int)) t) → Inv i ys mo → LCg.NsObj oC m₂ → oK.data = .cell (some v) → Fr h₀ env.locals h m →
        News h₀ env.locals h ((I, oI) :: (C, oC) :: (D, LCg.lst ys) :: (Cc, oK) :: (news ++ mo)) →
        wpAny (model prog w) A (isTrue ct (compEnvC scope ((x, Cc) :: cl) C env) (eval ct (compEnvC scope ((x, Cc) :: cl) C env)))
          (GTst prog w A E' elt (compEnvC scope ((x, Cc) :: cl) C env) h₀ env.locals m { ({ s₁ with heap := g } : Shared) with heap := h, toks := tk } ((I, oI) :: (C, oC) :: (D, LCg.lst ys) :: (Cc, oK) :: (news ++ mo)) I C D (fun y more => Abv Cc Cc Cc more ∧ Inv (i + 1) (ys ++ [y]) (mo ++ more)) (Inv (i + 1) ys mo)) E' { ({ s₁ with heap := g } : Shared) with heap := h, toks := tk }) ∧
      ∀ g ys mo, Inv n ys mo → AfterC h₀ env.locals m { s₁ with heap := g } y news Q ys mo) E s)
    (hs : ∀ x, foldedSetIterable iter env x = pure x := by intro _; rfl) :
    wpAny (model prog w) A (exec (.Assign [.Name y py] (.ListComp elt [⟨.Name x px, iter, [ct], 0⟩] scope pos) spos) env) Q E s := by
  rw [exec_Assign_Name_used _ _ _ _ hsw]
  refine wpAny_bind (wpAny_standAt (wpAny_bind ?_))
  show wpAny _ A (do let _ ← comprehension (.ListComp elt [⟨.Name x px, iter, [ct], 0⟩] scope pos) scope env _ (newList []) false (eval iter env) (some (assign (.Name y py) env))) _ _ s
  refine wpAny_bind (wpAny_mono (wpAny_comprehension_free (use := some (assign (.Name y py) env)) (Q := fun _ s' => Q .next s') rfl hs hclos hkind hnames
    (wpAny_mono h (fun xv s₁ h₁ => ?_) fun _ _ e => e)) (fun _ s' hq => wpAny_pure (wpAny_pure hq)) fun _ _ e => e)
  obtain ⟨r, a, b, t, u, v, n, news, rfl, hh, F, N, hr, hsm, hn, hsz, Inv, h0, turn, fin⟩ := h₁
  refine wpAny_pyIter_range hr hsm ?_
  refine block_C Inv (LCg.range_walks hh a n) hsz (fun i h st => ⟨_, st⟩) (fun i h h' o nw st e e' kp N' sub => LCg.range_st (h₀ := h₀) (L := env.locals) i h h' o nw st e e' kp N' trivial) hcl hpc hkind hx (by show IsRangeIter _ _ _ _ _; rw [hn]; simpa using Heap.get?_push_size _ rfl) (fun b hb => ?_)
    (F.keeps fun _ _ e => Heap.get?_push_of_some _ e) (N.grown fun _ _ e => Heap.get?_push_of_some _ e) (Nat.ne_of_lt F.ns.lt) (next_is_new F) (fun p hp => Nat.ne_of_lt (Heap.lt_size (N p hp).1)) h0
    (fun i v ys mo oI C oC D Cc oK m₂ h tk E' hi hv hy hC hK F' N' => turn _ i v ys mo _ oI oC C D Cc oK m₂ h tk E' hi hv hy hC hK F' N')
    (fun D C h tk m' ys mo hI F' N' o1 hn hC₀ hD₀ hCL hDL hCD offC => after_use hy hp F' N' o1 hn hC₀ hCL hCD offC (fin _ ys mo hI))
  rw [List.mem_singleton.mp hb]
  show s₁.heap.objs.size < (s₁.heap.push _).objs.size
  rw [Heap.size_push]; exact Nat.lt_succ_self _
end
end Mine
end

section
open PySem PySem.W PySem.Spec PySem.Calls PyProof.Rows
set_option maxRecDepth 100000
namespace Mine
theorem compTurn_20 (elt t1 iter t2 iter2 : PySem.Expr) (scope : Scope) (pos : Pos) (it acc : Value) (env : Env) :
    compTurn (.ListComp elt [⟨t1, iter, [], 0⟩, ⟨t2, iter2, [], 0⟩] scope pos) 0 it acc env = (do
      standAt iter.pos
      match ← pyNext it with
      | none => pure (.done .next)
      | some v =>
        letOwnedTupleGo t1 it v
        assign t1 env v
        let xv ← eval iter2 env
        standAt iter2.pos
        let xv ← foldedSetIterable iter2 env xv
        let _ ← runOwn (.compStart (.ListComp elt [⟨t1, iter, [], 0⟩, ⟨t2, iter2, [], 0⟩] scope pos) 1 (← holding [xv] (pyIter xv)) acc env) env
        again (.compLoop (.ListComp elt [⟨t1, iter, [], 0⟩, ⟨t2, iter2, [], 0⟩] scope pos) 0 it acc env)) := by rfl
theorem compTurn_21 (elt t1 iter t2 iter2 : PySem.Expr) (scope : Scope) (pos : Pos) (it acc : Value) (env : Env) :
    compTurn (.ListComp elt [⟨t1, iter, [], 0⟩, ⟨t2, iter2, [], 0⟩] scope pos) 1 it acc env = (do
      standAt iter2.pos
      match ← pyNext it with
      | none => pure (.done .next)
      | some v =>
        letOwnedTupleGo t2 it v
        assign t2 env v
        (do let _ ← call (.builtin "list.append") [acc, ← eval elt env])
        again (.compLoop (.ListComp elt [⟨t1, iter, [], 0⟩, ⟨t2, iter2, [], 0⟩] scope pos) 1 it acc env)) := by rfl
section
variable {prog : Program} {w : World} {A : Around} {E : Value → Shared → Prop} {s : Shared} {h₀ : Heap} {L : Addr} {m : Str → Option Value} {env : Env} {R : Result → Shared → Prop}
variable {elt iter iter2 : PySem.Expr} {x y : Str} {px py : Pos} {scope : Scope} {pos : Pos} {it acc : Value}

theorem compLoop_21 (J : Nat → Shared → Prop)
    (turn : ∀ n s, J n s → ∀ E', wpAny (model prog w) A (pyNext it) (fun r s₁ => match r with
      | none => R (.ok .next) s₁
      | some v => wpAny (model prog w) A (assign (.Name y py) env v) (fun _ s₂ => wpAny (model prog w) A (eval elt env) (fun x s₄ =>
              wpAny (model prog w) A (call (.builtin "list.append") [acc, x]) (fun _ s₅ => ∃ m, m < n ∧ J m s₅) E' s₄) E' s₂) E' s₁) E' s)
    (n : Nat) (h : J n s) : codeAny (model prog w) A (.compLoop (.ListComp elt [⟨.Name x px, iter, [], 0⟩, ⟨.Name y py, iter2, [], 0⟩] scope pos) 1 it acc env) R s := by
  refine codeAny_loop rfl J (fun n s hI => ?_) n h
  show wpAny _ A ((compTurn (.ListComp elt [⟨.Name x px, iter, [], 0⟩, ⟨.Name y py, iter2, [], 0⟩] scope pos) 1 it acc env).onRaise (fun x => do noteFrame x env; theTreesLotGoes x)) _ _ s
  refine wpAny_noted ?_
  rw [compTurn_21]
  refine wpAny_bind (wpAny_standAt (wpAny_bind (wpAny_mono (turn n s hI _) (fun r s₁ h₁ => ?_) fun _ _ h' => h')))
  cases r with
  | none => exact wpAny_pure h₁
  | some v =>
    refine wpAny_bind (wpAny_of_eq (a := ()) rfl ?_)
    refine wpAny_bind (wpAny_mono h₁ (fun _ s₂ h₂ => ?_) fun _ _ h' => h')
    exact wpAny_bind (wpAny_bind (wpAny_mono h₂ (fun x s₄ h₄ => wpAny_bind (wpAny_mono h₄ (fun _ s₅ h₅ => wpAny_pure (wpAny_pure ⟨rfl, h₅⟩)) fun _ _ h' => h')) fun _ _ h' => h'))

theorem compStart_1
    (h0 : codeAny (model prog w) A (.compLoop (.ListComp elt [⟨.Name x px, iter, [], 0⟩, ⟨.Name y py, iter2, [], 0⟩] scope pos) 1 it acc env) R s)
    (h : ∀ E', wpAny (model prog w) A (pyIter it) (fun it' s' => codeAny (model prog w) A (.compLoop (.ListComp elt [⟨.Name x px, iter, [], 0⟩, ⟨.Name y py, iter2, [], 0⟩] scope pos) 1 it' acc env) R s') E' s) :
    codeAny (model prog w) A (.compStart (.ListComp elt [⟨.Name x px, iter, [], 0⟩, ⟨.Name y py, iter2, [], 0⟩] scope pos) 1 it acc env) R s := by
  refine codeAny_of_tree ?_
  show wpAny _ _ ((compStart (.ListComp elt [⟨.Name x px, iter, [], 0⟩, ⟨.Name y py, iter2, [], 0⟩] scope pos) 1 it acc env).onRaise (fun x => do noteFrame x env; standAt theWindowsPlace)) _ _ s
  refine wpAny_notedAt ?_
  unfold compStart
  show wpAny _ _ (ask >>= _) _ _ s
  refine wpAny_bind (wpAny_askSetting (wpAny_ite ?_))
  split
  · first
      | exact wpAny_bind (wpAny_pure (wpAny_pure (And.intro rfl h0)))
      | exact wpAny_pure (And.intro rfl h0)
  · first
      | exact wpAny_bind (wpAny_rule (wpAny_bind (wpAny_standAt (wpAny_bind (wpAny_mono (h _) (fun it' s' h' => wpAny_pure (And.intro rfl h')) fun _ _ x => x)))))
      | (refine wpAny_bind (wpAny_rule ?_); show wpAny _ _ (standAt iter2.pos >>= _) _ _ s; exact wpAny_bind (wpAny_standAt (wpAny_bind (wpAny_mono (h _) (fun it' s' h' => wpAny_pure (And.intro rfl h')) fun _ _ x => x))))

theorem compLoop_20 (J : Nat → Shared → Prop)
    (turn : ∀ n s, J n s → ∀ E', wpAny (model prog w) A (pyNext it) (fun r s₁ => match r with
      | none => R (.ok .next) s₁
      | some v => wpAny (model prog w) A (assign (.Name x px) env v) (fun _ s₂ => wpAny (model prog w) A (eval iter2 env) (fun xv s₃ => wpAny (model prog w) A (pyIter xv) (fun it2 s₄ =>
              codeAny (model prog w) A (.compStart (.ListComp elt [⟨.Name x px, iter, [], 0⟩, ⟨.Name y py, iter2, [], 0⟩] scope pos) 1 it2 acc env) (fun r s₅ => r = .ok .next ∧ ∃ m, m < n ∧ J m s₅) s₄) E' s₃) E' s₂) E' s₁) E' s)
    (n : Nat) (h : J n s) (hs : ∀ x, foldedSetIterable iter2 env x = pure x := by intro _; rfl) :
    codeAny (model prog w) A (.compLoop (.ListComp elt [⟨.Name x px, iter, [], 0⟩, ⟨.Name y py, iter2, [], 0⟩] scope pos) 0 it acc env) R s := by
  refine codeAny_loop rfl J (fun n s hI => ?_) n h
  show wpAny _ A ((compTurn (.ListComp elt [⟨.Name x px, iter, [], 0⟩, ⟨.Name y py, iter2, [], 0⟩] scope pos) 0 it acc env).onRaise (fun x => do noteFrame x env; theTreesLotGoes x)) _ _ s
  refine wpAny_noted ?_
  rw [compTurn_20]
  refine wpAny_bind (wpAny_standAt (wpAny_bind (wpAny_mono (turn n s hI _) (fun r s₁ h₁ => ?_) fun _ _ h' => h')))
  cases r with
  | none => exact wpAny_pure h₁
  | some v =>
    refine wpAny_bind (wpAny_of_eq (a := ()) rfl ?_)
    refine wpAny_bind (wpAny_mono h₁ (fun _ s₂ h₂ => ?_) fun _ _ h' => h')
    refine wpAny_bind (wpAny_mono h₂ (fun xv s₃ h₃ => ?_) fun _ _ h' => h')
    refine wpAny_bind (wpAny_standAt (wpAny_bind (wpAny_of_eq (hs xv) ?_)))
    refine wpAny_bind (wpAny_holding (wpAny_mono h₃ (fun it2 s₄ h₄ => ?_) fun _ _ h' => h'))
    refine wpAny_bind (wpAny_runOwn (codeAny_mono h₄ fun r s₅ h₅ => ?_))
    obtain ⟨rfl, h₅⟩ := h₅
    exact wpAny_pure ⟨rfl, h₅⟩

/-- the inner turns of a comprehension of two clauses, over a range -/
theorem inner_2 {cl : List (Str × Addr)} {I C D : Addr} {oI : Obj} {v : Value} {news : List (Addr × Obj)} {r : Addr} {b : Int} {t u t' : Tok} {n : Nat} {s₀ : Shared}
    (Inv2 : Nat → List Value → List (Addr × Obj) → Prop) (hh : A.handled = none) (hkind : scope.kind = .function) (hy : scope.names.lookup y = some .local) (hxy : x ≠ y)
    (hIC : I ≠ C) (hID : I ≠ D) (hCD : C ≠ D) (hIL : I ≠ L) (hCL : C ≠ L) (hDL : D ≠ L) (hI₀ : h₀.get? I = none) (hC₀ : h₀.get? C = none) (hD₀ : h₀.get? D = none)
    (hlen : ∀ j ys mo, Inv2 j ys mo → ys.length ≤ sizeLine)
    (turn : ∀ j ys mo I2 oI2 oC m₃ h tk (E' : Value → Shared → Prop), j < n → Inv2 j ys mo → LCg.NsObj oC m₃ → m₃ x = some v → (∃ t, m₃ y = some (.int ((j : Nat) : Int) t)) → Fr h₀ L h m →
      News h₀ L h ((I2, oI2) :: (I, oI) :: (C, oC) :: (D, LCg.lst ys) :: (news ++ mo)) →
      wpAny (model prog w) A (eval elt (compEnvC scope cl C env)) (GEnd h₀ L m { s₀ with heap := h, toks := tk } ((I2, oI2) :: (I, oI) :: (C, oC) :: (D, LCg.lst ys) :: (news ++ mo)) I C D (fun y more => Abv I2 I2 I2 more ∧ Inv2 (j + 1) (ys ++ [y]) (mo ++ more))) E' { s₀ with heap := h, toks := tk })
    {h : Heap} {tk : Nat} {ys : List Value} {mo : List (Addr × Obj)} {m' : Str → Option Value}
    (hr : IsRange h r 0 b 1 t u t') (hsm : Builtin.Range.small 0 b 1 = true) (hn : Builtin.Range.rangeSize 0 b 1 = ((n : Nat) : Int))
    (F : Fr h₀ L h m) (hnC : h.Ns C m') (hmx : m' x = some v) (N : News h₀ L h ((I, oI) :: (D, LCg.lst ys) :: (news ++ mo))) (off : ∀ p ∈ news ++ mo, p.1 ≠ I ∧ p.1 ≠ C ∧ p.1 ≠ D) (h0 : Inv2 0 ys mo) {Q : Result → Shared → Prop}
    (fin : ∀ h tk ys mo m', Inv2 n ys mo → Fr h₀ L h m → h.Ns C m' → News h₀ L h ((I, oI) :: (D, LCg.lst ys) :: (news ++ mo)) → (∀ p ∈ news ++ mo, p.1 ≠ I ∧ p.1 ≠ C ∧ p.1 ≠ D) → Q (.ok .next) { s₀ with heap := h, toks := tk }) (E : Value → Shared → Prop) :
    wpAny (model prog w) A (pyIter (.ref r)) (fun it2 s₄ => codeAny (model prog w) A (.compStart (.ListComp elt [⟨.Name x px, iter, [], 0⟩, ⟨.Name y py, iter2, [], 0⟩] scope pos) 1 it2 (.ref D) (compEnvC scope cl C env)) Q s₄) E { s₀ with heap := h, toks := tk } := by
  refine wpAny_pyIter_range (s := { s₀ with heap := h, toks := tk }) hr hsm ?_
  have hCsz : C < h.objs.size := by obtain ⟨o, es, ep, ho, _⟩ := hnC; exact Heap.lt_size ho
  have hLsz : L < h.objs.size := F.ns.lt
  have hI2₀ : h₀.get? h.objs.size = none := next_is_new F
  have hNsz : ∀ p ∈ (I, oI) :: (D, LCg.lst ys) :: (news ++ mo), p.1 < h.objs.size := fun p hp => Heap.lt_size (N p hp).1
  have upH : ∀ c o, h.get? c = some o → (h.push { cls := .type "range_iterator", data := .fields #[rawInt 0, rawInt (Builtin.Range.rangeSize 0 b 1), rawInt 1] }).get? c = some o := fun c o e => Heap.get?_push_of_some _ e
  have hst0 : IsRangeIter (h.push { cls := .type "range_iterator", data := .fields #[rawInt 0, rawInt (Builtin.Range.rangeSize 0 b 1), rawInt 1] }) h.objs.size (0 + ((0 : Nat) : Int) * 1) ((n : Int) - ((0 : Nat) : Int)) 1 := by
    show Heap.get? _ _ = _
    rw [hn]
    simpa using Heap.get?_push_size _ rfl
  show codeAny _ A (.compStart _ 1 (.ref h.objs.size) _ _) Q { s₀ with heap := h.push { cls := .type "range_iterator", data := .fields #[rawInt 0, rawInt (Builtin.Range.rangeSize 0 b 1), rawInt 1] }, toks := tk }
  generalize h.push { cls := .type "range_iterator", data := .fields #[rawInt 0, rawInt (Builtin.Range.rangeSize 0 b 1), rawInt 1] } = H at upH hst0 ⊢
  generalize h.objs.size = I2 at *
  have W := LCg.range_walks (prog := prog) (w := w) (A := A) (I := I2) hh 0 n
  have hI2I : I ≠ I2 := Nat.ne_of_lt (hNsz (I, oI) (.head _))
  have hI2D : D ≠ I2 := Nat.ne_of_lt (hNsz (D, LCg.lst ys) (.tail _ (.head _)))
  have hI2C : C ≠ I2 := Nat.ne_of_lt hCsz
  have hI2L : L ≠ I2 := Nat.ne_of_lt hLsz
  have loop : codeAny (model prog w) A (.compLoop (.ListComp elt [⟨.Name x px, iter, [], 0⟩, ⟨.Name y py, iter2, [], 0⟩] scope pos) 1 (.ref I2) (.ref D) (compEnvC scope cl C env)) Q { s₀ with heap := H, toks := tk } := by
    refine compLoop_21 (fun k s' => ∃ h' tk j ys mo m', s' = { s₀ with heap := h', toks := tk } ∧ j ≤ n ∧ k = n + 1 - j ∧ IsRangeIter h' I2 (0 + ((j : Nat) : Int) * 1) ((n : Int) - ((j : Nat) : Int)) 1 ∧ Fr h₀ L h' m ∧ h'.Ns C m' ∧ m' x = some v ∧
        News h₀ L h' ((I, oI) :: (D, LCg.lst ys) :: (news ++ mo)) ∧ (∀ p ∈ news ++ mo, p.1 ≠ I ∧ p.1 ≠ C ∧ p.1 ≠ D ∧ p.1 ≠ I2) ∧ Inv2 j ys mo) ?_ (n + 1)
      ⟨H, tk, 0, ys, mo, m', rfl, Nat.zero_le _, rfl, hst0, F.keeps upH, hnC.keeps upH, hmx, N.grown upH, fun p hp => ⟨(off p hp).1, (off p hp).2.1, (off p hp).2.2, Nat.ne_of_lt (hNsz p (.tail _ (.tail _ hp)))⟩, h0⟩
    rintro k s' ⟨h', tk, j, ys, mo, m', rfl, hj, rfl, hst', F', hn', hmx', N', off', hInv⟩ E'
    by_cases hlt : j < n
    · refine W.item j _ _ _ hlt hst' fun v2 h₂ tk₂ hPv hst₂ hk₂ => ?_
      obtain ⟨tv, rfl⟩ := hPv
      rw [Int.zero_add]
      have F₂ := LCg.fr_but F' hk₂ hI2L hI2₀
      have N₂ : News h₀ L h₂ ((I, oI) :: (D, LCg.lst ys) :: (news ++ mo)) := LCg.news_but N' hk₂ fun p hp => by
        rcases List.mem_cons.mp hp with rfl | hp
        · exact hI2I
        rcases List.mem_cons.mp hp with rfl | hp
        · exact hI2D
        · exact (off' p hp).2.2.2
      have hn₂ : h₂.Ns C m' := hn'.at' fun o e => hk₂ _ o (by simpa using hI2C) e
      refine wpAny_assign_Name (wpAny_storeName_local (env := compEnvC scope cl C env) (lookup_relabel_local hy) hn₂ (fun h₃ hn₃ hs₃ => ?_) (by simp [compEnvC, relabel, hkind]))
      have hst₃ : IsRangeIter h₃ I2 (0 + ((j + 1 : Nat) : Int) * 1) ((n : Int) - ((j + 1 : Nat) : Int)) 1 := (hs₃.2 I2 (Ne.symm hI2C)).trans hst₂
      obtain ⟨oC, heC, hoC⟩ := LCg.ns_obj hn₃
      have F₃ : Fr h₀ L h₃ m := F₂.change hs₃ hCL hC₀
      have N₃ : News h₀ L h₃ ((I2, _) :: (I, oI) :: (C, oC) :: (D, LCg.lst ys) :: (news ++ mo)) := fun p hp => by
        rcases List.mem_cons.mp hp with rfl | hp
        · exact ⟨hst₃, Ne.symm hI2L, hI2₀⟩
        rcases List.mem_cons.mp hp with rfl | hp
        · have z := N₂ _ (.head _)
          exact ⟨hs₃.extBut _ _ hIC z.1, z.2⟩
        rcases List.mem_cons.mp hp with rfl | hp
        · exact ⟨heC, hCL, hC₀⟩
        rcases List.mem_cons.mp hp with rfl | hp
        · have z := N₂ _ (.tail _ (.head _))
          exact ⟨hs₃.extBut _ _ hCD.symm z.1, z.2⟩
        · have z := N₂ p (.tail _ (.tail _ hp))
          exact ⟨hs₃.extBut _ _ (off' p hp).2.1 z.1, z.2⟩
      refine wpAny_mono (turn j ys mo I2 _ oC _ h₃ _ E' hlt hInv hoC (by simp [hxy, hmx']) ⟨tv, by simp⟩ F₃ N₃) (fun z s₄ h₄ => ?_) fun _ _ e => e
      obtain ⟨h₄, tk₄, led₄, more, rfl, F₄, N₄, sub, sub2, hab, hab2, hInv₄⟩ := h₄
      have zI2 := (N₄ _ (sub _ (.head _))).1
      have zI := N₄ _ (sub _ (.tail _ (.head _)))
      have zC := (N₄ _ (sub _ (.tail _ (.tail _ (.head _))))).1
      have zD := (N₄ _ (sub _ (.tail _ (.tail _ (.tail _ (.head _)))))).1
      have N₄' : News h₀ L h₄ (news ++ (mo ++ more)) := fun p hp => by
        rw [← List.append_assoc] at hp
        rcases List.mem_append.mp hp with hp | hp
        · exact N₄ p (sub p (.tail _ (.tail _ (.tail _ (.tail _ hp)))))
        · exact N₄ p (sub2 p hp)
      have off₄ : ∀ p ∈ news ++ (mo ++ more), p.1 ≠ I ∧ p.1 ≠ C ∧ p.1 ≠ D ∧ p.1 ≠ I2 := fun p hp => by
        rw [← List.append_assoc] at hp
        rcases List.mem_append.mp hp with hp | hp
        · exact off' p hp
        · have a := hab p hp
          exact ⟨a.1, a.2.1, a.2.2, (hab2 p hp).1⟩
      refine append_at (hsz := by show ys.toArray.size ≤ sizeLine; rw [List.size_toArray]; exact hlen _ _ _ hInv) zD fun h₅ hs₅ hD₅ => ?_
      refine ⟨n + 1 - (j + 1), by omega, h₅, tk₄, j + 1, ys ++ [z], mo ++ more, _, rfl, hlt, rfl, (hs₅.2 I2 (Ne.symm hI2D)).trans zI2, F₄.change hs₅ hDL hD₀, (hoC.ns zC).sameBut hs₅ hCD, by simp [hxy, hmx'], fun p hp => ?_, off₄, hInv₄⟩
      rcases List.mem_cons.mp hp with rfl | hp
      · exact ⟨hs₅.extBut _ _ hID zI.1, zI.2⟩
      rcases List.mem_cons.mp hp with rfl | hp
      · exact ⟨hD₅.trans (congrArg some (LCg.lst_snoc ys z)), hDL, hD₀⟩
      · exact ⟨hs₅.extBut _ _ (off₄ p hp).2.2.1 (N₄' p hp).1, (N₄' p hp).2⟩
    · obtain rfl : j = n := Nat.le_antisymm hj (Nat.not_lt.mp hlt)
      refine W.done _ _ _ hst' fun h₂ tk₂ hk₂ => ?_
      have N₂ : News h₀ L h₂ ((I, oI) :: (D, LCg.lst ys) :: (news ++ mo)) := LCg.news_but N' hk₂ fun p hp => by
        rcases List.mem_cons.mp hp with rfl | hp
        · exact hI2I
        rcases List.mem_cons.mp hp with rfl | hp
        · exact hI2D
        · exact (off' p hp).2.2.2
      exact fin h₂ tk₂ ys mo _ hInv (LCg.fr_but F' hk₂ hI2L hI2₀) (hn'.at' fun o e => hk₂ _ o (by simpa using hI2C) e) N₂ fun p hp => ⟨(off' p hp).1, (off' p hp).2.1, (off' p hp).2.2.1⟩
  exact compStart_1 loop fun E' => W.self 0 _ _ _ hst0 loop

/-- the inner range of a turn, and what its turns keep -/
noncomputable def Inner (prog : Program) (w : World) (A : Around) (h₀ : Heap) (L : Addr) (m : Str → Option Value) (env : Env) (elt : PySem.Expr) (x y : Str) (scope : Scope) (cl : List (Str × Addr)) (s₀ : Shared) (I C D : Addr) (oI oC : Obj) (v : Value) (news : List (Addr × Obj)) (ys : List Value) (mo : List (Addr × Obj)) (Next : List Value → List (Addr × Obj) → Prop) (xv : Value) (s₃ : Shared) : Prop :=
  ∃ (r : Addr) (b : Int) (t u t' : Tok) (n : Nat) (h : Heap) (tk : Nat), s₃ = { s₀ with heap := h, toks := tk } ∧ xv = .ref r ∧ IsRange h r 0 b 1 t u t' ∧ Builtin.Range.small 0 b 1 = true ∧ Builtin.Range.rangeSize 0 b 1 = ((n : Nat) : Int) ∧ Fr h₀ L h m ∧
    News h₀ L h ((I, oI) :: (C, oC) :: (D, LCg.lst ys) :: (news ++ mo)) ∧
    ∃ Inv2 : Nat → List Value → List (Addr × Obj) → Prop, Inv2 0 ys mo ∧ (∀ j ys mo, Inv2 j ys mo → ys.length ≤ sizeLine) ∧ (∀ ys mo, Inv2 n ys mo → Next ys mo) ∧
      ∀ j ys mo I2 oI2 oI oC m₃ h tk (E' : Value → Shared → Prop), j < n → Inv2 j ys mo → LCg.NsObj oC m₃ → m₃ x = some v → (∃ t, m₃ y = some (.int ((j : Nat) : Int) t)) → Fr h₀ L h m →
        News h₀ L h ((I2, oI2) :: (I, oI) :: (C, oC) :: (D, LCg.lst ys) :: (news ++ mo)) →
        wpAny (model prog w) A (eval elt (compEnvC scope cl C env)) (GEnd h₀ L m { s₀ with heap := h, toks := tk } ((I2, oI2) :: (I, oI) :: (C, oC) :: (D, LCg.lst ys) :: (news ++ mo)) I C D (fun y more => Abv I2 I2 I2 more ∧ Inv2 (j + 1) (ys ++ [y]) (mo ++ more))) E' { s₀ with heap := h, toks := tk }

/-- a comprehension of two clauses, the first over a list of the ledger, the second over a range, stored under a local name -/
theorem assign_two {z : Str} {pz : Pos} {cl : List (Str × Addr)} {spos : Pos} {Q : Flow → Shared → Prop}
    (hsw : swapsWith (.ListComp elt [⟨.Name x px, iter, [], 0⟩, ⟨.Name y py, iter2, [], 0⟩] scope pos) (some (.Name z pz)) spos.line env = pure true)
    (hclos : closureFor scope env = pure cl) (hcell : ∀ z ∈ scope.names, z.2 ≠ .cell) (hkind : scope.kind = .function)
    (hnames : ∀ z ∈ scope.names, z.2 = .local → scope.names.lookup z.1 = some .local) (hx : scope.names.lookup x = some .local) (hy : scope.names.lookup y = some .local) (hxy : x ≠ y)
    (hz : env.kindOf z = some .local) (hp : (env.scope.kind == .class || (env.scope.kind == .module && env.locals != env.globals)) = false)
    (h : wpAny (model prog w) A (eval iter env) (fun xv s₁ => ∃ (ax : Addr) (vs : List Value) (k : Nat) (news : List (Addr × Obj)), xv = .ref ax ∧ A.handled = none ∧ Fr h₀ env.locals s₁.heap m ∧ News h₀ env.locals s₁.heap news ∧ (ax, listOf vs.toArray k) ∈ news ∧
      ∃ Inv : Nat → List Value → List (Addr × Obj) → Prop, Inv 0 [] [] ∧
      (∀ g i v ys mo I oI oC C D m₂ h tk (E' : Value → Shared → Prop), i < vs.length → vs[i]? = some v → Inv i ys mo → LCg.NsObj oC m₂ → m₂ x = some v → Fr h₀ env.locals h m →
        News h₀ env.locals h ((I, oI) :: (C, oC) :: (D, LCg.lst ys) :: (news ++ mo)) →
        wpAny (model prog w) A (eval iter2 (compEnvC scope cl C env)) (Inner prog w A h₀ env.locals m env elt x y scope cl { ({ s₁ with heap := g } : Shared) with heap := h, toks := tk } I C D oI oC v news ys mo (Inv (i + 1))) E' { ({ s₁ with heap := g } : Shared) with heap := h, toks := tk }) ∧
      ∀ g ys mo, Inv vs.length ys mo → AfterC h₀ env.locals m { s₁ with heap := g } z news Q ys mo) E s)
    (hs : ∀ x, foldedSetIterable iter env x = pure x := by intro _; rfl) (hs2 : ∀ C x, foldedSetIterable iter2 (compEnvC scope cl C env) x = pure x := by intro _ _; rfl) :
    wpAny (model prog w) A (exec (.Assign [.Name z pz] (.ListComp elt [⟨.Name x px, iter, [], 0⟩, ⟨.Name y py, iter2, [], 0⟩] scope pos) spos) env) Q E s := by
  rw [exec_Assign_Name_used _ _ _ _ hsw]
  refine wpAny_bind (wpAny_standAt (wpAny_bind ?_))
  show wpAny _ A (do let _ ← comprehension (.ListComp elt [⟨.Name x px, iter, [], 0⟩, ⟨.Name y py, iter2, [], 0⟩] scope pos) scope env _ (newList []) false (eval iter env) (some (assign (.Name z pz) env))) _ _ s
  refine wpAny_bind (wpAny_mono (wpAny_comprehension_free (use := some (assign (.Name z pz) env)) (Q := fun _ s' => Q .next s') rfl hs hclos hkind hnames
    (wpAny_mono h (fun xv s₁ h₁ => ?_) fun _ _ e => e)) (fun _ s' hq => wpAny_pure (wpAny_pure hq)) fun _ _ e => e)
  obtain ⟨ax, vs, k, news, rfl, hh, F, N, hmem, Inv, h0, turn, fin⟩ := h₁
  have hl : s₁.heap.IsList ax vs.toArray := PySem.IsL.isList (n := k) (N _ hmem).1
  have hlt : ax < s₁.heap.objs.size := Heap.lt_size (N _ hmem).1
  refine wpAny_pyIter_list hl ?_
  have up : ∀ b o, s₁.heap.get? b = some o → (s₁.heap.push { cls := .type "list_iterator", data := .fields #[.ref ax, .int 0 0] }).get? b = some o := fun b o e => Heap.get?_push_of_some _ e
  have hit0 : (s₁.heap.push { cls := .type "list_iterator", data := .fields #[.ref ax, .int 0 0] }).IsListIter s₁.heap.objs.size ax 0 := ⟨_, Heap.get?_push_size _ rfl, rfl, rfl⟩
  have F1 := F.keeps up
  have N1 := N.grown up
  have hsz1 : (s₁.heap.push { cls := .type "list_iterator", data := .fields #[.ref ax, .int 0 0] }).objs.size = s₁.heap.objs.size + 1 := Heap.size_push _ _
  refine wpAny_newObj_type ?_
  dsimp only
  generalize s₁.heap.push { cls := .type "list_iterator", data := .fields #[.ref ax, .int 0 0] } = H at up hit0 F1 N1 hsz1 ⊢
  have hIL : s₁.heap.objs.size ≠ env.locals := Nat.ne_of_gt F.ns.lt
  have hI₀ : h₀.get? s₁.heap.objs.size = none := next_is_new F
  have hNlt : ∀ p ∈ news, p.1 < s₁.heap.objs.size := fun p hp => Heap.lt_size (N p hp).1
  have hLlt : env.locals < s₁.heap.objs.size := F.ns.lt
  generalize s₁.heap.objs.size = I at *
  have hD : (H.push { cls := .type "list", dict := none, data := .seq ([] : List Value).toArray }).objs.size = H.objs.size + 1 := Heap.size_push _ _
  have hacc0 : (H.push { cls := .type "list", dict := none, data := .seq ([] : List Value).toArray }).get? H.objs.size = some (LCg.lst []) := Heap.get?_push_size _ rfl
  have up2 : ∀ b o, H.get? b = some o → (H.push { cls := .type "list", dict := none, data := .seq ([] : List Value).toArray }).get? b = some o := fun b o e => Heap.get?_push_of_some _ e
  refine wpAny_newFunctionEnv hcell (by intro y hy; simp at hy) (fun h₁ hns₁ hsb₁ => ?_) hkind
  dsimp only at hns₁ hsb₁ ⊢
  generalize H.push { cls := .type "list", dict := none, data := .seq ([] : List Value).toArray } = H2 at *
  have hsb2 : ∀ b o, b ≠ H2.objs.size → H2.get? b = some o → h₁.get? b = some o := fun b o hb e => hsb₁.extBut b o hb (Heap.get?_push_of_some _ e)
  have hHI : H.objs.size = I + 1 := hsz1
  generalize hDe : H.objs.size = D at *
  generalize hCe : H2.objs.size = C at *
  have hID : I < D := by rw [hHI]; exact Nat.lt_succ_self _
  have hDC : D < C := by rw [hD]; exact Nat.lt_succ_self _
  have old : ∀ b o, H.get? b = some o → h₁.get? b = some o := fun b o e => hsb2 b o (Nat.ne_of_lt (Nat.lt_trans (hDe ▸ Heap.lt_size e) hDC)) (up2 b o e)
  have hacc : h₁.get? D = some (LCg.lst []) := hsb2 _ _ (Nat.ne_of_lt hDC) hacc0
  have fresh₀ : ∀ a, I ≤ a → h₀.get? a = none := fun a ha => by
    cases e : h₀.get? a with
    | none => rfl
    | some o' =>
      have := Heap.lt_size (F1.keep a o' e)
      rw [hDe, hHI] at this
      have h2 : a = I := Nat.le_antisymm (Nat.le_of_lt_succ this) ha
      rw [h2, hI₀] at e
      cases e
  have hD₀ : h₀.get? D = none := fresh₀ _ (Nat.le_of_lt hID)
  have hC₀ : h₀.get? C = none := fresh₀ _ (Nat.le_of_lt (Nat.lt_trans hID hDC))
  have hLD : D ≠ env.locals := Nat.ne_of_gt (Nat.lt_trans hLlt hID)
  have hLC : C ≠ env.locals := Nat.ne_of_gt (Nat.lt_trans hLlt (Nat.lt_trans hID hDC))
  have hIC : I ≠ C := Nat.ne_of_lt (Nat.lt_trans hID hDC)
  have W := Walks.list (prog := prog) (w := w) (A := A) hh I ax (Nat.ne_of_lt hlt) vs.toArray
  rw [List.size_toArray] at W
  have loop : ∀ s₃ : Shared, s₃ = { s₁ with heap := h₁, toks := s₁.toks + ([] : List (Str × Value)).length } →
      codeAny (model prog w) A (.compLoop (.ListComp elt [⟨.Name x px, iter, [], 0⟩, ⟨.Name y py, iter2, [], 0⟩] scope pos) 0 (.ref I) (.ref D) (compEnvC scope cl C env))
        (compPost (model prog w) A E (some (assign (.Name z pz) env)) (fun _ s' => Q .next s') (.ref D) C) s₃ := by
    rintro s₃ rfl
    refine compLoop_20 (fun k' s' => ∃ h' tk i ys mo m' oI, s' = { s₁ with heap := h', toks := tk } ∧ i ≤ vs.length ∧ k' = vs.length + 1 - i ∧ oI.cls = .type "list_iterator" ∧ oI.data = .fields #[.ref ax, rawInt (i : Int)] ∧ Fr h₀ env.locals h' m ∧ h'.Ns C m' ∧
        News h₀ env.locals h' ((I, oI) :: (D, LCg.lst ys) :: (news ++ mo)) ∧ (∀ p ∈ news ++ mo, p.1 ≠ I ∧ p.1 ≠ C ∧ p.1 ≠ D) ∧ Inv i ys mo) ?_ (vs.length + 1) ?_ (hs2 C)
    · rintro k' s' ⟨h', tk, i, ys, mo, m', oI, rfl, hi, rfl, hoc, hod, F', hn', N', off', hInv⟩ E'
      have hit' : h'.IsListIter I ax i := ⟨oI, (N' _ (.head _)).1, hoc, hod⟩
      have hl' : h'.IsList ax vs.toArray := PySem.IsL.isList (n := k) (N' _ (.tail _ (.tail _ (List.mem_append_left _ hmem)))).1
      by_cases hlt2 : i < vs.length
      · refine W.item i _ _ _ hlt2 ⟨hit', hl'⟩ fun v h₂ tk₂ hPv hst₂ hk₂ => ?_
        have hv : vs[i]? = some v := by simpa using hPv
        obtain ⟨oI2, hoI2, hoc2, hod2⟩ := id hst₂.1
        have F₂ := LCg.fr_but F' hk₂ hIL.symm hI₀
        have N₂ : News h₀ env.locals h₂ ((D, LCg.lst ys) :: (news ++ mo)) := LCg.news_but (fun p hp => N' p (.tail _ hp)) hk₂ fun p hp => by
          rcases List.mem_cons.mp hp with rfl | hp
          · exact Nat.ne_of_gt hID
          · exact (off' p hp).1
        have hn₂ : h₂.Ns C m' := hn'.at' fun o e => hk₂ _ o (by simpa using hIC.symm) e
        refine wpAny_assign_Name (wpAny_storeName_local (env := compEnvC scope cl C env) (lookup_relabel_local hx) hn₂ (fun h₃ hn₃ hs₃ => ?_) (by simp [compEnvC, relabel, hkind]))
        obtain ⟨oC, heC, hoC⟩ := LCg.ns_obj hn₃
        have F₃ : Fr h₀ env.locals h₃ m := F₂.change hs₃ hLC hC₀
        have N₃ : News h₀ env.locals h₃ ((I, oI2) :: (C, oC) :: (D, LCg.lst ys) :: (news ++ mo)) := fun p hp => by
          rcases List.mem_cons.mp hp with rfl | hp
          · exact ⟨hs₃.extBut _ _ hIC hoI2, hIL, hI₀⟩
          rcases List.mem_cons.mp hp with rfl | hp
          · exact ⟨heC, hLC, hC₀⟩
          rcases List.mem_cons.mp hp with rfl | hp
          · have z := N₂ _ (.head _)
            exact ⟨hs₃.extBut _ _ (Nat.ne_of_lt hDC) z.1, z.2⟩
          · have z := N₂ p (.tail _ hp)
            exact ⟨hs₃.extBut _ _ (off' p hp).2.1 z.1, z.2⟩
        refine wpAny_mono (turn h₁ i v ys mo I oI2 oC C D _ h₃ _ E' hlt2 hv hInv hoC (by simp) F₃ N₃) (fun xv s₄ h₄ => ?_) fun _ _ e => e
        obtain ⟨r, b, t, u, t', n, h₄, tk₄, rfl, rfl, hr, hsm, hn, F₄, N₄, Inv2, hi0, hlen, hnext, turn2⟩ := h₄
        refine inner_2 (s₀ := s₁) (oI := oI2) Inv2 hh hkind hy hxy hIC (Nat.ne_of_lt hID) (Nat.ne_of_gt hDC) hIL hLC hLD hI₀ hC₀ hD₀ hlen (fun j ys mo I2 oI3 oC2 m₃ h5 tk5 E5 hj hy2 hC2 hmx hmy F5 N5 => turn2 j ys mo I2 oI3 _ oC2 m₃ h5 tk5 E5 hj hy2 hC2 hmx hmy F5 N5) hr hsm hn F₄ (hoC.ns (N₄ _ (.tail _ (.head _))).1) (by simp) (fun p hp => N₄ p ?_) off' hi0 (fun h6 tk6 ys6 mo6 m6 hI6 F6 n6 N6 off6 => ?_) E'
        · rcases List.mem_cons.mp hp with rfl | hp
          · exact .head _
          · exact .tail _ (.tail _ hp)
        · exact ⟨rfl, vs.length + 1 - (i + 1), by omega, h6, tk6, i + 1, ys6, mo6, m6, oI2, rfl, hlt2, rfl, hoc2, hod2, F6, n6, N6, off6, hnext _ _ hI6⟩
      · obtain rfl : i = vs.length := Nat.le_antisymm hi (Nat.not_lt.mp hlt2)
        refine W.done _ _ _ ⟨hit', hl'⟩ fun h₂ tk₂ hk₂ => ?_
        have N₂ : News h₀ env.locals h₂ ((D, LCg.lst ys) :: (news ++ mo)) := LCg.news_but (fun p hp => N' p (.tail _ hp)) hk₂ fun p hp => by
          rcases List.mem_cons.mp hp with rfl | hp
          · exact Nat.ne_of_gt hID
          · exact (off' p hp).1
        exact after_use (s₂ := s₁) hz hp (LCg.fr_but F' hk₂ hIL.symm hI₀) N₂ (fun p hp => (off' p hp).2.2) (hn'.at' fun o e => hk₂ _ o (by simpa using hIC.symm) e) hC₀ hLC (Nat.ne_of_gt hDC) (fun p hp => (off' p hp).2.1) (fin h₁ ys mo hInv)
    · obtain ⟨oI, hoI, hoc, hod⟩ := hit0
      refine ⟨h₁, _, 0, [], [], _, oI, rfl, Nat.zero_le _, rfl, hoc, hod, F1.keeps old, hns₁, fun p hp => ?_, fun p hp => ?_, h0⟩
      · rcases List.mem_cons.mp hp with rfl | hp
        · exact ⟨old _ _ hoI, hIL, hI₀⟩
        rcases List.mem_cons.mp hp with rfl | hp
        · exact ⟨hacc, hLD, hD₀⟩
        · rw [List.append_nil] at hp
          have z := N1 p hp
          exact ⟨old _ _ z.1, z.2⟩
      · rw [List.append_nil] at hp
        have := hNlt p hp
        exact ⟨Nat.ne_of_lt this, Nat.ne_of_lt (Nat.lt_trans this (Nat.lt_trans hID hDC)), Nat.ne_of_lt (Nat.lt_trans this hID)⟩
  have hl1 : h₁.IsList ax vs.toArray := PySem.IsL.isList (n := k) (old _ _ (N1 _ hmem).1)
  have hit1 : h₁.IsListIter I ax 0 := by
    obtain ⟨oI, hoI, hoc, hod⟩ := hit0
    exact ⟨oI, old _ _ hoI, hoc, hod⟩
  exact codeAny_compStart_list (loop _ rfl) (W.self 0 _ _ _ ⟨hit1, hl1⟩ (loop _ rfl))
end
end Mine
end

section
open PySem
set_option maxHeartbeats 8000000
namespace Mine
/-! the plain law of the second: everything depends on the order in which the ties come off alone -/
noncomputable def PART : List (List Nat) := [[0, 0, 0, 0], [0, 0, 0, 1], [0, 0, 1, 0], [0, 0, 1, 1], [0, 0, 1, 2], [0, 1, 0, 0], [0, 1, 0, 1], [0, 1, 0, 2], [0, 1, 1, 0], [0, 1, 1, 1], [0, 1, 1, 2], [0, 1, 2, 0], [0, 1, 2, 1], [0, 1, 2, 2], [0, 1, 2, 3]]
noncomputable def rings : List Nat := [7, 25, 42, 52, 30, 45, 51]
noncomputable def gOf : List Nat → Nat
  | [] => 0
  | k :: r => Nat.lor (Nat.pow 2 k) (gOf r)
noncomputable def lastIn (r : Nat) : List Nat → Nat → Nat
  | [], a => a
  | k :: o, a => lastIn r o (bif Nat.testBit r k then k else a)
noncomputable def inB (a b : Nat) : Bool := Nat.beq (Nat.lor a b) b
noncomputable def brkO (ord : List Nat) (g : Nat) : List Nat → List Nat
  | [] => []
  | r :: l => bif inB r g then Nat.sub r (Nat.pow 2 (lastIn r ord 0)) :: brkO ord g l else brkO ord g l
noncomputable def clean : List Nat → Nat → Bool
  | [], _ => true
  | b :: l, n => bif inB b n then false else clean l n
noncomputable def toldL (bs : List Nat) (g : Nat) : List Nat → List Nat
  | [] => []
  | n :: l => bif inB n g then bif clean bs n then n :: toldL bs g l else toldL bs g l else toldL bs g l
noncomputable def toldN (ord : List Nat) : List Nat := toldL (brkO ord (gOf ord) rings) (gOf ord) (List.range 64)
noncomputable def cnt (n : Nat) : Nat := (List.range 6).foldl (fun s k => bif Nat.testBit n k then s + 1 else s) 0
noncomputable def wysB (q : Int) : Nat → Int
  | 0 => 1
  | k + 1 => wysB q k * (q - k)
noncomputable def mx4 (mk : List Nat) : Nat := mk.foldl Nat.max 0
noncomputable def okPart : List Nat → List Nat → Bool
  | [], _ => true
  | k :: o, mk => bif Nat.beq (mk.getD (tieE.getD k (0, 0)).1 0) (mk.getD (tieE.getD k (0, 0)).2 0) then false else okPart o mk
noncomputable def rm (a : Nat) : List Nat → Option (List Nat)
  | [] => none
  | b :: l => bif Nat.beq a b then some l else match rm a l with
    | none => none
    | some l' => some (b :: l')
noncomputable def permB : List Nat → List Nat → Bool
  | [], [] => true
  | [], _ :: _ => false
  | a :: r, l => match rm a l with
    | none => false
    | some l' => permB r l'
noncomputable def num (k : Nat) : List Nat → Nat
  | [] => 0
  | a :: l => bif Nat.beq a k then num k l + 1 else num k l
noncomputable def eqs (as bs : List Nat) : Bool :=
  Nat.beq (num 0 as) (num 3 bs) && Nat.beq (num 1 as + num 2 bs) (6 * num 3 bs) && Nat.beq (num 2 as + 3 * num 2 bs) (11 * num 3 bs + num 1 bs) && Nat.beq (num 3 as + 2 * num 2 bs + num 0 bs) (6 * num 3 bs + num 1 bs)
noncomputable def node (ord nums : List Nat) : Bool :=
  permB (toldN ord) nums && (nums.all fun n => Nat.ble (cnt n) 3 && Nat.ble n 63) && eqs (nums.map cnt) ((PART.filter (okPart ord)).map mx4)
noncomputable def dfs : Nat → List Nat → List Nat → List (Nat × List Nat) → Bool
  | 0, _, ord, sets => node ord (sets.map Prod.fst)
  | f + 1, rem, ord, sets => node ord (sets.map Prod.fst) && rem.all fun k => dfs f (rem.erase k) (ord ++ [k]) (tstep k sets)
end Mine
end

section
set_option maxRecDepth 100000
set_option maxHeartbeats 8000000
namespace Mine
/-! the same check in words that the kernel reads fast -/
noncomputable def bitB (m j : Nat) : Bool := Nat.beq (Nat.land (Nat.shiftRight m j) 1) 1
noncomputable def cleanR (n : Nat) (bs : List Nat) : Bool := List.rec (motive := fun _ => Bool) true (fun b _ ih => bif Nat.beq (Nat.lor b n) n then false else ih) bs
noncomputable def toldR (bs : List Nat) (g : Nat) (l : List Nat) : List Nat := List.rec (motive := fun _ => List Nat) [] (fun n _ ih => bif Nat.beq (Nat.lor n g) g then bif cleanR n bs then n :: ih else ih else ih) l
noncomputable def gR (l : List Nat) : Nat := List.rec (motive := fun _ => Nat) 0 (fun k _ ih => Nat.lor (Nat.pow 2 k) ih) l
noncomputable def lastR (r : Nat) (l : List Nat) : Nat → Nat := List.rec (motive := fun _ => Nat → Nat) (fun a => a) (fun k _ ih a => ih (bif bitB r k then k else a)) l
noncomputable def brkR (ord : List Nat) (g : Nat) (l : List Nat) : List Nat := List.rec (motive := fun _ => List Nat) [] (fun r _ ih => bif Nat.beq (Nat.lor r g) g then Nat.sub r (Nat.pow 2 (lastR r ord 0)) :: ih else ih) l
noncomputable def all64 : List Nat := [0, 1, 2, 3, 4, 5, 6, 7, 8, 9, 10, 11, 12, 13, 14, 15, 16, 17, 18, 19, 20, 21, 22, 23, 24, 25, 26, 27, 28, 29, 30, 31, 32, 33, 34, 35, 36, 37, 38, 39, 40, 41, 42, 43, 44, 45, 46, 47, 48, 49, 50, 51, 52, 53, 54, 55, 56, 57, 58, 59, 60, 61, 62, 63]
noncomputable def toldNR (ord : List Nat) : List Nat := toldR (brkR ord (gR ord) rings) (gR ord) all64
noncomputable def lenR (l : List Nat) : Nat := List.rec (motive := fun _ => Nat) 0 (fun _ _ ih => Nat.succ ih) l
noncomputable def few3 : Nat := 78557353124790271
noncomputable def tabW : Nat := 217816190031132045689038919141651274358500308795490784474895960853542769962227331041113031310511321012369534204565147965737500394525778298824319199284702714568180927019701365792076913605342602318104431096250093670784627035509843264470600641203664839728857606504590169338584152506066168740901813248434628915733314302028702093633234427296016028945565726974056936981204871778106132468775427391283446118932467108500044849379395258985750418772071029345413281145869422949093740371794885582003212942434253673822479910057644760385701951068294747083523749028662121648377425209425279730675573700453581541634211708526896455455324174775615036030278884987487566356509399956782427154210962553176065
noncomputable def tabB : Nat := 330382151437805967807447071
noncomputable def wOf (n : Nat) : Nat := Nat.land (Nat.shiftRight tabW (Nat.mul 40 n)) 1099511627775
noncomputable def bOf (k : Nat) : Nat := Nat.land (Nat.shiftRight tabB (Nat.mul 15 k)) 32767
noncomputable def sumW (l : List Nat) : Nat := List.rec (motive := fun _ => Nat) 0 (fun n _ ih => Nat.add (wOf n) ih) l
noncomputable def orB (l : List Nat) : Nat := List.rec (motive := fun _ => Nat) 0 (fun k _ ih => Nat.lor (bOf k) ih) l
noncomputable def parJ : List (Nat × List Nat) := [(0, [0, 0, 0, 0]), (1, [0, 0, 0, 1]), (2, [0, 0, 1, 0]), (3, [0, 0, 1, 1]), (4, [0, 0, 1, 2]), (5, [0, 1, 0, 0]), (6, [0, 1, 0, 1]), (7, [0, 1, 0, 2]), (8, [0, 1, 1, 0]), (9, [0, 1, 1, 1]), (10, [0, 1, 1, 2]), (11, [0, 1, 2, 0]), (12, [0, 1, 2, 1]), (13, [0, 1, 2, 2]), (14, [0, 1, 2, 3])]
noncomputable def sumP (wt : Nat → Nat) (m : Nat) (l : List (Nat × List Nat)) : Nat := List.rec (motive := fun _ => Nat) 0 (fun p _ ih => bif bitB m p.1 then ih else Nat.add (wt (mx4 p.2)) ih) l
noncomputable def wL : Nat → Nat
  | 0 => 1073741824
  | 2 => 2150630400
  | _ => 0
noncomputable def wR : Nat → Nat
  | 1 => 1074790400
  | 3 => 6453991425
  | _ => 0
noncomputable def nodeF (ord nums : List Nat) : Bool :=
  (Nat.beq (gR (toldNR ord)) (gR nums) && Nat.beq (lenR (toldNR ord)) (lenR nums)) && (Nat.beq (Nat.lor (gR nums) few3) few3 && Nat.beq (Nat.add (sumW nums) (sumP wL (orB ord) parJ)) (sumP wR (orB ord) parJ))
noncomputable def dfsF : Nat → List Nat → List Nat → List (Nat × List Nat) → Bool
  | 0, _, ord, sets => nodeF ord (sets.map Prod.fst)
  | f + 1, rem, ord, sets => nodeF ord (sets.map Prod.fst) && rem.all fun k => dfsF f (rem.erase k) (ord ++ [k]) (tstep k sets)
end Mine
end

section
set_option maxRecDepth 100000
set_option maxHeartbeats 8000000
namespace Mine
theorem chk_nil : nodeF [] ((tleft []).map Prod.fst) = true := by decide +kernel
theorem chk_step {f : Nat} {rem ord : List Nat} {sets : List (Nat × List Nat)} (h0 : nodeF ord (sets.map Prod.fst) = true) (h : ∀ k ∈ rem, dfsF f (rem.erase k) (ord ++ [k]) (tstep k sets) = true) : dfsF (f + 1) rem ord sets = true := by
  unfold dfsF
  rw [Bool.and_eq_true]
  exact ⟨h0, List.all_eq_true.mpr h⟩
theorem chk_0_n : nodeF [0] ((tstep 0 [(0, [0, 1, 2, 3])]).map Prod.fst) = true := by decide +kernel
theorem chk_0_1 : dfsF 4 [2, 3, 4, 5] [0, 1] (tstep 1 (tstep 0 [(0, [0, 1, 2, 3])])) = true := by decide +kernel
theorem chk_0_2 : dfsF 4 [1, 3, 4, 5] [0, 2] (tstep 2 (tstep 0 [(0, [0, 1, 2, 3])])) = true := by decide +kernel
theorem chk_0_3 : dfsF 4 [1, 2, 4, 5] [0, 3] (tstep 3 (tstep 0 [(0, [0, 1, 2, 3])])) = true := by decide +kernel
theorem chk_0_4 : dfsF 4 [1, 2, 3, 5] [0, 4] (tstep 4 (tstep 0 [(0, [0, 1, 2, 3])])) = true := by decide +kernel
theorem chk_0_5 : dfsF 4 [1, 2, 3, 4] [0, 5] (tstep 5 (tstep 0 [(0, [0, 1, 2, 3])])) = true := by decide +kernel
theorem chk_0 : dfsF 5 ([0, 1, 2, 3, 4, 5].erase 0) [0] (tstep 0 [(0, [0, 1, 2, 3])]) = true :=
  chk_step chk_0_n (show ∀ k ∈ [1, 2, 3, 4, 5], dfsF 4 ([1, 2, 3, 4, 5].erase k) ([0] ++ [k]) (tstep k (tstep 0 [(0, [0, 1, 2, 3])])) = true from List.forall_mem_cons.mpr ⟨chk_0_1, List.forall_mem_cons.mpr ⟨chk_0_2, List.forall_mem_cons.mpr ⟨chk_0_3, List.forall_mem_cons.mpr ⟨chk_0_4, List.forall_mem_cons.mpr ⟨chk_0_5, fun _ h => nomatch h⟩⟩⟩⟩⟩)
theorem chk_1_n : nodeF [1] ((tstep 1 [(0, [0, 1, 2, 3])]).map Prod.fst) = true := by decide +kernel
theorem chk_1_0 : dfsF 4 [2, 3, 4, 5] [1, 0] (tstep 0 (tstep 1 [(0, [0, 1, 2, 3])])) = true := by decide +kernel
theorem chk_1_2 : dfsF 4 [0, 3, 4, 5] [1, 2] (tstep 2 (tstep 1 [(0, [0, 1, 2, 3])])) = true := by decide +kernel
theorem chk_1_3 : dfsF 4 [0, 2, 4, 5] [1, 3] (tstep 3 (tstep 1 [(0, [0, 1, 2, 3])])) = true := by decide +kernel
theorem chk_1_4 : dfsF 4 [0, 2, 3, 5] [1, 4] (tstep 4 (tstep 1 [(0, [0, 1, 2, 3])])) = true := by decide +kernel
theorem chk_1_5 : dfsF 4 [0, 2, 3, 4] [1, 5] (tstep 5 (tstep 1 [(0, [0, 1, 2, 3])])) = true := by decide +kernel
theorem chk_1 : dfsF 5 ([0, 1, 2, 3, 4, 5].erase 1) [1] (tstep 1 [(0, [0, 1, 2, 3])]) = true :=
  chk_step chk_1_n (show ∀ k ∈ [0, 2, 3, 4, 5], dfsF 4 ([0, 2, 3, 4, 5].erase k) ([1] ++ [k]) (tstep k (tstep 1 [(0, [0, 1, 2, 3])])) = true from List.forall_mem_cons.mpr ⟨chk_1_0, List.forall_mem_cons.mpr ⟨chk_1_2, List.forall_mem_cons.mpr ⟨chk_1_3, List.forall_mem_cons.mpr ⟨chk_1_4, List.forall_mem_cons.mpr ⟨chk_1_5, fun _ h => nomatch h⟩⟩⟩⟩⟩)
theorem chk_2_n : nodeF [2] ((tstep 2 [(0, [0, 1, 2, 3])]).map Prod.fst) = true := by decide +kernel
theorem chk_2_0 : dfsF 4 [1, 3, 4, 5] [2, 0] (tstep 0 (tstep 2 [(0, [0, 1, 2, 3])])) = true := by decide +kernel
theorem chk_2_1 : dfsF 4 [0, 3, 4, 5] [2, 1] (tstep 1 (tstep 2 [(0, [0, 1, 2, 3])])) = true := by decide +kernel
theorem chk_2_3 : dfsF 4 [0, 1, 4, 5] [2, 3] (tstep 3 (tstep 2 [(0, [0, 1, 2, 3])])) = true := by decide +kernel
theorem chk_2_4 : dfsF 4 [0, 1, 3, 5] [2, 4] (tstep 4 (tstep 2 [(0, [0, 1, 2, 3])])) = true := by decide +kernel
theorem chk_2_5 : dfsF 4 [0, 1, 3, 4] [2, 5] (tstep 5 (tstep 2 [(0, [0, 1, 2, 3])])) = true := by decide +kernel
theorem chk_2 : dfsF 5 ([0, 1, 2, 3, 4, 5].erase 2) [2] (tstep 2 [(0, [0, 1, 2, 3])]) = true :=
  chk_step chk_2_n (show ∀ k ∈ [0, 1, 3, 4, 5], dfsF 4 ([0, 1, 3, 4, 5].erase k) ([2] ++ [k]) (tstep k (tstep 2 [(0, [0, 1, 2, 3])])) = true from List.forall_mem_cons.mpr ⟨chk_2_0, List.forall_mem_cons.mpr ⟨chk_2_1, List.forall_mem_cons.mpr ⟨chk_2_3, List.forall_mem_cons.mpr ⟨chk_2_4, List.forall_mem_cons.mpr ⟨chk_2_5, fun _ h => nomatch h⟩⟩⟩⟩⟩)
theorem chk_3_n : nodeF [3] ((tstep 3 [(0, [0, 1, 2, 3])]).map Prod.fst) = true := by decide +kernel
theorem chk_3_0 : dfsF 4 [1, 2, 4, 5] [3, 0] (tstep 0 (tstep 3 [(0, [0, 1, 2, 3])])) = true := by decide +kernel
theorem chk_3_1 : dfsF 4 [0, 2, 4, 5] [3, 1] (tstep 1 (tstep 3 [(0, [0, 1, 2, 3])])) = true := by decide +kernel
theorem chk_3_2 : dfsF 4 [0, 1, 4, 5] [3, 2] (tstep 2 (tstep 3 [(0, [0, 1, 2, 3])])) = true := by decide +kernel
theorem chk_3_4 : dfsF 4 [0, 1, 2, 5] [3, 4] (tstep 4 (tstep 3 [(0, [0, 1, 2, 3])])) = true := by decide +kernel
theorem chk_3_5 : dfsF 4 [0, 1, 2, 4] [3, 5] (tstep 5 (tstep 3 [(0, [0, 1, 2, 3])])) = true := by decide +kernel
theorem chk_3 : dfsF 5 ([0, 1, 2, 3, 4, 5].erase 3) [3] (tstep 3 [(0, [0, 1, 2, 3])]) = true :=
  chk_step chk_3_n (show ∀ k ∈ [0, 1, 2, 4, 5], dfsF 4 ([0, 1, 2, 4, 5].erase k) ([3] ++ [k]) (tstep k (tstep 3 [(0, [0, 1, 2, 3])])) = true from List.forall_mem_cons.mpr ⟨chk_3_0, List.forall_mem_cons.mpr ⟨chk_3_1, List.forall_mem_cons.mpr ⟨chk_3_2, List.forall_mem_cons.mpr ⟨chk_3_4, List.forall_mem_cons.mpr ⟨chk_3_5, fun _ h => nomatch h⟩⟩⟩⟩⟩)
theorem chk_4_n : nodeF [4] ((tstep 4 [(0, [0, 1, 2, 3])]).map Prod.fst) = true := by decide +kernel
theorem chk_4_0 : dfsF 4 [1, 2, 3, 5] [4, 0] (tstep 0 (tstep 4 [(0, [0, 1, 2, 3])])) = true := by decide +kernel
theorem chk_4_1 : dfsF 4 [0, 2, 3, 5] [4, 1] (tstep 1 (tstep 4 [(0, [0, 1, 2, 3])])) = true := by decide +kernel
theorem chk_4_2 : dfsF 4 [0, 1, 3, 5] [4, 2] (tstep 2 (tstep 4 [(0, [0, 1, 2, 3])])) = true := by decide +kernel
theorem chk_4_3 : dfsF 4 [0, 1, 2, 5] [4, 3] (tstep 3 (tstep 4 [(0, [0, 1, 2, 3])])) = true := by decide +kernel
theorem chk_4_5 : dfsF 4 [0, 1, 2, 3] [4, 5] (tstep 5 (tstep 4 [(0, [0, 1, 2, 3])])) = true := by decide +kernel
theorem chk_4 : dfsF 5 ([0, 1, 2, 3, 4, 5].erase 4) [4] (tstep 4 [(0, [0, 1, 2, 3])]) = true :=
  chk_step chk_4_n (show ∀ k ∈ [0, 1, 2, 3, 5], dfsF 4 ([0, 1, 2, 3, 5].erase k) ([4] ++ [k]) (tstep k (tstep 4 [(0, [0, 1, 2, 3])])) = true from List.forall_mem_cons.mpr ⟨chk_4_0, List.forall_mem_cons.mpr ⟨chk_4_1, List.forall_mem_cons.mpr ⟨chk_4_2, List.forall_mem_cons.mpr ⟨chk_4_3, List.forall_mem_cons.mpr ⟨chk_4_5, fun _ h => nomatch h⟩⟩⟩⟩⟩)
theorem chk_5_n : nodeF [5] ((tstep 5 [(0, [0, 1, 2, 3])]).map Prod.fst) = true := by decide +kernel
theorem chk_5_0 : dfsF 4 [1, 2, 3, 4] [5, 0] (tstep 0 (tstep 5 [(0, [0, 1, 2, 3])])) = true := by decide +kernel
theorem chk_5_1 : dfsF 4 [0, 2, 3, 4] [5, 1] (tstep 1 (tstep 5 [(0, [0, 1, 2, 3])])) = true := by decide +kernel
theorem chk_5_2 : dfsF 4 [0, 1, 3, 4] [5, 2] (tstep 2 (tstep 5 [(0, [0, 1, 2, 3])])) = true := by decide +kernel
theorem chk_5_3 : dfsF 4 [0, 1, 2, 4] [5, 3] (tstep 3 (tstep 5 [(0, [0, 1, 2, 3])])) = true := by decide +kernel
theorem chk_5_4 : dfsF 4 [0, 1, 2, 3] [5, 4] (tstep 4 (tstep 5 [(0, [0, 1, 2, 3])])) = true := by decide +kernel
theorem chk_5 : dfsF 5 ([0, 1, 2, 3, 4, 5].erase 5) [5] (tstep 5 [(0, [0, 1, 2, 3])]) = true :=
  chk_step chk_5_n (show ∀ k ∈ [0, 1, 2, 3, 4], dfsF 4 ([0, 1, 2, 3, 4].erase k) ([5] ++ [k]) (tstep k (tstep 5 [(0, [0, 1, 2, 3])])) = true from List.forall_mem_cons.mpr ⟨chk_5_0, List.forall_mem_cons.mpr ⟨chk_5_1, List.forall_mem_cons.mpr ⟨chk_5_2, List.forall_mem_cons.mpr ⟨chk_5_3, List.forall_mem_cons.mpr ⟨chk_5_4, fun _ h => nomatch h⟩⟩⟩⟩⟩)
end Mine
end

section
open PySem
set_option maxHeartbeats 8000000
namespace Mine
theorem chk {k : Nat} (h : k < 6) : dfsF 5 ([0, 1, 2, 3, 4, 5].erase k) [k] (tstep k [(0, [0, 1, 2, 3])]) = true := by
  match k, h with
  | 0, _ => exact chk_0
  | 1, _ => exact chk_1
  | 2, _ => exact chk_2
  | 3, _ => exact chk_3
  | 4, _ => exact chk_4
  | 5, _ => exact chk_5
  | n + 6, h => omega
theorem dfs_sound : ∀ (f : Nat) (rem ord : List Nat) (sets : List (Nat × List Nat)) (ext : List Nat), dfsF f rem ord sets = true → ext.Nodup → (∀ k ∈ ext, k ∈ rem) → ext.length ≤ f → nodeF (ord ++ ext) ((ext.foldl (fun s k => tstep k s) sets).map Prod.fst) = true := by
  intro f
  induction f with
  | zero =>
    intro rem ord sets ext h _ _ hl
    cases ext with
    | nil => rw [List.append_nil]; exact h
    | cons k r => exact absurd hl (by simp)
  | succ f ih =>
    intro rem ord sets ext h hn hm hl
    unfold dfsF at h
    rw [Bool.and_eq_true] at h
    cases ext with
    | nil => rw [List.append_nil]; exact h.1
    | cons k r =>
      have hk := List.all_eq_true.mp h.2 k (hm k (.head _))
      have hn' := List.nodup_cons.mp hn
      have := ih _ _ _ r hk hn'.2 (fun j hj => (List.mem_erase_of_ne (fun e => hn'.1 (by rw [← e]; exact hj))).mpr (hm j (.tail _ hj))) (by simpa using hl)
      rw [List.append_assoc] at this
      exact this
theorem j6 : ∀ j < 6, j = 0 ∨ j = 1 ∨ j = 2 ∨ j = 3 ∨ j = 4 ∨ j = 5 := by decide
theorem node_all (ord : List Nat) (hn : ord.Nodup) (hlt : ∀ k ∈ ord, k < 6) (hlen : ord.length ≤ 6) : nodeF ord ((tleft ord).map Prod.fst) = true := by
  cases ord with
  | nil => exact chk_nil
  | cons k r =>
    have hn' := List.nodup_cons.mp hn
    have hm : ∀ j ∈ r, j ∈ [0, 1, 2, 3, 4, 5].erase k := fun j hj => (List.mem_erase_of_ne (fun e => hn'.1 (by rw [← e]; exact hj))).mpr (by
      have := hlt j (.tail _ hj)
      have := j6 j this
      rcases this with rfl | rfl | rfl | rfl | rfl | rfl <;> decide)
    exact dfs_sound 5 _ [k] _ r (chk (hlt k (.head _))) hn'.2 hm (by simpa using hlen)
theorem bitB_eq (m j : Nat) : bitB m j = Nat.testBit m j := by
  unfold bitB Nat.testBit
  show Nat.beq ((m >>> j) &&& 1) 1 = (1 &&& (m >>> j) != 0)
  rw [Nat.and_comm 1, Nat.and_one_is_mod]
  rcases Nat.mod_two_eq_zero_or_one (m >>> j) with h | h <;> rw [h] <;> rfl
theorem cleanR_eq (n : Nat) : ∀ bs : List Nat, cleanR n bs = clean bs n
  | [] => rfl
  | b :: l => by
    show (bif Nat.beq (Nat.lor b n) n then false else cleanR n l) = clean (b :: l) n
    rw [cleanR_eq n l]
    rfl
theorem toldR_eq (bs : List Nat) (g : Nat) : ∀ l : List Nat, toldR bs g l = toldL bs g l
  | [] => rfl
  | n :: l => by
    show (bif Nat.beq (Nat.lor n g) g then bif cleanR n bs then n :: toldR bs g l else toldR bs g l else toldR bs g l) = _
    rw [toldR_eq bs g l, cleanR_eq]
    rfl
theorem gR_eq : ∀ l : List Nat, gR l = gOf l
  | [] => rfl
  | k :: l => by
    show Nat.lor (Nat.pow 2 k) (gR l) = _
    rw [gR_eq l]
    rfl
theorem lastR_eq (r : Nat) : ∀ (l : List Nat) (a : Nat), lastR r l a = lastIn r l a
  | [], _ => rfl
  | k :: l, a => by
    show lastR r l (bif bitB r k then k else a) = lastIn r l (bif Nat.testBit r k then k else a)
    rw [lastR_eq r l, bitB_eq]
theorem brkR_eq (ord : List Nat) (g : Nat) : ∀ l : List Nat, brkR ord g l = brkO ord g l
  | [] => rfl
  | r :: l => by
    show (bif Nat.beq (Nat.lor r g) g then Nat.sub r (Nat.pow 2 (lastR r ord 0)) :: brkR ord g l else brkR ord g l) = _
    rw [brkR_eq ord g l, lastR_eq]
    rfl
theorem all64_eq : all64 = List.range 64 := by decide
theorem toldNR_eq (ord : List Nat) : toldNR ord = toldN ord := by
  unfold toldNR toldN
  rw [toldR_eq, brkR_eq, gR_eq, all64_eq]
theorem lenR_eq : ∀ l : List Nat, lenR l = l.length
  | [] => rfl
  | _ :: l => by
    show Nat.succ (lenR l) = _
    rw [lenR_eq l]
    rfl
theorem gR_mem (n : Nat) : ∀ l : List Nat, (gR l).testBit n = true ↔ n ∈ l
  | [] => by
    show (0 : Nat).testBit n = true ↔ _
    simp
  | k :: l => by
    show (2 ^ k ||| gR l).testBit n = true ↔ _
    rw [Nat.testBit_or, Bool.or_eq_true, gR_mem n l, Nat.testBit_two_pow, decide_eq_true_iff, List.mem_cons]
    exact or_congr_left eq_comm
theorem perm_of : ∀ (a b : List Nat), a.Nodup → (∀ x ∈ a, x ∈ b) → b.length ≤ a.length → a.Perm b
  | [], b, _, _, h => by
    have : b = [] := List.length_eq_zero_iff.mp (Nat.le_zero.mp h)
    rw [this]
  | x :: a, b, hn, hs, h => by
    have hn' := List.nodup_cons.mp hn
    have hx := hs x (.head _)
    have ih := perm_of a (b.erase x) hn'.2 (fun y hy => (List.mem_erase_of_ne (fun e => hn'.1 (by rw [← e]; exact hy))).mpr (hs y (.tail _ hy))) (by rw [List.length_erase_of_mem hx]; rw [List.length_cons] at h; omega)
    exact (ih.cons x).trans (List.perm_cons_erase hx).symm
theorem wOf_is : ∀ n < 64, cnt n ≤ 3 → wOf n = 1024 ^ cnt n := by decide +kernel
theorem few3_is : ∀ n < 64, bitB few3 n = true → cnt n ≤ 3 := by decide +kernel
theorem sumW_eq : ∀ l : List Nat, (∀ n ∈ l, cnt n ≤ 3 ∧ n ≤ 63) → ((sumW l : Nat) : Int) = ((l.map cnt).map fun c => ((1024 ^ c : Nat) : Int)).sum
  | [], _ => rfl
  | n :: l, h => by
    obtain ⟨hc, hn⟩ := h n (.head _)
    show ((wOf n + sumW l : Nat) : Int) = ((1024 ^ cnt n : Nat) : Int) + ((l.map cnt).map fun c => ((1024 ^ c : Nat) : Int)).sum
    rw [Int.natCast_add, sumW_eq l fun m hm => h m (.tail _ hm), wOf_is n (Nat.lt_succ_of_le hn) hc]
theorem bOf_is : ∀ k < 6, ∀ p ∈ parJ, Nat.beq (p.2.getD (tieE.getD k (0, 0)).1 0) (p.2.getD (tieE.getD k (0, 0)).2 0) = bitB (bOf k) p.1 := by decide +kernel
theorem orB_bit : ∀ ord : List Nat, (∀ k ∈ ord, k < 6) → ∀ p ∈ parJ, okPart ord p.2 = !bitB (orB ord) p.1
  | [], _, p, _ => by
    show true = !bitB 0 p.1
    rw [bitB_eq, Nat.zero_testBit]
    rfl
  | k :: o, h, p, hp => by
    have ih := orB_bit o (fun j hj => h j (.tail _ hj)) p hp
    have hb := bOf_is k (h k (.head _)) p hp
    show (bif Nat.beq (p.2.getD (tieE.getD k (0, 0)).1 0) (p.2.getD (tieE.getD k (0, 0)).2 0) then false else okPart o p.2) = !bitB (bOf k ||| orB o) p.1
    rw [hb, ih, bitB_eq, bitB_eq, bitB_eq, Nat.testBit_or]
    cases (bOf k).testBit p.1 <;> rfl
theorem sumP_eq (wt : Nat → Nat) (m : Nat) (ord : List Nat) : ∀ l : List (Nat × List Nat), (∀ p ∈ l, okPart ord p.2 = !bitB m p.1) →
    ((sumP wt m l : Nat) : Int) = ((((l.map Prod.snd).filter (okPart ord)).map mx4).map fun c => (wt c : Int)).sum
  | [], _ => rfl
  | p :: l, h => by
    have ih := sumP_eq wt m ord l fun q hq => h q (.tail _ hq)
    show (((bif bitB m p.1 then sumP wt m l else wt (mx4 p.2) + sumP wt m l) : Nat) : Int) = _
    rw [List.map_cons, List.filter_cons, h p (.head _)]
    cases bitB m p.1 with
    | true => exact ih
    | false =>
      show ((wt (mx4 p.2) + sumP wt m l : Nat) : Int) = (wt (mx4 p.2) : Int) + ((((l.map Prod.snd).filter (okPart ord)).map mx4).map fun c => (wt c : Int)).sum
      rw [Int.natCast_add, ih]
theorem num_le (k : Nat) : ∀ l : List Nat, num k l ≤ l.length
  | [] => Nat.le_refl _
  | a :: l => by
    have ih := num_le k l
    show (bif Nat.beq a k then num k l + 1 else num k l) ≤ l.length + 1
    cases Nat.beq a k with
    | true => exact Nat.succ_le_succ ih
    | false => exact Nat.le_succ_of_le ih
/-! the dearest tie of a ring is the one that comes off last -/
theorem plt_anti {a b : Int × Int} (h : plt a b = false) (h' : plt b a = false) : a = b := by
  unfold plt at h h'
  simp only [Bool.or_eq_false_iff, Bool.and_eq_false_iff, decide_eq_false_iff_not] at h h'
  obtain ⟨a1, a2⟩ := a
  obtain ⟨b1, b2⟩ := b
  simp only at h h'
  have e1 : a1 = b1 := by omega
  have e2 : a2 = b2 := by omega
  rw [e1, e2]
theorem plt_asym {a b : Int × Int} (h : plt a b = true) : plt b a = false := by
  unfold plt at h ⊢
  simp only [Bool.or_eq_true, Bool.and_eq_true, decide_eq_true_eq, Bool.or_eq_false_iff, Bool.and_eq_false_iff, decide_eq_false_iff_not] at h ⊢
  omega
theorem plt_ntr {a b c : Int × Int} (h : plt a b = false) (h' : plt b c = false) : plt a c = false := by
  unfold plt at h h' ⊢
  simp only [Bool.or_eq_false_iff, Bool.and_eq_false_iff, decide_eq_false_iff_not] at h h' ⊢
  omega
theorem mxAt_top (l : List (Int × Int)) : ∀ j, ∀ i ≤ j, plt (l.getD (mxAt l j) (0, 0)) (l.getD i (0, 0)) = false := by
  intro j
  induction j with
  | zero => intro i hi; rw [Nat.le_zero.mp hi]; exact plt_irr _
  | succ j ih =>
    intro i hi
    unfold mxAt
    split
    · rename_i h
      rcases Nat.lt_or_eq_of_le hi with hi | rfl
      · exact plt_ntr (plt_asym h) (ih i (by omega))
      · exact plt_irr _
    · rename_i h
      rcases Nat.lt_or_eq_of_le hi with hi | rfl
      · exact ih i (by omega)
      · exact Bool.eq_false_iff.mpr h
theorem dear_top (ps : List Int) (r k : Nat) (hk : k < 6) (hb : r.testBit k = true) : plt (dear ps r) (ps.getD k 0, (k : Int)) = false := by
  have hm : (ps.getD k 0, (k : Int)) ∈ pl ps r 6 := List.mem_map.mpr ⟨k, List.mem_filter.mpr ⟨List.mem_range.mpr hk, hb⟩, rfl⟩
  obtain ⟨i, hi, e⟩ := List.mem_iff_getElem.mp hm
  have := mxAt_top (pl ps r 6) ((pl ps r 6).length - 1) i (by omega)
  have e2 : (pl ps r 6).getD i (0, 0) = (ps.getD k 0, (k : Int)) := by rw [List.getD_eq_getElem?_getD, List.getElem?_eq_getElem hi, e]; rfl
  rw [e2] at this
  exact this
theorem lastIn_spec {R : Nat → Nat → Prop} (rr : ∀ a, R a a) (r : Nat) : ∀ (ord : List Nat) (a : Nat), ord.Pairwise R → (∃ k ∈ ord, r.testBit k = true) → (lastIn r ord a ∈ ord ∧ r.testBit (lastIn r ord a) = true ∧ ∀ k ∈ ord, r.testBit k = true → R k (lastIn r ord a))
  | [], _, _, h => by obtain ⟨_, h, _⟩ := h; exact nomatch h
  | k :: o, a, hp, h => by
    have hp' := List.pairwise_cons.mp hp
    unfold lastIn
    by_cases ho : ∃ j ∈ o, r.testBit j = true
    · obtain ⟨h1, h2, h3⟩ := lastIn_spec rr r o (bif Nat.testBit r k then k else a) hp'.2 ho
      refine ⟨.tail _ h1, h2, fun j hj hb => ?_⟩
      rcases List.mem_cons.mp hj with rfl | hj
      · exact hp'.1 _ h1
      · exact h3 j hj hb
    · have hk : r.testBit k = true := by
        obtain ⟨j, hj, hb⟩ := h
        rcases List.mem_cons.mp hj with rfl | hj
        · exact hb
        · exact absurd ⟨j, hj, hb⟩ ho
      have e : ∀ (o : List Nat) (b : Nat), (¬ ∃ j ∈ o, r.testBit j = true) → lastIn r o b = b := by
        intro o
        induction o with
        | nil => intro b _; rfl
        | cons j o ih =>
          intro b hno
          unfold lastIn
          have : Nat.testBit r j = false := Bool.eq_false_iff.mpr fun hb => hno ⟨j, .head _, hb⟩
          rw [this]
          exact ih _ fun ⟨i, hi, hb⟩ => hno ⟨i, .tail _ hi, hb⟩
      rw [hk]
      show lastIn r o k ∈ _ ∧ _ ∧ _
      rw [show lastIn r o (bif true then k else a) = lastIn r o k from rfl, e o k ho]
      refine ⟨.head _, hk, fun j hj hb => ?_⟩
      rcases List.mem_cons.mp hj with rfl | hj
      · exact rr _
      · exact absurd ⟨j, hj, hb⟩ ho
end Mine
end

section
open PySem
set_option maxHeartbeats 8000000
namespace Mine
theorem fl_in {f i j : Nat} : j ∈ fl f i ↔ j < i ∧ f.testBit j = true := by
  unfold fl
  rw [List.mem_filter, List.mem_range]
theorem ord_facts {f : Nat} {ord : List Nat} (hp : ord.Perm (fl f 6)) : ord.Nodup ∧ (∀ k ∈ ord, k < 6) ∧ ord.length ≤ 6 := by
  refine ⟨hp.nodup_iff.mpr (List.nodup_range.filter _), fun k hk => (fl_in.mp (hp.mem_iff.mp hk)).1, ?_⟩
  rw [hp.length_eq]
  unfold fl
  exact Nat.le_trans (List.length_filter_le _ _) (by rw [List.length_range]; exact Nat.le_refl _)
theorem gOf_perm {a b : List Nat} (h : a.Perm b) : gOf a = gOf b := by
  induction h with
  | nil => rfl
  | cons x _ ih => show Nat.lor _ _ = Nat.lor _ _; rw [ih]
  | swap x y l =>
    show (2 ^ y ||| (2 ^ x ||| gOf l)) = (2 ^ x ||| (2 ^ y ||| gOf l))
    rw [← Nat.or_assoc, ← Nat.or_assoc, Nat.or_comm (2 ^ y)]
  | trans _ _ h1 h2 => exact h1.trans h2
theorem gOf_fl : ∀ f < 64, gOf (fl f 6) = f := by decide +kernel
theorem inB_iff {a b : Nat} : inB a b = true ↔ a ||| b = b := by
  unfold inB
  exact ⟨Nat.eq_of_beq_eq_true, fun h => by show Nat.beq (a ||| b) b = true; rw [h]; exact Nat.beq_refl b⟩
theorem inB_beq (a b : Nat) : inB a b = (a ||| b == b) := by
  rw [Bool.eq_iff_iff, inB_iff, beq_iff_eq]
theorem bits_in {r g j : Nat} (h : r ||| g = g) (hj : r.testBit j = true) : g.testBit j = true := by
  rw [← h, Nat.testBit_or, hj]
  rfl
theorem ring_some : ∀ r ∈ rings, ∃ k < 6, r.testBit k = true := by decide
theorem brk1_is {ps : List Int} {f : Nat} {ord : List Nat} (hp : ord.Perm (fl f 6)) (hs : ord.Pairwise (fun i j => plt (key ps j) (key ps i) = false)) {r : Nat} (hr : r ∈ rings) (hin : r ||| f = f) :
    brk1 ps r = ((Nat.sub r (Nat.pow 2 (lastIn r ord 0)) : Nat) : Int) := by
  obtain ⟨k1, hk1, hb1⟩ := ring_some r hr
  have hlen : 0 < (pl ps r 6).length := by
    have : (ps.getD k1 0, (k1 : Int)) ∈ pl ps r 6 := List.mem_map.mpr ⟨k1, List.mem_filter.mpr ⟨List.mem_range.mpr hk1, hb1⟩, rfl⟩
    exact List.length_pos_of_mem this
  obtain ⟨k, hk, hb, hd⟩ := dear_mem ps r hlen
  have hmem : ∀ {j}, j < 6 → r.testBit j = true → j ∈ ord := fun hj hb => hp.mem_iff.mpr (fl_in.mpr ⟨hj, bits_in hin hb⟩)
  obtain ⟨h1, h2, h3⟩ := lastIn_spec (R := fun i j => plt (key ps j) (key ps i) = false) (fun a => plt_irr _) r ord 0 hs ⟨k, hmem hk hb, hb⟩
  have hl6 := (ord_facts hp).2.1 _ h1
  have e1 := dear_top ps r _ hl6 h2
  rw [hd] at e1
  have e2 : plt (key ps (lastIn r ord 0)) (key ps k) = false := h3 k (hmem hk hb) hb
  have e3 := plt_anti (a := key ps k) (b := key ps (lastIn r ord 0)) e1 e2
  have e4 : (k : Int) = ((lastIn r ord 0 : Nat) : Int) := congrArg Prod.snd e3
  have e5 : k = lastIn r ord 0 := Int.ofNat.inj e4
  unfold brk1
  rw [hd, ← e5]
  have hge : 2 ^ k ≤ r := Nat.ge_two_pow_of_testBit hb
  show (r : Int) - 1 * 2 ^ k = ((r - 2 ^ k : Nat) : Int)
  rw [Int.ofNat_sub hge, Int.one_mul, Int.natCast_pow]
  rfl
theorem brkI_go {ps : List Int} {f : Nat} {ord : List Nat} (hp : ord.Perm (fl f 6)) (hs : ord.Pairwise (fun i j => plt (key ps j) (key ps i) = false)) : ∀ l : List Nat, (∀ r ∈ l, r ∈ rings) →
    (l.filter fun r => r ||| f == f).map (brk1 ps) = (brkO ord f l).map Int.ofNat
  | [], _ => rfl
  | r :: l, h => by
    have ih := brkI_go hp hs l fun q hq => h q (.tail _ hq)
    unfold brkO
    rw [List.filter_cons, ← inB_beq]
    cases hb : inB r f with
    | false => exact ih
    | true =>
      show brk1 ps r :: _ = Int.ofNat _ :: _
      rw [ih, brk1_is hp hs (h r (.head _)) (inB_iff.mp hb)]
      rfl
theorem brkI_is {ps : List Int} {f : Nat} {ord : List Nat} (hp : ord.Perm (fl f 6)) (hs : ord.Pairwise (fun i j => plt (key ps j) (key ps i) = false)) : brkI ps f 7 = (brkO ord f rings).map Int.ofNat :=
  brkI_go hp hs rings fun _ h => h
/-- the law's own test -/
noncomputable def tellT (f : Nat) (bs : List Int) (n : Nat) : Bool := (n ||| f == f) && (bs.filter fun b => Builtin.bitOr b (n : Int) == (n : Int)).isEmpty
theorem clean_is (n : Nat) : ∀ bs : List Nat, clean bs n = ((bs.map Int.ofNat).filter fun b => Builtin.bitOr b (n : Int) == (n : Int)).isEmpty
  | [] => rfl
  | b :: l => by
    unfold clean
    rw [List.map_cons, List.filter_cons]
    have e : (Builtin.bitOr (Int.ofNat b) (n : Int) == (n : Int)) = inB b n := by
      rw [inB_beq, Bool.eq_iff_iff, beq_iff_eq, beq_iff_eq]
      rw [show (Int.ofNat b) = ((b : Nat) : Int) from rfl, bitOr_nat]
      exact ⟨fun h => Int.ofNat.inj h, fun h => by rw [h]⟩
    rw [e]
    cases inB b n with
    | true => rfl
    | false => exact clean_is n l
theorem toldL_is (bs : List Nat) (f : Nat) : ∀ l : List Nat, toldL bs f l = l.filter (tellT f (bs.map Int.ofNat))
  | [] => rfl
  | n :: l => by
    unfold toldL
    rw [List.filter_cons]
    have e : tellT f (bs.map Int.ofNat) n = (inB n f && clean bs n) := by
      unfold tellT
      rw [clean_is, inB_beq]
    rw [e]
    cases inB n f with
    | false => exact toldL_is bs f l
    | true =>
      cases clean bs n with
      | false => exact toldL_is bs f l
      | true =>
        show n :: _ = n :: _
        rw [toldL_is bs f l]
theorem lin (F : Nat → Int) : ∀ l : List Nat, (∀ c ∈ l, c ≤ 3) → (l.map F).sum = (num 0 l : Int) * F 0 + (num 1 l : Int) * F 1 + (num 2 l : Int) * F 2 + (num 3 l : Int) * F 3
  | [], _ => by simp [num]
  | c :: l, h => by
    have ih := lin F l fun d hd => h d (.tail _ hd)
    have hc := h c (.head _)
    rw [List.map_cons, List.sum_cons, ih]
    have : c = 0 ∨ c = 1 ∨ c = 2 ∨ c = 3 := by omega
    rcases this with rfl | rfl | rfl | rfl
    · show _ = (((num 0 l + 1 : Nat)) : Int) * F 0 + (num 1 l : Int) * F 1 + (num 2 l : Int) * F 2 + (num 3 l : Int) * F 3
      rw [Int.natCast_add, Int.add_mul]; omega
    · show _ = ((num 0 l : Nat) : Int) * F 0 + ((num 1 l + 1 : Nat) : Int) * F 1 + (num 2 l : Int) * F 2 + (num 3 l : Int) * F 3
      rw [Int.natCast_add, Int.add_mul]; omega
    · show _ = ((num 0 l : Nat) : Int) * F 0 + (num 1 l : Int) * F 1 + ((num 2 l + 1 : Nat) : Int) * F 2 + (num 3 l : Int) * F 3
      rw [Int.natCast_add, Int.add_mul]; omega
    · show _ = ((num 0 l : Nat) : Int) * F 0 + (num 1 l : Int) * F 1 + (num 2 l : Int) * F 2 + ((num 3 l + 1 : Nat) : Int) * F 3
      rw [Int.natCast_add, Int.add_mul]; omega
theorem part_le : ∀ mk ∈ PART, mx4 mk ≤ 3 := by decide
theorem dig {a b c d : Nat} (h : a + 1024 * b = c + 1024 * d) (h1 : a < 1024) (h2 : c < 1024) : a = c ∧ b = d := by omega
theorem node_out {ord nums : List Nat} (h6 : ∀ k ∈ ord, k < 6) (h : nodeF ord nums = true) : (toldN ord).Perm nums ∧ (∀ n ∈ nums, cnt n ≤ 3 ∧ n ≤ 63) ∧ eqs (nums.map cnt) ((PART.filter (okPart ord)).map mx4) = true := by
  unfold nodeF at h
  rw [Bool.and_eq_true, Bool.and_eq_true, Bool.and_eq_true, toldNR_eq, lenR_eq, lenR_eq] at h
  have e1 := Nat.eq_of_beq_eq_true h.1.1
  have e2 := Nat.eq_of_beq_eq_true h.1.2
  have e3 : gR nums ||| few3 = few3 := Nat.eq_of_beq_eq_true h.2.1
  have e4 : sumW nums + sumP wL (orB ord) parJ = sumP wR (orB ord) parJ := Nat.eq_of_beq_eq_true h.2.2
  have ht : toldN ord = (List.range 64).filter (tellT (gOf ord) ((brkO ord (gOf ord) rings).map Int.ofNat)) := by
    unfold toldN
    rw [toldL_is]
  have hperm : (toldN ord).Perm nums := perm_of _ _ (by rw [ht]; exact List.nodup_range.filter _) (fun x hx => (gR_mem x nums).mp (by rw [← e1]; exact (gR_mem x _).mpr hx)) (by rw [e2]; exact Nat.le_refl _)
  have hb : ∀ n ∈ nums, cnt n ≤ 3 ∧ n ≤ 63 := by
    intro n hn
    have h1 : n ∈ toldN ord := hperm.mem_iff.mpr hn
    rw [ht] at h1
    have h2 : n < 64 := List.mem_range.mp (List.mem_filter.mp h1).1
    have h3 : bitB few3 n = true := by
      rw [bitB_eq, ← e3, Nat.testBit_or, (gR_mem n nums).mpr hn]
      rfl
    exact ⟨few3_is n h2 h3, by omega⟩
  refine ⟨hperm, hb, ?_⟩
  have hA : ∀ c ∈ nums.map cnt, c ≤ 3 := fun c hc => by
    obtain ⟨n, hn, rfl⟩ := List.mem_map.mp hc
    exact (hb n hn).1
  have hB : ∀ c ∈ (PART.filter (okPart ord)).map mx4, c ≤ 3 := fun c hc => by
    obtain ⟨n, hn, rfl⟩ := List.mem_map.mp hc
    exact part_le n (List.mem_filter.mp hn).1
  have e5 : ((sumW nums : Nat) : Int) + ((sumP wL (orB ord) parJ : Nat) : Int) = ((sumP wR (orB ord) parJ : Nat) : Int) := by rw [← Int.natCast_add, e4]
  rw [sumW_eq nums hb, sumP_eq wL (orB ord) ord parJ (orB_bit ord h6), sumP_eq wR (orB ord) ord parJ (orB_bit ord h6), show parJ.map Prod.snd = PART from rfl, lin _ _ hA, lin _ _ hB, lin _ _ hB] at e5
  have hl : nums.length ≤ 64 := by
    rw [← hperm.length_eq, ht]
    exact Nat.le_trans (List.length_filter_le _ _) (by rw [List.length_range]; exact Nat.le_refl _)
  have hl2 : ((PART.filter (okPart ord)).map mx4).length ≤ 15 := by
    rw [List.length_map]
    exact Nat.le_trans (List.length_filter_le _ _) (by decide)
  have ha : ∀ k, num k (nums.map cnt) ≤ 64 := fun k => Nat.le_trans (num_le k _) (by rw [List.length_map]; exact hl)
  have hc : ∀ k, num k ((PART.filter (okPart ord)).map mx4) ≤ 15 := fun k => Nat.le_trans (num_le k _) hl2
  generalize (PART.filter (okPart ord)).map mx4 = bs at e5 hc ⊢
  generalize nums.map cnt = as at e5 ha ⊢
  have a0 := ha 0
  have a1 := ha 1
  have a2 := ha 2
  have a3 := ha 3
  have b0 := hc 0
  have b1 := hc 1
  have b2 := hc 2
  have b3 := hc 3
  replace e5 : (num 0 as : Int) * 1 + (num 1 as : Int) * 1024 + (num 2 as : Int) * 1048576 + (num 3 as : Int) * 1073741824 + ((num 0 bs : Int) * 1073741824 + (num 1 bs : Int) * 0 + (num 2 bs : Int) * 2150630400 + (num 3 bs : Int) * 0) = (num 0 bs : Int) * 0 + (num 1 bs : Int) * 1074790400 + (num 2 bs : Int) * 0 + (num 3 bs : Int) * 6453991425 := e5
  clear e1 e2 e3 e4 ht hperm hb hl hl2 ha hc hA hB
  obtain ⟨q0, r1⟩ := dig (a := num 0 as) (b := num 1 as + num 2 bs + 1024 * (num 2 as + 3 * num 2 bs + 1024 * (num 3 as + 2 * num 2 bs + num 0 bs))) (c := num 3 bs) (d := 6 * num 3 bs + 1024 * (11 * num 3 bs + num 1 bs + 1024 * (6 * num 3 bs + num 1 bs))) (by omega) (by omega) (by omega)
  obtain ⟨q1, r2⟩ := dig r1 (by omega) (by omega)
  obtain ⟨q2, q3⟩ := dig r2 (by omega) (by omega)
  unfold eqs
  rw [q0, q1, q2, q3, Nat.beq_refl, Nat.beq_refl, Nat.beq_refl, Nat.beq_refl]
  rfl
theorem told_perm {ps : List Int} {f : Nat} {ord : List Nat} (hf : f < 64) (hp : ord.Perm (fl f 6)) (hs : ord.Pairwise (fun i j => plt (key ps j) (key ps i) = false)) :
    ((List.range 64).filter (tellT f (brkI ps f 7))).Perm ((tleft ord).map Prod.fst) := by
  obtain ⟨h1, h2, h3⟩ := ord_facts hp
  have h := (node_out h2 (node_all ord h1 h2 h3)).1
  unfold toldN at h
  rw [gOf_perm hp, gOf_fl f hf, toldL_is, ← brkI_is hp hs] at h
  exact h
theorem left_bound {f : Nat} {ord : List Nat} (hp : ord.Perm (fl f 6)) : ∀ n ∈ (tleft ord).map Prod.fst, cnt n ≤ 3 ∧ n ≤ 63 := by
  obtain ⟨h1, h2, h3⟩ := ord_facts hp
  exact (node_out h2 (node_all ord h1 h2 h3)).2.1
theorem okPart_iff (mk : List Nat) : ∀ l : List Nat, okPart l mk = true ↔ ∀ k ∈ l, mk.getD (tieE.getD k (0, 0)).1 0 ≠ mk.getD (tieE.getD k (0, 0)).2 0
  | [] => ⟨fun _ _ h => (nomatch h), fun _ => rfl⟩
  | k :: l => by
    unfold okPart
    have ih := okPart_iff mk l
    cases hb : Nat.beq (mk.getD (tieE.getD k (0, 0)).1 0) (mk.getD (tieE.getD k (0, 0)).2 0) with
    | true => exact ⟨fun h => (nomatch h), fun h => absurd (Nat.eq_of_beq_eq_true hb) (h k (.head _))⟩
    | false =>
      refine ⟨fun h j hj => ?_, fun h => ih.mpr fun j hj => h j (.tail _ hj)⟩
      rcases List.mem_cons.mp hj with rfl | hj
      · exact fun e => by rw [e, Nat.beq_refl] at hb; exact nomatch hb
      · exact ih.mp h j hj
theorem okPart_perm {a b : List Nat} (h : a.Perm b) : okPart a = okPart b := by
  funext mk
  rw [Bool.eq_iff_iff, okPart_iff, okPart_iff]
  exact ⟨fun e k hk => e k (h.mem_iff.mpr hk), fun e k hk => e k (h.mem_iff.mp hk)⟩
theorem comb {a0 a1 a2 a3 b0 b1 b2 b3 : Nat} (F G : Nat → Int) (e0 : a0 = b3) (e1 : a1 + b2 = 6 * b3) (e2 : a2 + 3 * b2 = 11 * b3 + b1) (e3 : a3 + 2 * b2 + b0 = 6 * b3 + b1)
    (g0 : G 0 = - F 3) (g1 : G 1 = F 2 + F 3) (g2 : G 2 = - (F 1 + 3 * F 2 + 2 * F 3)) (g3 : G 3 = F 0 + 6 * F 1 + 11 * F 2 + 6 * F 3) :
    (a0 : Int) * F 0 + (a1 : Int) * F 1 + (a2 : Int) * F 2 + (a3 : Int) * F 3 = (b0 : Int) * G 0 + (b1 : Int) * G 1 + (b2 : Int) * G 2 + (b3 : Int) * G 3 := by
  have h1 : (a1 : Int) = 6 * b3 - b2 := by omega
  have h2 : (a2 : Int) = 11 * b3 + b1 - 3 * b2 := by omega
  have h3 : (a3 : Int) = 6 * b3 + b1 - 2 * b2 - b0 := by omega
  rw [g0, g1, g2, g3, e0, h1, h2, h3]
  simp only [Int.sub_mul, Int.add_mul, Int.mul_add, Int.mul_neg, Int.mul_assoc, Int.mul_left_comm _ (6 : Int), Int.mul_left_comm _ (11 : Int), Int.mul_left_comm _ (3 : Int), Int.mul_left_comm _ (2 : Int)]
  omega
theorem sums_eq {f : Nat} {ord : List Nat} (hp : ord.Perm (fl f 6)) {q : Int} (h1 : -2 ≤ q) (h2 : q ≤ 5) :
    ((((tleft ord).map Prod.fst).map cnt).map fun c => (-1 : Int) ^ c * q ^ (4 - c)).sum = (((PART.filter (okPart (fl f 6))).map mx4).map fun m => wys q (m + 1)).sum := by
  obtain ⟨o1, o2, o3⟩ := ord_facts hp
  obtain ⟨-, hb, he⟩ := node_out o2 (node_all ord o1 o2 o3)
  rw [okPart_perm hp] at he
  generalize ha : ((tleft ord).map Prod.fst).map cnt = as at he ⊢
  generalize hm : (PART.filter (okPart (fl f 6))).map mx4 = bs at he ⊢
  have hA : ∀ c ∈ as, c ≤ 3 := by
    intro c hc
    rw [← ha] at hc
    obtain ⟨n, hn, rfl⟩ := List.mem_map.mp hc
    exact (hb n hn).1
  have hB : ∀ c ∈ bs, c ≤ 3 := by
    intro c hc
    rw [← hm] at hc
    obtain ⟨n, hn, rfl⟩ := List.mem_map.mp hc
    exact part_le n (List.mem_filter.mp hn).1
  rw [lin _ as hA, lin _ bs hB]
  unfold eqs at he
  simp only [Bool.and_eq_true] at he
  obtain ⟨⟨⟨e0, e1⟩, e2⟩, e3⟩ := he
  have e0 := Nat.eq_of_beq_eq_true e0
  have e1 := Nat.eq_of_beq_eq_true e1
  have e2 := Nat.eq_of_beq_eq_true e2
  have e3 := Nat.eq_of_beq_eq_true e3
  refine comb (fun c => (-1 : Int) ^ c * q ^ (4 - c)) (fun m => wys q (m + 1)) e0 e1 e2 e3 ?_ ?_ ?_ ?_
  all_goals
    have hq := q8 h1 h2
    rcases hq with rfl | rfl | rfl | rfl | rfl | rfl | rfl | rfl <;> rfl
end Mine
end

section
open PySem PySem.W PySem.Spec PySem.Calls PyProof.Rows
set_option maxRecDepth 100000
set_option maxHeartbeats 8000000
namespace Mine
theorem split_cnt : ∀ n < 64, n ≠ 0 → (Txt.split (wrd n) (Str.ofString ", ")).length = cnt n := by decide +kernel
theorem wrd_zero : ∀ n < 64, ((wrd n == Str.ofString "0x0") = decide (n = 0)) := by decide +kernel
theorem wrd_len : ∀ n < 64, (wrd n).length + 2 ≤ 200 := by decide +kernel
end Mine
end

section
open PySem PySem.W PyProof.Rows
set_option maxHeartbeats 8000000
namespace Mine
/-- lists of small numbers in the ledger -/
inductive Lsts (led : List (Addr × Obj)) : List Value → List (List Nat) → Prop
  | nil : Lsts led [] []
  | cons {a : Addr} {us : List Value} {n : Nat} {mk : List Nat} {vs : List Value} {ls : List (List Nat)} (hm : (a, listOf us.toArray n) ∈ led) (hu : IntsAre us (mk.map Int.ofNat)) (h : Lsts led vs ls) : Lsts led (.ref a :: vs) (mk :: ls)
theorem Lsts.length {led vs ls} (h : Lsts led vs ls) : vs.length = ls.length := by
  induction h with
  | nil => rfl
  | cons _ _ _ ih => rw [List.length_cons, List.length_cons, ih]
theorem Lsts.mono {led led' vs ls} (h : Lsts led vs ls) (hs : ∀ p ∈ led, p ∈ led') : Lsts led' vs ls := by
  induction h with
  | nil => exact .nil
  | cons hm hu _ ih => exact .cons (hs _ hm) hu ih
theorem Lsts.append {led vs ls vs' ls'} (h : Lsts led vs ls) (h' : Lsts led vs' ls') : Lsts led (vs ++ vs') (ls ++ ls') := by
  induction h with
  | nil => exact h'
  | cons hm hu _ ih => exact .cons hm hu ih
theorem Lsts.get {led vs ls} (h : Lsts led vs ls) : ∀ {k : Nat} {v : Value}, vs[k]? = some v → ∃ a us n mk, v = .ref a ∧ ls[k]? = some mk ∧ (a, listOf us.toArray n) ∈ led ∧ IntsAre us (mk.map Int.ofNat) := by
  induction h with
  | nil => intro k v h; exact nomatch h
  | cons hm hu _ ih =>
    intro k v h
    cases k with
    | zero => cases h; exact ⟨_, _, _, _, rfl, rfl, hm, hu⟩
    | succ k => exact ih h
noncomputable def expd (mk : List Nat) : List (List Nat) := (List.range (mx4 mk + 2)).map fun m => mk ++ [m]
noncomputable def partN : Nat → List (List Nat)
  | 0 => [[0]]
  | i + 1 => (partN i).flatMap expd
theorem partN_3 : partN 3 = PART := by decide
theorem partN_ok : ∀ i < 4, ((partN i).length ≤ 15 ∧ ∀ mk ∈ partN i, mk.length = i + 1 ∧ mx4 mk ≤ 3) := by decide
theorem fold_max : ∀ (l : List Nat) (a : Nat), (a ≤ l.foldl Nat.max a ∧ ∀ x ∈ l, x ≤ l.foldl Nat.max a)
  | [], a => ⟨Nat.le_refl _, fun _ h => nomatch h⟩
  | b :: l, a => by
    obtain ⟨h1, h2⟩ := fold_max l (Nat.max a b)
    refine ⟨Nat.le_trans (Nat.le_max_left a b) h1, fun x hx => ?_⟩
    rcases List.mem_cons.mp hx with rfl | hx
    · exact Nat.le_trans (Nat.le_max_right _ _) h1
    · exact h2 x hx
theorem fold_mem : ∀ (l : List Nat) (a : Nat), l.foldl Nat.max a = a ∨ l.foldl Nat.max a ∈ l
  | [], a => .inl rfl
  | b :: l, a => by
    rcases fold_mem l (Nat.max a b) with h | h
    · have : Nat.max a b = a ∨ Nat.max a b = b := by
        rcases Nat.le_total a b with h | h
        · exact .inr (Nat.max_eq_right h)
        · exact .inl (Nat.max_eq_left h)
      rcases this with e | e
      · exact .inl (h.trans e)
      · refine .inr ?_
        show List.foldl Nat.max (Nat.max a b) l ∈ _
        rw [h, e]
        exact .head _
    · exact .inr (.tail _ h)
theorem mx4_is {mk : List Nat} {M : Int} (h : M ∈ mk.map Int.ofNat) (h' : ∀ a ∈ mk.map Int.ofNat, a ≤ M) : M = (mx4 mk : Int) := by
  obtain ⟨x, hx, rfl⟩ := List.mem_map.mp h
  have h1 := (fold_max mk 0).2 x hx
  have h2 : mx4 mk ≤ x := by
    rcases fold_mem mk 0 with e | e
    · show mk.foldl Nat.max 0 ≤ x
      omega
    · have := h' (Int.ofNat (mk.foldl Nat.max 0)) (List.mem_map.mpr ⟨_, e, rfl⟩)
      exact Int.ofNat_le.mp this
  have : x = mx4 mk := Nat.le_antisymm h1 h2
  rw [this]
  rfl
theorem flat_snoc {α β : Type} (f : α → List β) {l : List α} {i : Nat} {a : α} (h : l[i]? = some a) : (l.take (i + 1)).flatMap f = (l.take i).flatMap f ++ f a := by
  rw [List.take_add_one, h]
  simp
end Mine
end

section
open PySem PySem.W PyProof.Rows
set_option maxHeartbeats 8000000
namespace Mine
/-- lists of texts in the ledger -/
inductive LstS (led : List (Addr × Obj)) : List Value → List (List Str) → Prop
  | nil : LstS led [] []
  | cons {a : Addr} {us : List Value} {n : Nat} {mk : List Str} {vs : List Value} {ls : List (List Str)} (hm : (a, listOf us.toArray n) ∈ led) (hu : StrsAre us mk) (h : LstS led vs ls) : LstS led (.ref a :: vs) (mk :: ls)
theorem LstS.length {led vs ls} (h : LstS led vs ls) : vs.length = ls.length := by
  induction h with
  | nil => rfl
  | cons _ _ _ ih => rw [List.length_cons, List.length_cons, ih]
theorem LstS.mono {led led' vs ls} (h : LstS led vs ls) (hs : ∀ p ∈ led, p ∈ led') : LstS led' vs ls := by
  induction h with
  | nil => exact .nil
  | cons hm hu _ ih => exact .cons (hs _ hm) hu ih
theorem LstS.append {led vs ls vs' ls'} (h : LstS led vs ls) (h' : LstS led vs' ls') : LstS led (vs ++ vs') (ls ++ ls') := by
  induction h with
  | nil => exact h'
  | cons hm hu _ ih => exact .cons hm hu ih
theorem LstS.get {led vs ls} (h : LstS led vs ls) : ∀ {k : Nat} {v : Value}, vs[k]? = some v → ∃ a us n mk, v = .ref a ∧ ls[k]? = some mk ∧ (a, listOf us.toArray n) ∈ led ∧ StrsAre us mk := by
  induction h with
  | nil => intro k v h; exact nomatch h
  | cons hm hu _ ih =>
    intro k v h
    cases k with
    | zero => cases h; exact ⟨_, _, _, _, rfl, rfl, hm, hu⟩
    | succ k => exact ih h
/-- only the lists themselves -/
theorem Lsts.only {led vs ls} (h : Lsts led vs ls) : ∃ led', Lsts led' vs ls ∧ (∀ p ∈ led', p ∈ led) ∧ ∀ p ∈ led', ∃ (us : List Value) (n : Nat), p.2 = listOf us.toArray n := by
  induction h with
  | nil => exact ⟨[], .nil, fun p h => absurd h List.not_mem_nil, fun p h => absurd h List.not_mem_nil⟩
  | @cons a us n mk vs ls hm hu _ ih =>
    obtain ⟨led', h1, h2, h3⟩ := ih
    refine ⟨(a, listOf us.toArray n) :: led', .cons (.head _) hu (h1.mono fun p hp => .tail _ hp), fun p hp => ?_, fun p hp => ?_⟩
    · rcases List.mem_cons.mp hp with rfl | hp
      · exact hm
      · exact h2 p hp
    · rcases List.mem_cons.mp hp with rfl | hp
      · exact ⟨_, _, rfl⟩
      · exact h3 p hp
/-- a list is no cell -/
theorem ne_cell {h₀ h : Heap} {L : Addr} {led : List (Addr × Obj)} {c : Addr} {o : Obj} {v : Option Value} (N : News h₀ L h led) (hc : (c, o) ∈ led) (hd : o.data = .cell v) {p : Addr × Obj} (hp : p ∈ led) (hl : ∃ (us : List Value) (n : Nat), p.2 = listOf us.toArray n) : p.1 ≠ c := by
  intro e
  obtain ⟨us, n, e2⟩ := hl
  have h1 := (N p hp).1
  rw [e, (N _ hc).1, e2] at h1
  cases h1
  exact nomatch hd
end Mine
end

section
open PySem PySem.W PySem.Spec PySem.Calls PyProof.Rows
set_option maxRecDepth 100000
set_option maxHeartbeats 8000000
namespace Mine
local macro_rules | `(tactic| walk_at "exec For Name Subscript cons nil") => `(tactic| (k_dflt (refine Mine.for_held ?_ (by intro _; rfl))))
local macro_rules | `(tactic| walk_at "exec For Name Call cons nil") => `(tactic| (k_dflt (refine Mine.for_held ?_ (by intro _; rfl))))
local macro_rules | `(tactic| walk_at "call ref") => `(tactic| (refine Mine.Held.mk ?_))
local macro_rules | `(tactic| walk_at "compareOp Eq ref ref") => `(tactic| (refine Mine.Held.mk ?_))
local macro_rules | `(tactic| walk_at "compareOp NotEq ref ref") => `(tactic| (refine Mine.Held.mk ?_))
local macro_rules | `(tactic| walk_at "call builtin:list.extend") => `(tactic| (refine Mine.Held.mk ?_))
local macro_rules | `(tactic| walk_at "call builtin:sorted") => `(tactic| (refine Mine.Held.mk ?_))
local macro_rules | `(tactic| walk_at "call builtin:sum") => `(tactic| (refine Mine.Held.mk ?_))
local macro_rules | `(tactic| walk_at "call builtin:str.split") => `(tactic| (refine Mine.Held.mk ?_))
local macro_rules | `(tactic| walk_at "exec Assign cons ListComp") => `(tactic| (refine Mine.Held.mk ?_))
local macro_rules | `(tactic| walk_at "CompSrcT") => `(tactic| (refine Mine.Held.mk ?_))
local macro_rules | `(tactic| walk_at "call builtin:str.join") => `(tactic| (refine Mine.Held.mk ?_))
local macro_rules | `(tactic| walk_at "eval Call Attribute") => `(tactic| ((with_reducible show wpAny _ _ (eval (PySem.Expr.Call (PySem.Expr.Attribute _ _ _) [PySem.Expr.ListComp _ _ _ _] [] _) _) _ _ _); (refine MethodCall_ ?_)))
local macro_rules | `(tactic| walk_at "subscriptTail Name Name ref int") => `(tactic| (refine Mine.Held.mk ?_))
local macro_rules | `(tactic| walk_at "subscriptTail Name BinOp str int") => `(tactic| (refine Mine.Held.mk ?_))
local macro_rules | `(tactic| walk_at "subscriptTail Constant Name str int") => `(tactic| (refine Mine.Held.mk ?_))
local macro_rules | `(tactic| walk_at "storeName") => `(tactic| ((first | (with_reducible show wpAny _ _ (storeName _ (Str.ofString "row") _) _ _ _) | (with_reducible show wpAny _ _ (storeName _ (Str.ofString "there") _) _ _ _) | (with_reducible show wpAny _ _ (storeName _ (Str.ofString "broken") _) _ _ _)); (refine Mine.Held.mk ?_)))
local macro_rules | `(tactic| walk_at "Mine mem") => `(tactic| first | exact List.Mem.head _ | assumption | (refine List.Mem.tail _ ?_; walk_at "Mine mem") | (refine List.mem_append_left _ ?_; walk_at "Mine mem") | (refine List.mem_append_right _ ?_; walk_at "Mine mem"))
local macro_rules | `(tactic| walk_at "Mine subs") => `(tactic| first | exact Mine.subS | (refine Mine.subT ?_; walk_at "Mine subs") | (refine Mine.subL ?_; walk_at "Mine subs") | (refine Mine.subR ?_; walk_at "Mine subs"))
local macro_rules | `(tactic| walk_at "Mine sub") => `(tactic| ((try dsimp only); first | exact Mine.subN | (refine Mine.subC ?_ ?_; (focus walk_at "Mine mem"); (walk_at "Mine sub")) | (refine Mine.subA ?_ ?_; (focus walk_at "Mine sub"); (walk_at "Mine sub")) | walk_at "Mine subs"))
section
local macro_rules | `(tactic| walk_at "eval ListComp") => `(tactic| (refine Mine.Held.mk ?_))
local macro_rules | `(tactic| walk_at "CompSrc") => `(tactic| (refine Mine.Held.mk ?_))
local macro_rules | `(tactic| walk_at "storeName") => `(tactic| ((first | (with_reducible show wpAny _ _ (storeName _ (Str.ofString "names") _) _ _ _) | (with_reducible show wpAny _ _ (storeName _ (Str.ofString "ties") _) _ _ _) | (with_reducible show wpAny _ _ (storeName _ (Str.ofString "graph") _) _ _ _) | (with_reducible show wpAny _ _ (storeName _ (Str.ofString "row") _) _ _ _) | (with_reducible show wpAny _ _ (storeName _ (Str.ofString "there") _) _ _ _) | (with_reducible show wpAny _ _ (storeName _ (Str.ofString "broken") _) _ _ _)); (refine Mine.Held.mk ?_)))
theorem begin_L2L : True := by
  w_top off
  exact True.intro
theorem filemode_cI (w : World) (led : List (Addr × Obj)) (f : Nat) (t0 : Tok) (hf : f < 512) {k : Int} (hk : k = ((32768 + f : Nat) : Int)) :
    Spec w 104 2 led [.int k t0] (fun v led' => ∃ t, v = .str (Txt.join (Str.ofString "") (modeCh f 10)) t ∧ led' = led) := by
  subst hk
  exact filemode_c w led f t0 hf
theorem hiNe {B a : Nat} (k : Nat) (hk : k ≤ 7) (h : B + 7 < a) : a ≠ B + k := by omega
theorem cne (B i j : Nat) (h : i ≠ j) : B + i ≠ B + j := by omega
theorem newsApp {h₀ h : Heap} {L : Addr} {l l' : List (Addr × Obj)} (N : News h₀ L h l) (N' : News h₀ L h l') : News h₀ L h (l ++ l') := fun p hp => (List.mem_append.mp hp).elim (N p) (N' p)
noncomputable def names6 : List Str := [Str.ofString "OPTIMIZED", Str.ofString "NEWLOCALS", Str.ofString "VARARGS", Str.ofString "VARKEYWORDS", Str.ofString "NESTED", Str.ofString "GENERATOR"]
theorem item_row2 {prog : Program} {w : World} {A : Around} {E : Value → Shared → Prop} {s : Shared} {value slice : PySem.Expr} {f j : Nat} {t u : Tok} {Q : Value → Shared → Prop} (hf : f < 64) (hj : j < 6) (h : Q (.str (colB f j) s.toks) { s with toks := s.toks + 1 })
    (hs : subscripted slice false (.str (row2 f) t) (.int (9 - (0 + (j : Int))) u) = operate [.str (row2 f) t, .int (9 - (0 + (j : Int))) u] (getItem (.str (row2 f) t) (.int (9 - (0 + (j : Int))) u)) := by with_unfolding_all rfl)
    (ht : ∀ r, letTemporaryGo value (.str (row2 f) t) r = pure () := by intro _; with_unfolding_all rfl) :
    wpAny (model prog w) A (subscriptTail value slice (.str (row2 f) t) (.int (9 - (0 + (j : Int))) u)) Q E s := by
  refine KXi.item (n := 10) (by rw [row2_is hf]; exact row3_len f hf) (by omega) (by omega) (by decide) (fun _ => ?_) hs ht
  rw [row2_is hf, row3_at f hf j hj]
  exact h
theorem item_rwx2 {prog : Program} {w : World} {A : Around} {E : Value → Shared → Prop} {s : Shared} {value slice : PySem.Expr} {j : Nat} {t u : Tok} {Q : Value → Shared → Prop} (hj : j < 6) (h : Q (.str (Txt.item (Str.ofString "rwxrwx") (j : Int)) s.toks) { s with toks := s.toks + 1 })
    (hs : subscripted slice false (.str (Str.ofString "rwxrwx") t) (.int (j : Int) u) = operate [.str (Str.ofString "rwxrwx") t, .int (j : Int) u] (getItem (.str (Str.ofString "rwxrwx") t) (.int (j : Int) u)) := by with_unfolding_all rfl)
    (ht : ∀ r, letTemporaryGo value (.str (Str.ofString "rwxrwx") t) r = pure () := by intro _; with_unfolding_all rfl) :
    wpAny (model prog w) A (subscriptTail value slice (.str (Str.ofString "rwxrwx") t) (.int (j : Int) u)) Q E s :=
  KXi.item (n := 6) (by decide +kernel) (by omega) (by omega) (by decide) (fun _ => h) hs ht
theorem add_row2 {prog : Program} {w : World} {A : Around} {E : Value → Shared → Prop} {s : Shared} {f : Nat} {t u : Tok} {Q : Value → Shared → Prop} (hf : f < 64) (h : ∀ t' tk, Q (.str (row2 f) t') { s with toks := tk }) :
    wpAny (model prog w) A (binaryOp .Add (.str (Str.ofString "----") t) (.str (Txt.join (Str.ofString "") ((List.range 6).map (colD f))) u)) Q E s := by
  have hj := row3_eq f hf
  have hl := row3_len f hf
  rw [hj] at hl
  refine PySem.SB.add (fun t' k => ?_) ?_
  · rw [← hj, ← row2_is hf]; exact h t' k
  · have e : (Str.ofString "----" ++ Txt.join (Str.ofString "") ((List.range 6).map (colD f))).length = (Str.ofString "----").length + (Txt.join (Str.ofString "") ((List.range 6).map (colD f))).length := by
      show (_ ++ _ : Array _).size = _
      exact Array.size_append
    rw [← e, hl, sizeLine_eq]
    decide

structure Cut (P : Prop) : Prop where
  go : P
noncomputable def cutA : Σ' P : Prop, Cut P → PySem.Challenge.rw_un0013_02.Holds := by
  apply PSigma.mk
  intro hp
  exact hd (by
  k_go0
  rename World => w
  rename Shared => s1
  rename List Int => script
  k_steps
  refine Held.out ?_
  rename Fr _ _ _ _ => Fa
  rename News _ _ _ _ => Na
  rename_i oB oQ oTh oRw oGr0 oTi0 oNa0 dB dQ dTh dRw dGr0 dTi0 dNa0 X0 NLa hh16 lNL
  have hNLa : s1.heap.objs.size + 1 + 1 + 1 + 1 + 1 + 1 + 1 < NLa := lNL.1
  obtain ⟨nv, hnv, Nb⟩ : ∃ nv : List Value, StrsAre nv names6 ∧ News s1.heap s1.heap.objs.size hh16 ((s1.heap.objs.size + 1, oNa0) :: (NLa, listOf nv.toArray 0) :: (s1.heap.objs.size + 1 + 1 + 1 + 1 + 1 + 1 + 1, oB) :: (s1.heap.objs.size + 1 + 1 + 1 + 1 + 1 + 1, oQ) :: (s1.heap.objs.size + 1 + 1 + 1 + 1 + 1, oTh) :: (s1.heap.objs.size + 1 + 1 + 1 + 1, oRw) :: (s1.heap.objs.size + 1 + 1 + 1, oGr0) :: (s1.heap.objs.size + 1 + 1, oTi0) :: []) :=
    ⟨_, .cons _ _ (.cons _ _ (.cons _ _ (.cons _ _ (.cons _ _ (.cons _ _ .nil))))), newsSub Na (by walk_at "Mine sub")⟩
  clear Na lNL X0
  refine storeX_C Fa Nb rfl (.head ?hap0) dNa0 ?_ rfl rfl
  case hap0 =>
    exact List.forall_mem_cons.mpr ⟨hiNe 1 (by decide) hNLa, List.forall_mem_cons.mpr ⟨cne _ 7 1 (by decide), List.forall_mem_cons.mpr ⟨cne _ 6 1 (by decide), List.forall_mem_cons.mpr ⟨cne _ 5 1 (by decide), List.forall_mem_cons.mpr ⟨cne _ 4 1 (by decide), List.forall_mem_cons.mpr ⟨cne _ 3 1 (by decide), List.forall_mem_cons.mpr ⟨cne _ 2 1 (by decide), fun _ h => nomatch h⟩⟩⟩⟩⟩⟩⟩
  intro hh15 oNa Fb Nb2 dNa
  clear Fa Nb
  k_steps
  refine Held.out ?_
  rename Fr _ _ _ _ => Fc
  rename News _ _ _ _ => Nc
  rename_i D9 g9 l9 D8 g8 l8 D7 g7 l7 D6 g6 l6 D5 g5 l5 D4 g4 l4 TLa gT lT
  have e9 : s1.heap.objs.size + 1 + 1 + 1 + 1 + 1 + 1 + 1 < D9 := l9.2.2.1
  have e8 := Nat.lt_trans e9 l8.1
  have e7 := Nat.lt_trans e8 l7.1
  have e6 := Nat.lt_trans e7 l6.1
  have e5 := Nat.lt_trans e6 l5.1
  have e4 := Nat.lt_trans e5 l4.1
  have hTLa : s1.heap.objs.size + 1 + 1 + 1 + 1 + 1 + 1 + 1 < TLa := Nat.lt_trans e4 lT.1
  obtain ⟨tv, tl, Nd, htv, htl⟩ : ∃ (tv : List Value) (tl : List (Addr × Obj)), News s1.heap s1.heap.objs.size gT ((s1.heap.objs.size + 1 + 1, oTi0) :: (TLa, listOf tv.toArray 0) :: (NLa, listOf nv.toArray 0) :: (s1.heap.objs.size + 1 + 1 + 1 + 1 + 1 + 1 + 1, oB) :: (s1.heap.objs.size + 1 + 1 + 1 + 1 + 1 + 1, oQ) :: (s1.heap.objs.size + 1 + 1 + 1 + 1 + 1, oTh) :: (s1.heap.objs.size + 1 + 1 + 1 + 1, oRw) :: (s1.heap.objs.size + 1 + 1 + 1, oGr0) :: (s1.heap.objs.size + 1, oNa) :: tl) ∧ Prs tl tv (tieE.map fun p => ((p.1 : Int), (p.2 : Int))) ∧ ∀ p ∈ tl, s1.heap.objs.size + 1 + 1 + 1 + 1 + 1 + 1 + 1 < p.1 :=
    ⟨_, [(D9, _), (D8, _), (D7, _), (D6, _), (D5, _), (D4, _)], newsSub Nc (by walk_at "Mine sub"), .cons (.head _) (.cons (.tail _ (.head _)) (.cons (.tail _ (.tail _ (.head _))) (.cons (.tail _ (.tail _ (.tail _ (.head _)))) (.cons (.tail _ (.tail _ (.tail _ (.tail _ (.head _))))) (.cons (.tail _ (.tail _ (.tail _ (.tail _ (.tail _ (.head _)))))) .nil))))), List.forall_mem_cons.mpr ⟨e9, List.forall_mem_cons.mpr ⟨e8, List.forall_mem_cons.mpr ⟨e7, List.forall_mem_cons.mpr ⟨e6, List.forall_mem_cons.mpr ⟨e5, List.forall_mem_cons.mpr ⟨e4, fun _ h => nomatch h⟩⟩⟩⟩⟩⟩⟩
  clear Nc l4 l5 l6 l7 l8 l9 lT e4 e5 e6 e7 e8 e9
  refine storeX_C Fc Nd rfl (.head ?hap00) dTi0 ?_ rfl rfl
  case hap00 =>
    exact List.forall_mem_cons.mpr ⟨hiNe 2 (by decide) hTLa, List.forall_mem_cons.mpr ⟨hiNe 2 (by decide) hNLa, List.forall_mem_cons.mpr ⟨cne _ 7 2 (by decide), List.forall_mem_cons.mpr ⟨cne _ 6 2 (by decide), List.forall_mem_cons.mpr ⟨cne _ 5 2 (by decide), List.forall_mem_cons.mpr ⟨cne _ 4 2 (by decide), List.forall_mem_cons.mpr ⟨cne _ 3 2 (by decide), List.forall_mem_cons.mpr ⟨cne _ 1 2 (by decide), fun p hp => hiNe 2 (by decide) (htl p hp)⟩⟩⟩⟩⟩⟩⟩⟩
  intro hh8 oTi Fd Nd2 dTi
  clear Fc Nd
  k_steps
  refine Held.out ?_
  rename Fr _ _ _ _ => Fe
  rename News _ _ _ _ => Ne
  rename IntsAre _ _ => hns
  rename_i Nu nsv hh2 lNu hgh tgr
  have hNu : s1.heap.objs.size + 1 + 1 + 1 + 1 + 1 + 1 + 1 < Nu := Nat.lt_trans hTLa lNu.2.2.2.2.2.1
  generalize hxs : List.take 7 script ++ List.drop (((List.take 7 script).length : Nat) : Int).toNat [(63 : Int), 5, 3, 5, 1, 9, 2] = xs at hns ⊢
  have hxl : xs.length = 7 := by
    rw [← hxs, List.length_append, List.length_drop, Int.toNat_natCast, List.length_take]
    show min 7 script.length + (7 - min 7 script.length) = 7
    omega
  obtain ⟨f, hf, hfe⟩ : ∃ f : Nat, f < 64 ∧ (xs.getD (Int.toNat 0) 0).fmod 64 = (f : Int) := by
    have h1 := Int.fmod_lt_of_pos (xs.getD (Int.toNat 0) 0) (show (0 : Int) < 64 by decide)
    have h2 := Int.fmod_nonneg_of_pos (xs.getD (Int.toNat 0) 0) (show (0 : Int) < 64 by decide)
    exact ⟨((xs.getD (Int.toNat 0) 0).fmod 64).toNat, by omega, by omega⟩
  rw [hfe]
  have Nf := newsSub (led' := (s1.heap.objs.size + 1 + 1 + 1, oGr0) :: (Nu, listOf nsv.toArray 0) :: (TLa, listOf tv.toArray 0) :: (NLa, listOf nv.toArray 0) :: (s1.heap.objs.size + 1 + 1 + 1 + 1 + 1 + 1 + 1, oB) :: (s1.heap.objs.size + 1 + 1 + 1 + 1 + 1 + 1, oQ) :: (s1.heap.objs.size + 1 + 1 + 1 + 1 + 1, oTh) :: (s1.heap.objs.size + 1 + 1 + 1 + 1, oRw) :: (s1.heap.objs.size + 1 + 1, oTi) :: (s1.heap.objs.size + 1, oNa) :: tl) Ne (by walk_at "Mine sub")
  clear Ne lNu
  refine storeX_C Fe Nf rfl (.head ?hap01) dGr0 ?_ rfl rfl
  case hap01 =>
    exact List.forall_mem_cons.mpr ⟨hiNe 3 (by decide) hNu, List.forall_mem_cons.mpr ⟨hiNe 3 (by decide) hTLa, List.forall_mem_cons.mpr ⟨hiNe 3 (by decide) hNLa, List.forall_mem_cons.mpr ⟨cne _ 7 3 (by decide), List.forall_mem_cons.mpr ⟨cne _ 6 3 (by decide), List.forall_mem_cons.mpr ⟨cne _ 5 3 (by decide), List.forall_mem_cons.mpr ⟨cne _ 4 3 (by decide), List.forall_mem_cons.mpr ⟨cne _ 2 3 (by decide), List.forall_mem_cons.mpr ⟨cne _ 1 3 (by decide), fun p hp => hiNe 3 (by decide) (htl p hp)⟩⟩⟩⟩⟩⟩⟩⟩⟩
  intro hg1 oGr Fg Ng dGr
  clear Fe Nf
  k_steps
  refine Held.out ?_
  rename Fr _ _ _ _ => F0
  rename News _ _ _ _ => N1
  refine Spec.use (filemode_cI w _ f _ (by omega) (by omega)) (by assumption) F0 (by assumption) N1 (by assumption) rfl (by ktr_room) (by ktr_units) ?_
  rintro v led' h' tk' F1 N2 ⟨t1, rfl, rfl⟩
  k_steps
  refine Held.out ?_
  rename Fr _ _ _ _ => F2
  rename News _ _ _ _ => N3
  refine storeX_C F2 (newsSub (led' := (s1.heap.objs.size + 1 + 1 + 1 + 1, oRw) :: (Nu, listOf nsv.toArray 0) :: (TLa, listOf tv.toArray 0) :: (NLa, listOf nv.toArray 0) :: (s1.heap.objs.size + 1 + 1 + 1 + 1 + 1 + 1 + 1, oB) :: (s1.heap.objs.size + 1 + 1 + 1 + 1 + 1 + 1, oQ) :: (s1.heap.objs.size + 1 + 1 + 1 + 1 + 1, oTh) :: (s1.heap.objs.size + 1 + 1 + 1, oGr) :: (s1.heap.objs.size + 1 + 1, oTi) :: (s1.heap.objs.size + 1, oNa) :: tl) N3 (by walk_at "Mine sub")) rfl (.head ?hap1) dRw ?_ rfl rfl
  case hap1 =>
    exact List.forall_mem_cons.mpr ⟨hiNe 4 (by decide) hNu, List.forall_mem_cons.mpr ⟨hiNe 4 (by decide) hTLa, List.forall_mem_cons.mpr ⟨hiNe 4 (by decide) hNLa, List.forall_mem_cons.mpr ⟨cne _ 7 4 (by decide), List.forall_mem_cons.mpr ⟨cne _ 6 4 (by decide), List.forall_mem_cons.mpr ⟨cne _ 5 4 (by decide), List.forall_mem_cons.mpr ⟨cne _ 3 4 (by decide), List.forall_mem_cons.mpr ⟨cne _ 2 4 (by decide), List.forall_mem_cons.mpr ⟨cne _ 1 4 (by decide), fun p hp => hiNe 4 (by decide) (htl p hp)⟩⟩⟩⟩⟩⟩⟩⟩⟩
  intro h3 oRw2 F3 N4 dRw2
  k_steps
  refine Held.out (wpAny_Assign_Name ?_ (by with_unfolding_all rfl))
  refine LCt.ListComp_T (F₀ := F3) (by with_unfolding_all rfl) (by decide) (by rfl) (by decide) (by rfl) ?_
  k_steps
  refine Held.out ?_
  rename Fr _ _ _ _ => F4
  rename News _ _ _ _ => N5
  rename IsRange _ _ _ _ _ _ _ _ => R5
  refine LCt.CompSrcT.range (n := 6) rfl F4 N5 R5 (by decide) (by decide) (by rw [sizeLine_eq]; omega) ?_
  intro g5
  refine comp_keepT (fun j zs => IntsAre zs ((fl f j).map Int.ofNat)) True.intro .nil ?t1 ?f1
  case t1 =>
    rintro j v zs I oI C oC D m₂ h tk E' hj ⟨tw, rfl⟩ hzs hNs hmx F5 N6
    generalize hP1 : KTst _ _ _ _ _ _ _ _ _ _ _ _ _ = P1
    revert P1
    refine Held.mk (Held.out ?_)
    intro P1 hP1
    k_steps
    refine Held.out ?_
    refine item_row2 hf hj ?_
    k_steps
    have ez : (0 : Int) + (j : Int) = Int.ofNat j := Int.zero_add _
    cases hb : f.testBit j with
    | true =>
      rw [← hP1]
      refine KTst.yes (by rw [colB_ne f hf j hj]; exact hb) ?_
      k_steps
      refine KEnd.intro F5 N6 (fun p hp => hp) ?_
      rw [fl_succ, if_pos hb, List.map_append, ez]
      exact hzs.append (.cons _ _ .nil)
    | false =>
      rw [← hP1]
      refine KTst.no (by rw [colB_ne f hf j hj]; exact hb) F5 N6 (fun p hp => hp) ?_
      rw [fl_succ, hb, if_neg Bool.false_ne_true, List.append_nil]
      exact hzs
  case f1 =>
    intro zs hzs Td h6 tk6 F6 N7 off7
    have o7 := off1_memX off7
    refine storeX_C F6 (newsSub (led' := (s1.heap.objs.size + 1 + 1 + 1 + 1 + 1, oTh) :: (Td, LCg.lst zs) :: (s1.heap.objs.size + 1 + 1 + 1 + 1, oRw2) :: (Nu, listOf nsv.toArray 0) :: (TLa, listOf tv.toArray 0) :: (NLa, listOf nv.toArray 0) :: (s1.heap.objs.size + 1 + 1 + 1 + 1 + 1 + 1 + 1, oB) :: (s1.heap.objs.size + 1 + 1 + 1 + 1 + 1 + 1, oQ) :: (s1.heap.objs.size + 1 + 1 + 1, oGr) :: (s1.heap.objs.size + 1 + 1, oTi) :: (s1.heap.objs.size + 1, oNa) :: tl) N7 (by walk_at "Mine sub")) rfl (.head ?hap2) dTh ?_ rfl rfl
    case hap2 =>
      exact List.forall_mem_cons.mpr ⟨(o7 (s1.heap.objs.size + 1 + 1 + 1 + 1 + 1, oTh) (by walk_at "Mine mem")).symm, List.forall_mem_cons.mpr ⟨cne _ 4 5 (by decide), List.forall_mem_cons.mpr ⟨hiNe 5 (by decide) hNu, List.forall_mem_cons.mpr ⟨hiNe 5 (by decide) hTLa, List.forall_mem_cons.mpr ⟨hiNe 5 (by decide) hNLa, List.forall_mem_cons.mpr ⟨cne _ 7 5 (by decide), List.forall_mem_cons.mpr ⟨cne _ 6 5 (by decide), List.forall_mem_cons.mpr ⟨cne _ 3 5 (by decide), List.forall_mem_cons.mpr ⟨cne _ 2 5 (by decide), List.forall_mem_cons.mpr ⟨cne _ 1 5 (by decide), fun p hp => hiNe 5 (by decide) (htl p hp)⟩⟩⟩⟩⟩⟩⟩⟩⟩⟩
    intro h8 oTh2 F8 N8 dTh2
    k_steps
    refine Held.out ?_
    refine LCg.ListComp_U (F₀ := F8) (by with_unfolding_all rfl) (by decide) (by rfl) (by decide) (by rfl) ?_
    k_steps
    refine Held.out ?_
    rename Fr _ _ _ _ => F9
    rename News _ _ _ _ => N9
    rename IsRange _ _ _ _ _ _ _ _ => R9
    refine LCg.CompSrc.range (n := 6) rfl F9 N9 R9 (by decide) (by decide) (by rw [sizeLine_eq]; omega) ?_
    intro g9
    refine comp_keep (fun j zs => StrsAre zs ((List.range j).map (colD f))) True.intro .nil ?t2 ?f2
    case t2 =>
      rintro j v zs' I oI C oC D m₂ h tk E' hj ⟨tw, rfl⟩ hzs' hNs hmx F10 N10
      generalize hP2 : KEnd _ _ _ _ _ _ = P2
      revert P2
      refine Held.mk (Held.out ?_)
      intro P2 hP2
      have ej : (0 : Int) + (j : Int) = (j : Int) := Int.zero_add _
      rw [ej] at hmx
      k_steps
      · rename _ ≠ (0 : Int) => hb
        rw [← hP2]
        refine KEnd.intro F10 N10 (fun p hp => hp) ?_
        rw [List.range_succ, List.map_append]
        have e : colD f j = Txt.item (Str.ofString "rwxrwx") (j : Int) := by
          unfold colD
          rw [if_pos ((sh_bit f hf j hj).mp hb)]
        show StrsAre _ (_ ++ [colD f j])
        rw [e]
        exact kct_snoc hzs'
      · rename _ = (0 : Int) => hb
        rw [← hP2]
        refine KEnd.intro F10 N10 (fun p hp => hp) ?_
        rw [List.range_succ, List.map_append]
        have e : colD f j = Str.ofString "-" := by
          unfold colD
          rw [if_neg (fun h => (sh_bit f hf j hj).mpr h hb)]
        show StrsAre _ (_ ++ [colD f j])
        rw [e]
        exact kct_snoc hzs'
    case f2 =>
      intro zs' hzs' Jd h11 tk11 F11 N11 off11
      k_steps
      refine Held.out (join_listC (PySem.IsL.isList (n := zs'.length) (N11 _ (.head _)).1) (by simpa using hzs') (by decide) (colD_sum f hf) fun t12 k12 => ?_)
      k_steps
      refine add_row2 hf fun t13 k13 => ?_
      k_steps
      · rename (_ != _) = true => hq
        simp [row2] at hq
      · refine Held.out ?_
        rename Heap.CodeRec _ _ _ => hcdz
        rename Dflts _ _ _ _ _ _ => hDz
        have dB2 : ∃ v, oB.data = .cell v := ⟨_, dB⟩
        have dQ2 : ∃ v, oQ.data = .cell v := ⟨_, dQ⟩
        clear hcdz hDz dB dQ dTh dRw dTi0 dGr0 dNa0
        have dB := dB2
        have dQ := dQ2
        clear dB2 dQ2
        revert w s1 script oB oQ oTh oRw oGr0 oTi0 oNa0 NLa oNa TLa oTi Nu oGr nsv tv tl nv xs f oRw2 Td oTh2 zs zs' Jd
        repeat (rename_i x; revert x)
        repeat (rename _ => y; revert y)
        intro hp
        exact hp.go)
end
theorem begin_L2M : True := by
  w_top off
  exact True.intro
theorem newsLt {l l' : List (Addr × Obj)} {x : Addr} (h : ∀ p ∈ l, p.1 < x) (hs : ∀ p ∈ l', p ∈ l) : ∀ p ∈ l', p.1 < x := fun p hp => h p (hs p hp)
theorem take_flat2 {α β : Type} (f : α → List β) {l : List α} {i : Nat} {a : α} (h : l[i]? = some a) : (l.take (i + 1)).flatMap f = (l.take i).flatMap f ++ f a := by
  rw [List.take_add_one, h]
  simp
theorem getD_ofNat2 (l : List Nat) (k : Nat) : (l.map Int.ofNat).getD k 0 = ((l.getD k 0 : Nat) : Int) := by
  simp only [List.getD_eq_getElem?_getD, List.getElem?_map]
  cases l[k]? <;> rfl
noncomputable def cutB : Σ' P : Prop, Cut P → cutA.fst := by
  apply PSigma.mk
  intro hp
  exact (by
    w_top on
    unhygienic intro
    k_fill
    unhygienic intros
    have F0 := F'
    have N0 := N'
    have l1z := l1_4
    have l1y := l1_5
    have hIz := hI'_3
    clear F' N' R5 R9 l1 l1_1 l1_2 l1_3 l1_4 l1_5 hI' hI'_1 hI'_2 hI'_3 off11
    have l1 := l1z
    have l1_1 := l1y
    have hI' := hIz
    clear l1z l1y hIz
    have hOc : ∀ p ∈ (Td, LCg.lst zs) :: (Nu, listOf nsv.toArray 0) :: (TLa, listOf tv.toArray 0) :: (NLa, listOf nv.toArray 0) :: (s1.heap.objs.size + 1 + 1 + 1 + 1 + 1 + 1 + 1, oB) :: (s1.heap.objs.size + 1 + 1 + 1 + 1 + 1 + 1, oQ) :: (s1.heap.objs.size + 1 + 1 + 1 + 1 + 1, oTh2) :: (s1.heap.objs.size + 1 + 1 + 1 + 1, oRw2) :: (s1.heap.objs.size + 1 + 1 + 1, oGr) :: (s1.heap.objs.size + 1 + 1, oTi) :: (s1.heap.objs.size + 1, oNa) :: tl, p.1 < x_50 := newsLt (allLt_memX (l := (Jd, LCg.lst zs') :: (s1.heap.objs.size + 1 + 1 + 1 + 1 + 1, oTh2) :: (Td, LCg.lst zs) :: (s1.heap.objs.size + 1 + 1 + 1 + 1, oRw2) :: (Nu, listOf nsv.toArray 0) :: (TLa, listOf tv.toArray 0) :: (NLa, listOf nv.toArray 0) :: (s1.heap.objs.size + 1 + 1 + 1 + 1 + 1 + 1 + 1, oB) :: (s1.heap.objs.size + 1 + 1 + 1 + 1 + 1 + 1, oQ) :: (s1.heap.objs.size + 1 + 1 + 1, oGr) :: (s1.heap.objs.size + 1 + 1, oTi) :: (s1.heap.objs.size + 1, oNa) :: tl) l1) (by walk_at "Mine sub")
    have hOcNe : ∀ p ∈ (x_53, listOf x_54.toArray 0) :: (Td, LCg.lst zs) :: (Nu, listOf nsv.toArray 0) :: (TLa, listOf tv.toArray 0) :: (NLa, listOf nv.toArray 0) :: (s1.heap.objs.size + 1 + 1 + 1 + 1 + 1 + 1 + 1, oB) :: (s1.heap.objs.size + 1 + 1 + 1 + 1 + 1 + 1, oQ) :: (s1.heap.objs.size + 1 + 1 + 1 + 1 + 1, oTh2) :: (s1.heap.objs.size + 1 + 1 + 1 + 1, oRw2) :: (s1.heap.objs.size + 1 + 1 + 1, oGr) :: (s1.heap.objs.size + 1 + 1, oTi) :: (s1.heap.objs.size + 1, oNa) :: tl, p.1 ≠ x_50 := List.forall_mem_cons.mpr ⟨Nat.ne_of_gt l1_1.1, fun p hp => Nat.ne_of_lt (hOc p hp)⟩
    clear l1 l1_1 hOc
    refine for_list (σ := List Value × List Int × Nat) (ax := x_53) (vs := x_54) (e := 0)
      (fun c => (x_50, listOf c.1.toArray c.2.2) :: (x_53, listOf x_54.toArray 0) :: (Td, LCg.lst zs) :: (Nu, listOf nsv.toArray 0) :: (TLa, listOf tv.toArray 0) :: (NLa, listOf nv.toArray 0) :: (s1.heap.objs.size + 1 + 1 + 1 + 1 + 1 + 1 + 1, oB) :: (s1.heap.objs.size + 1 + 1 + 1 + 1 + 1 + 1, oQ) :: (s1.heap.objs.size + 1 + 1 + 1 + 1 + 1, oTh2) :: (s1.heap.objs.size + 1 + 1 + 1 + 1, oRw2) :: (s1.heap.objs.size + 1 + 1 + 1, oGr) :: (s1.heap.objs.size + 1 + 1, oTi) :: (s1.heap.objs.size + 1, oNa) :: tl)
      (fun c => [(Str.ofString "octets", .ref x_50), (Str.ofString "numbers", .ref Nu)])
      (fun i c => IntsAre c.1 c.2.1 ∧ c.2.1 = ((xs.drop 1).take i).flatMap oct2)
      (fun c => IntsAre c.1 c.2.1 ∧ c.2.1 = (xs.drop 1).flatMap oct2) ([], [], 0) rfl (fun i c _ => .tail _ (.head _)) F0 ?n0 ⟨.nil, rfl⟩ (by kst_all) ?turn ?els ?done rfl rfl (by with_unfolding_all passes_own)
    case n0 => exact newsSub N0 (by walk_at "Mine sub")
    case turn =>
      rintro i v ⟨us, zs2, e⟩ u h tk I oI hin hv ⟨hus, hzs2⟩ hne F2 N2
      dsimp only [fmap] at F2 N2 hus hne hzs2 ⊢
      obtain ⟨x, tv1, rfl, hx⟩ := hI'.at i v hv
      k_steps
      refine Held.out ?_
      rename_i l3 h3 F3 N3 hl3
      have hul := hus.length
      have hzl : zs2.length ≤ 12 := by
        have := flat2_len (((xs.drop 1).take i))
        rw [← hzs2, List.length_take] at this
        omega
      refine kl_extend F3 N3 (.head _) rfl (by show (2 : Nat) ≠ 0; decide) (.tail (Nat.ne_of_gt (hl3 _ (.head _))) (.head ?a5)) ?b1 (by show us.length ≤ sizeLine; rw [sizeLine_eq]; omega) (by show us.length + 2 ≤ _; rw [sizeLine_eq]; omega) fun h4 F4 N4 => ?_
      case b1 =>
        intro h
        rw [Bool.and_eq_true] at h
        have h2 : decide (us.length + 2 > sizeLine) = true := h.2
        have h3 := of_decide_eq_true h2
        rw [sizeLine_eq] at h3
        omega
      case a5 =>
       exact fun p hp => (List.mem_append.mp hp).elim (hOcNe p) fun hp => by
        rcases List.mem_cons.mp hp with rfl | hp
        · exact (hne _ (.head _)).symm
        · exact nomatch hp
      k_steps
      dsimp only [FTEnd]
      refine FEnd.intro (_, zs2 ++ oct2 x, e + 1) F4 N4 ⟨hus.append (.cons _ _ (.cons _ _ .nil)), ?_⟩ (by simp) (fun p hp => by
        rcases List.mem_cons.mp hp with rfl | hp
        · exact .tail _ (.head _)
        · exact .tail _ (.tail _ (List.mem_append_left _ hp))) (fun p hp => ?_) (by kst_all)
      · rw [take_flat2 _ hx, ← hzs2]
      · rcases List.mem_cons.mp hp with rfl | hp
        · exact hne (x_50, listOf us.toArray e) (.head _)
        · exact hne p (.tail _ hp)
    case els =>
      rintro ⟨us, zs2, e⟩ u h tk ⟨hus, hzs2⟩ F5 N5
      refine els_nil ⟨hus, ?_⟩ F5 N5 (by kst_all)
      rw [hI'.length, List.take_length] at hzs2
      exact hzs2
    case done =>
      rintro ⟨us, zs2, e⟩ u h tk ⟨hus, hzs2⟩ F5 N5
      dsimp only [fmap] at F5 N5 hus hzs2 ⊢
      k_steps
      refine Held.out ?_
      have hzl := flat2_len (xs.drop 1)
      rw [← hzs2] at hzl
      obtain ⟨hg, hv⟩ := groups2_of (os := zs2) (xs.drop 1) 0 (by rw [List.drop_zero]; exact hzs2) (Nat.zero_le _)
      refine read_c w _ x_50 us zs2 e _ (.head _) hus (by omega) hg _ _ _ _ _ _ _ _ _ _ _ _ _ _ _ _ _ _ (by assumption) F5 (by assumption) N5 (by assumption) rfl (by ktr_room) (by ktr_units) ?_
      rintro v led' h' tk' F7 N7 ⟨Wa, wv, we, rfl, rfl, hWlt, hw⟩
      rw [hv] at hw
      k_steps
      refine Held.out ?_
      rename Fr _ _ _ _ => F8
      rename News _ _ _ _ => N8
      rename IntsAre ys _ => hys
      refine cmp_ofNotEq (ke_ne_ints (PySem.IsL.isList (n := we) (N8 _ (.tail _ (.tail _ (.head _)))).1) (PySem.IsL.isList (n := ys.length) (N8 _ (.head _)).1) hw hys (by ktr_units) ?_)
      rw [decide_eq_true rfl]
      k_steps
      have N9 := newsSub (led' := (Wa, listOf wv.toArray we) :: (Td, LCg.lst zs) :: (Nu, listOf nsv.toArray 0) :: (TLa, listOf tv.toArray 0) :: (NLa, listOf nv.toArray 0) :: (s1.heap.objs.size + 1 + 1 + 1 + 1 + 1 + 1 + 1, oB) :: (s1.heap.objs.size + 1 + 1 + 1 + 1 + 1 + 1, oQ) :: (s1.heap.objs.size + 1 + 1 + 1 + 1 + 1, oTh2) :: (s1.heap.objs.size + 1 + 1 + 1 + 1, oRw2) :: (s1.heap.objs.size + 1 + 1 + 1, oGr) :: (s1.heap.objs.size + 1 + 1, oTi) :: (s1.heap.objs.size + 1, oNa) :: tl) N8 (by walk_at "Mine sub")
      clear N8 N5
      generalize hps : (xs.drop 1).map (fun v => v.fmod 4096) = ps at hw hys
      have hpl : ps.length = 6 := by rw [← hps, List.length_map, List.length_drop, hxl]
      refine Held.out (LCg.Assign_ListComp_U (F₀ := F8) (by rfl) (by with_unfolding_all rfl) (by with_unfolding_all rfl) (by decide) (by rfl) (by decide) (by rfl) (by rfl) (by rfl) ?_)
      k_steps
      refine Held.out ?_
      refine Spec.use (left_c w _ TLa Td Wa tv zs wv 0 zs.length we (fl f 6) ps (by walk_at "Mine mem") (htv.mono (by walk_at "Mine sub")) (show (Td, LCg.lst zs) ∈ _ from by walk_at "Mine mem") hzs (fun k hk => (fl_in.mp hk).1) (ord_facts (List.Perm.refl _)).2.2 (by walk_at "Mine mem") hw hpl) (by assumption) F8 (by assumption) N9 (by assumption) rfl (by ktr_room) (by ktr_units) ?_
      rintro v led' h' tk' F10 N10 ⟨La, lu, le, ord, rfl, rfl, hLne, hperm, hpair, hlu⟩
      k_steps
      refine Held.out ?_
      have hob := left_bound hperm
      obtain ⟨ns6, hns6⟩ : ∃ l : List Nat, l = (tleft ord).map Prod.fst := ⟨_, rfl⟩
      have hlu' : IntsAre lu (ns6.map Int.ofNat) := by
        rw [hns6, List.map_map]
        exact hlu
      rw [← hns6] at hob
      have hlul : lu.length ≤ 64 := by
        have h1 := tleft_len ord
        have h2 : 2 ^ ord.length ≤ 2 ^ 6 := Nat.pow_le_pow_right (by decide) (ord_facts hperm).2.2
        rw [hlu.length, List.length_map]
        exact Nat.le_trans h1 h2
      refine LCg.CompSrc.ledger (its := lu.toArray) (k := le) rfl F10 N10 (.head _) (by rw [List.size_toArray, sizeLine_eq]; omega) ?_
      intro g11
      refine comp_keep (fun j ys => StrsAre ys ((ns6.take j).map wrd)) (.inr ⟨_, (.head _), rfl, _, rfl⟩) .nil ?cturn ?cfin
      case cturn =>
        rintro j v ys I oI C oC D m₂ h tk E' hj hv hys hNs hmx F16 N16
        obtain ⟨tv, hve⟩ := hlu'.int_at j v (by simpa using hv)
        rw [getD_ofNat2] at hve
        subst hve
        have hjl : j < ns6.length := by rw [List.size_toArray, hlu'.length, List.length_map] at hj; exact hj
        have hjm : ns6.getD j 0 ∈ ns6 := by
          rw [List.getD_eq_getElem?_getD, List.getElem?_eq_getElem hjl]
          exact List.getElem_mem hjl
        k_steps
        refine Held.out ?_
        refine Spec.use (pretty_c w _ (ns6.getD j 0) _ (by have := (hob _ hjm).2; omega)) (by assumption) F16 (by assumption) N16 (by assumption) rfl (by ktr_room) (by ktr_units) ?_
        rintro v led' h' tk' F17 N17 ⟨t, rfl, rfl⟩
        show KEnd _ _ _ _ _ _ _ _
        refine KEnd.intro F17 N17 (fun p hp => hp) ?_
        have e : (ns6.take (j + 1)).map wrd = (ns6.take j).map wrd ++ [wrd (ns6.getD j 0)] := by
          rw [List.take_add_one, List.getElem?_eq_getElem hjl, List.map_append, List.getD_eq_getElem?_getD, List.getElem?_eq_getElem hjl]
          rfl
        show StrsAre _ ((ns6.take (j + 1)).map wrd)
        rw [e]
        exact kct_snoc hys
      case cfin =>
        intro ls hls Ld h12 tk12 F12 N12 off12
        rw [List.size_toArray, hlu'.length, List.length_map, List.take_length] at hls
        have o12 := off1_memX off12
        have hWa := hWlt (s1.heap.objs.size + 1 + 1 + 1 + 1 + 1 + 1 + 1, oB) (by walk_at "Mine mem")
        have hWa6 := hWlt (s1.heap.objs.size + 1 + 1 + 1 + 1 + 1 + 1, oQ) (by walk_at "Mine mem")
        have hLd7 := o12 (s1.heap.objs.size + 1 + 1 + 1 + 1 + 1 + 1 + 1, oB) (by walk_at "Mine mem")
        have hLd6 := o12 (s1.heap.objs.size + 1 + 1 + 1 + 1 + 1 + 1, oQ) (by walk_at "Mine mem")
        have hTd7 := o7 (s1.heap.objs.size + 1 + 1 + 1 + 1 + 1 + 1 + 1, oB) (by walk_at "Mine mem")
        have hTd6 := o7 (s1.heap.objs.size + 1 + 1 + 1 + 1 + 1 + 1, oQ) (by walk_at "Mine mem")
        have N13 := newsSub (led' := (Ld, LCg.lst ls) :: (Wa, listOf wv.toArray we) :: (Td, LCg.lst zs) :: (TLa, listOf tv.toArray 0) :: (NLa, listOf nv.toArray 0) :: (s1.heap.objs.size + 1 + 1 + 1 + 1 + 1 + 1 + 1, oB) :: (s1.heap.objs.size + 1 + 1 + 1 + 1 + 1 + 1, oQ) :: (s1.heap.objs.size + 1 + 1 + 1 + 1 + 1, oTh2) :: (s1.heap.objs.size + 1 + 1 + 1 + 1, oRw2) :: (s1.heap.objs.size + 1 + 1 + 1, oGr) :: (s1.heap.objs.size + 1 + 1, oTi) :: (s1.heap.objs.size + 1, oNa) :: tl) N12 (by walk_at "Mine sub")
        clear N12 N10 N9 F10 F8 F5 off12 o12 off7 o7 hLne hWlt hOcNe
        k_steps
        revert w s1 script oB oQ oTh oRw oGr0 oTi0 oNa0 NLa oNa TLa oTi Nu oGr nsv tv tl nv xs f oRw2 Td oTh2 zs zs' Jd Wa wv we ps La lu le ord ns6 ls Ld
        repeat (rename _ => y; revert y)
        intro hp
        exact hp.go)
section
local macro_rules | `(tactic| walk_at "eval ListComp") => `(tactic| (refine Mine.Held.mk ?_))
local macro_rules | `(tactic| walk_at "CompSrc") => `(tactic| (refine Mine.Held.mk ?_))
local macro_rules | `(tactic| walk_at "call builtin:len") => `(tactic| (refine Mine.Held.mk ?_))
theorem begin_L2N : True := by
  w_top off
  exact True.intro
theorem len_cellM2 {prog : Program} {w : World} {A : Around} {E : Value → Shared → Prop} {s : Shared} {l : Addr} {vs : List Value} {n : Nat} {M : Nat} {Q : Value → Shared → Prop} (ho : s.heap.get? l = some (listOf vs.toArray n)) (hM : vs.length = M) (hfit : M < 2 ^ 63)
    (h : Q (.int (M : Int) (s.toks + 1)) { s with toks := s.toks + 1 + 1 }) : wpAny (model prog w) A (call (.builtin "len") [.ref l]) Q E s := by
  subst hM
  exact len_cell ho (by omega) h
noncomputable def cutC : Σ' P : Prop, Cut P → cutB.fst := by
  apply PSigma.mk
  intro hp
  exact (by
    w_top on
    unhygienic intro
    k_fill
    unhygienic intros
    have hlsl := hls.length
    rw [List.length_map] at hlsl
    have hnsl : ns6.length ≤ 64 := by rw [hns6, List.length_map]; exact Nat.le_trans (tleft_len ord) (Nat.pow_le_pow_right (by decide) (ord_facts hperm).2.2)
    refine Held.out (LCg.Assign_ListComp_U (F₀ := F12) (by rfl) (by with_unfolding_all rfl) (by with_unfolding_all rfl) (by decide) (by rfl) (by decide) (by rfl) (by rfl) (by rfl) ?_)
    k_steps
    refine Held.out ?_
    refine LCg.CompSrc.ledger (its := ls.toArray) (k := ls.length) rfl F12 N13 (show (Ld, LCg.lst ls) ∈ _ from .head _) (by rw [List.size_toArray, sizeLine_eq]; omega) ?_
    intro g1
    refine comp_keep (fun j ys => IntsAre ys ((ns6.take j).map fun n => (cnt n : Int))) (.inr ⟨_, (show (Ld, LCg.lst ls) ∈ _ from .head _), rfl, _, rfl⟩) .nil ?t1 ?f1
    case t1 =>
      rintro j v ys I oI C oC D m₂ h tk E' hj hv hys hNs hmx F16 N16
      obtain ⟨y, ty, rfl, hy⟩ := StrsAre.item hls j v (by simpa using hv)
      rw [List.size_toArray, hlsl] at hj
      rw [List.getElem?_map, List.getElem?_eq_getElem hj] at hy
      obtain ⟨n, hn⟩ : ∃ n, ns6[j] = n := ⟨_, rfl⟩
      have hn64 : n < 64 := by have := (hob _ (hn ▸ List.getElem_mem hj)).2; omega
      rw [hn] at hy
      cases hy
      have ht : (ns6.take (j + 1)).map (fun n => (cnt n : Int)) = (ns6.take j).map (fun n => (cnt n : Int)) ++ [(cnt n : Int)] := by
        rw [List.take_add_one, List.getElem?_eq_getElem hj, List.map_append, hn]
        rfl
      k_steps
      · rename (_ == _) = true => hq
        rw [wrd_zero n hn64] at hq
        have hz : n = 0 := of_decide_eq_true hq
        refine KEnd.intro F16 N16 (fun p hp => hp) ?_
        rw [ht, hz]
        exact hys.append (.cons _ _ .nil)
      · rename (_ == _) = false => hq
        rw [wrd_zero n hn64] at hq
        have hz : n ≠ 0 := of_decide_eq_false hq
        have hw2 := wrd_len n hn64
        refine Held.out (KSpl.split1 F16 N16 (by decide) (fun Dq lq hq' kq elq hsa Fq Nq hltq => ?_) (by rw [sizeLine_eq]; omega))
        have hlq : (strValues lq).length = cnt n := by
          rw [← split_cnt n hn64 hz, ← elq, hsa.length]
        k_steps
        refine Held.out (len_cellM2 (Nq _ (.head _)).1 hlq (by have := (hob n (hn ▸ List.getElem_mem hj)).1; omega) ?_)
        k_steps
        show KEnd _ _ _ _ _ _ _ _
        refine KEnd.intro Fq Nq (fun p hp => .tail _ hp) ?_
        rw [ht]
        exact hys.append (.cons _ _ .nil)
    case f1 =>
      intro cs hcs Cd h2 tk2 F2 N2 off2
      rw [List.size_toArray, hlsl, List.take_length] at hcs
      have o2 := off1_memX off2
      have hCd7 := o2 (s1.heap.objs.size + 1 + 1 + 1 + 1 + 1 + 1 + 1, oB) (by walk_at "Mine mem")
      have hCd6 := o2 (s1.heap.objs.size + 1 + 1 + 1 + 1 + 1 + 1, oQ) (by walk_at "Mine mem")
      clear off2 o2
      k_steps
      revert w s1 script oB oQ oTh oRw oGr0 oTi0 oNa0 NLa oNa TLa oTi Nu oGr nsv tv tl nv xs f oRw2 Td oTh2 zs zs' Jd Wa wv we ps La lu le ord ns6 ls Ld cs Cd
      repeat (rename _ => y; revert y)
      intro hp
      exact hp.go)
local macro_rules | `(tactic| walk_at "call builtin:max") => `(tactic| (refine Mine.Held.mk ?_))
local macro_rules | `(tactic| walk_at "binaryOp Add ref ref") => `(tactic| (refine Mine.Held.mk ?_))
theorem begin_L2O : True := by
  w_top off
  exact True.intro
noncomputable def Stop (P : Value → Shared → Prop) (v : Value) (s : Shared) : Prop := P v s
theorem stop_in {M : Model} {A : Around} {c : Sem Value} {P E : Value → Shared → Prop} {s : Shared} (h : wpAny M A c (Stop P) E s) : wpAny M A c P E s := h
theorem Stop.mk {P : Value → Shared → Prop} {v : Value} {s : Shared} (h : P v s) : Stop P v s := h
noncomputable def Keep (P : Prop) : Prop := P
theorem expd_len : ∀ l : List (List Nat), (∀ m ∈ l, mx4 m ≤ 3) → (l.flatMap expd).length ≤ 5 * l.length
  | [], _ => Nat.le_refl _
  | m :: l, h => by
    have ih := expd_len l fun x hx => h x (.tail _ hx)
    have h1 := h m (.head _)
    rw [List.flatMap_cons, List.length_append, List.length_cons]
    have : (expd m).length = mx4 m + 2 := by unfold expd; rw [List.length_map, List.length_range]
    omega
abbrev frM {h₀ h : Heap} {L : Addr} {m : Str → Option Value} (_ : Fr h₀ L h m) : Str → Option Value := m
noncomputable def cutD : Σ' P : Prop, Cut P → cutC.fst := by
  apply PSigma.mk
  intro hp
  exact (by
    w_top on
    unhygienic intro
    k_fill
    unhygienic intros
    obtain ⟨R, hR⟩ : ∃ R : List (Addr × Obj), R = (Cd, LCg.lst cs) :: (Ld, LCg.lst ls) :: (Wa, listOf wv.toArray we) :: (Td, LCg.lst zs) :: (TLa, listOf tv.toArray 0) :: (NLa, listOf nv.toArray 0) :: (s1.heap.objs.size + 1 + 1 + 1 + 1 + 1 + 1 + 1, oB) :: (s1.heap.objs.size + 1 + 1 + 1 + 1 + 1 + 1, oQ) :: (s1.heap.objs.size + 1 + 1 + 1 + 1 + 1, oTh2) :: (s1.heap.objs.size + 1 + 1 + 1 + 1, oRw2) :: (s1.heap.objs.size + 1 + 1 + 1, oGr) :: (s1.heap.objs.size + 1 + 1, oTi) :: (s1.heap.objs.size + 1, oNa) :: tl := ⟨_, rfl⟩
    obtain ⟨pv0, mo0, hL0, hN0⟩ : ∃ (pv : List Value) (mo : List (Addr × Obj)), Lsts mo pv (partN 0) ∧ News s1.heap s1.heap.objs.size y_123 ((y_120, listOf pv.toArray 0) :: (mo ++ R)) :=
      ⟨[.ref y_118], [(y_118, listOf [Value.int 0 _].toArray 0)], .cons (n := 0) (.head _) (.cons _ _ .nil) .nil, newsSub a_5 (by rw [hR]; walk_at "Mine sub")⟩
    clear a_5 N' F'
    refine Held.out (for_range (n := 3) (σ := Addr × List Value × Nat × List (Addr × Obj)) (fun c => (c.1, listOf c.2.1.toArray c.2.2.1) :: (c.2.2.2 ++ R))
      (fun c => [(Str.ofString "parted", .ref c.1), (Str.ofString "counts", .ref Cd), (Str.ofString "left", .ref Ld), (Str.ofString "prices", .ref Wa)])
      (fun i c => Lsts c.2.2.2 c.2.1 (partN i)) (fun c => Lsts c.2.2.2 c.2.1 (partN 3)) (y_120, pv0, 0, mo0) rfl a_3 (by decide) (by decide) a_4 hN0 hL0 (by kst_all) ?turn ?els ?done rfl rfl (by with_unfolding_all passes_own))
    case els =>
      rintro ⟨Pa, pv, k, mo⟩ u h tk hL F5 N5
      exact els_nil hL F5 N5 (by kst_all)
    case turn =>
      rintro i t ⟨Pa, pv, k, mo⟩ u h tk I oI hin hL hne F2 N2
      dsimp only [fmap] at F2 N2 hL hne ⊢
      generalize hP1 : FTEnd _ _ _ _ _ _ _ _ _ = P1
      revert P1
      refine Held.mk (Held.out ?_)
      intro P1 hP1
      obtain ⟨hp15, hpok⟩ := partN_ok i (by omega)
      k_steps
      refine Held.out (assign_two (h₀ := s1.heap) (m := frM F2) (by with_unfolding_all rfl) (by with_unfolding_all rfl) (by decide) (by rfl) (by decide) (by rfl) (by rfl) (by decide) (by rfl) (by rfl) ?_)
      dsimp only [frM]
      refine stop_in ?_
      k_steps
      refine Stop.mk ?_
      refine ⟨Pa, pv, k, _, rfl, rfl, F2, N2, .head _, fun j ys mo' => Lsts mo' ys (((partN i).take j).flatMap expd) ∧ ∀ p ∈ mo', I < p.1, ⟨.nil, fun _ h => nomatch h⟩, ?tn, ?fin⟩
      case tn =>
        rintro g j v ys mo' I1 oI1 oC C D m₂ h3 tk3 E' hj hv ⟨hys, hmo'⟩ hNs hmx F4 N4
        obtain ⟨a, us, n, mk, rfl, hmk, hm, hu⟩ := hL.get hv
        obtain ⟨hml, hm3⟩ := hpok mk (List.mem_of_getElem? hmk)
        have huK : Keep (IntsAre us (mk.map Int.ofNat)) := hu
        refine stop_in ?_
        k_steps
        refine Held.out ?_
        refine kso_max F4 N4 (PySem.IsL.isList (n := n) (N4 (a, listOf us.toArray n) (by walk_at "Mine mem")).1) hu (by rw [List.length_map, hml]; exact Nat.succ_pos _) rfl fun h5 M t5 tk5 F5 N5 hM1 hM2 => ?_
        have hM := mx4_is hM1 hM2
        subst hM
        k_steps
        refine Stop.mk ?_
        rename IsRange _ _ _ _ _ _ _ _ => R5
        rename Fr _ _ _ _ => F6
        rename News _ _ _ _ => N6
        refine ⟨_, _, _, _, _, mx4 mk + 2, _, _, rfl, rfl, R5, small_one (by decide) (by decide) (by omega) (by omega), range_sizeW (mx4 mk + 2), F6, N6, fun q ys mo' => q ≤ mx4 mk + 2 ∧ Lsts mo' ys (((partN i).take j).flatMap expd ++ ((List.range q).map fun m => mk ++ [m])) ∧ ∀ p ∈ mo', I < p.1, ⟨Nat.zero_le _, by simpa using hys, hmo'⟩, ?ib, ?inn, ?it⟩
        case ib =>
          rintro q ys mo2 ⟨hq, hl, -⟩
          have h1 := hl.length
          rw [List.length_append, List.length_map, List.length_range] at h1
          have h2 := expd_len ((partN i).take j) (fun m hm => (hpok m (List.mem_of_mem_take hm)).2)
          rw [List.length_take] at h2
          rw [sizeLine_eq]
          omega
        case inn =>
          rintro ys mo2 ⟨hq, hl, hmo2⟩
          exact ⟨by rw [flat_snoc expd hmk]; exact hl, hmo2⟩
        case it =>
          rintro q ys mo2 I2 oI2 oI' oC' m₃ h7 tk7 E'' hq ⟨hq2, hys2, hmo2⟩ hNs3 hmx3 ⟨t3, hmy3⟩ F7 N7
          refine stop_in ?_
          k_steps
          rename_i l7 h8 F8 N8 l8
          refine Held.out (kmk_add_ints (ws := [.int (q : Int) t3]) F8 N8 (PySem.IsL.isList (n := n) (N8 (a, listOf us.toArray n) (by walk_at "Mine mem")).1) (PySem.IsL.isList (n := 0) (N8 _ (.head _)).1) (show IntsAre us (mk.map Int.ofNat) from huK) (.cons _ _ .nil) (fun D9 us9 h9 F9 N9 l9 hI9 => ?_) (by rw [List.length_map, hml, sizeLine_eq]; show i + 1 + 1 ≤ _; omega))
          refine Stop.mk (GEnd.intro [(D9, listOf us9.toArray 0)] F9 N9 (fun p hp => .tail _ (.tail _ hp)) (fun p hp => by rw [List.mem_singleton.mp hp]; exact .head _) (Abv.cons ⟨l9 (I1, oI') (by walk_at "Mine mem"), l9 (C, oC') (by walk_at "Mine mem"), l9 (D, LCg.lst ys) (by walk_at "Mine mem")⟩ Abv.nil) ⟨?_, Nat.succ_le_of_lt hq, ?_, ?_⟩)
          · have hI2 := l9 (I2, oI2) (by walk_at "Mine mem")
            exact Abv.cons ⟨hI2, hI2, hI2⟩ Abv.nil
          · rw [List.range_succ, List.map_append, ← List.append_assoc]
            exact (hys2.mono fun p hp => List.mem_append_left _ hp).append (.cons (List.mem_append_right _ (.head _)) (by rw [List.map_append]; exact hI9) .nil)
          · exact fun p hp => (List.mem_append.mp hp).elim (hmo2 p) fun hp => by
              rw [List.mem_singleton.mp hp]
              exact l9 (I, oI) (by walk_at "Mine mem")
      case fin =>
        rintro g ys mo' ⟨hys, hmo'⟩
        rw [hL.length, List.take_length] at hys
        intro D h8 tk8 F8 N8 o8
        k_steps
        rw [← hP1]
        dsimp only [FTEnd]
        refine FEnd.intro (D, ys, ys.length, mo') F8 N8 hys (by simp) (by walk_at "Mine sub") ?_ (by kst_all)
        refine List.forall_mem_cons.mpr ⟨(o8 (I, oI) (List.mem_append_left _ (List.mem_append_right _ (.head _)))).symm, fun p hp => (List.mem_append.mp hp).elim (fun hp => Nat.ne_of_gt (hmo' p hp)) (fun hp => hne p (.tail _ (List.mem_append_right _ hp)))⟩
    case done =>
      rintro ⟨Pa, pv, k, mo⟩ u h tk hL F5 N5
      dsimp only [fmap] at F5 N5 hL ⊢
      subst hR
      rw [partN_3] at hL
      k_steps
      revert w s1 script oB oQ oTh oRw oGr0 oTi0 oNa0 NLa oNa TLa oTi Nu oGr nsv tv tl nv xs f oRw2 Td oTh2 zs zs' Jd Wa wv we ps La lu le ord ns6 ls Ld cs Cd Pa pv k mo u h tk
      repeat (rename _ => y; revert y)
      intro hp
      exact hp.go)
local macro_rules | `(tactic| walk_at "subscriptTail Name Subscript ref int") => `(tactic| (refine Mine.Held.mk ?_))
local macro_rules | `(tactic| walk_at "subscriptTail Subscript Constant ref int") => `(tactic| (refine Mine.Held.mk ?_))
theorem begin_L2P : True := by
  w_top off
  exact True.intro
noncomputable def badT (mk : List Nat) (k : Nat) : Bool := mk.getD (tieE.getD k (0, 0)).1 0 == mk.getD (tieE.getD k (0, 0)).2 0
theorem getD_of_isSome {α : Type} {l : List α} {k : Nat} {v : α} (h : l[k]? = some v) : k < l.length := by
  rw [List.getElem?_eq_some_iff] at h
  exact h.1
theorem tie_at : ∀ kk < 6, (tieE.map fun p => ((p.1 : Int), (p.2 : Int))).getD kk (0, 0) = (((tieE.getD kk (0, 0)).1 : Int), ((tieE.getD kk (0, 0)).2 : Int)) := by decide
theorem tie_lt : ∀ kk < 6, 0 ≤ (tieE.getD kk (0, 0)).1 ∧ 0 ≤ (tieE.getD kk (0, 0)).2 ∧ (tieE.getD kk (0, 0)).1 < 4 ∧ (tieE.getD kk (0, 0)).2 < 4 := by decide
theorem part_len : ∀ mk ∈ PART, mk.length = 4 := by decide
theorem ints_at (mk : List Nat) (i : Nat) (h : i < mk.length) : (mk.map Int.ofNat)[i]? = some ((mk.getD i 0 : Nat) : Int) := by
  rw [List.getElem?_map, List.getD_eq_getElem?_getD, List.getElem?_eq_getElem h]
  rfl
theorem badT_ok (mk l : List Nat) : decide ((l.filter (badT mk)).map Int.ofNat = []) = okPart l mk := by
  rw [Bool.eq_iff_iff, decide_eq_true_iff, List.map_eq_nil_iff, List.filter_eq_nil_iff, okPart_iff]
  refine forall_congr' fun k => forall_congr' fun _ => ?_
  unfold badT
  rw [beq_iff_eq]
noncomputable def cutE : Σ' P : Prop, Cut P → cutD.fst := by
  apply PSigma.mk
  intro hp
  exact (by
    w_top on
    unhygienic intro
    k_fill
    unhygienic intros

    obtain ⟨R, hR⟩ : ∃ R : List (Addr × Obj), R = (Cd, LCg.lst cs) :: (Ld, LCg.lst ls) :: (Wa, listOf wv.toArray we) :: (NLa, listOf nv.toArray 0) :: (s1.heap.objs.size + 1 + 1 + 1 + 1 + 1 + 1 + 1, oB) :: (s1.heap.objs.size + 1 + 1 + 1 + 1 + 1 + 1, oQ) :: (s1.heap.objs.size + 1 + 1 + 1 + 1, oRw2) :: (s1.heap.objs.size + 1 + 1 + 1, oGr) :: (s1.heap.objs.size + 1, oNa) :: [] := ⟨_, rfl⟩
    have N5z := newsSub (led' := (Pa, listOf pv.toArray k) :: (mo ++ (s1.heap.objs.size + 1 + 1 + 1 + 1 + 1, oTh2) :: (s1.heap.objs.size + 1 + 1, oTi) :: (Td, LCg.lst zs) :: (TLa, listOf tv.toArray 0) :: (R ++ tl))) N5 (by rw [hR]; walk_at "Mine sub")
    clear N5
    have N5 := N5z
    clear N5z
    have hPL := hL_2
    have hpvl := hPL.length
    refine Held.out (assign_cellT_list (h₀ := s1.heap) (m := frM F5) (by with_unfolding_all rfl) (by with_unfolding_all rfl) (by intro _; rfl) (by intro _; rfl) (by rfl) (by decide) (by rfl) (by rfl) (by rfl) ?_)
    dsimp only [frM]
    refine stop_in ?_
    k_steps
    refine Stop.mk ?_
    refine ⟨Pa, pv, k, _, rfl, rfl, F5, N5, .head _, (by rw [hpvl, sizeLine_eq]; decide), fun j ys mo' => Lsts mo ys ((PART.take j).filter (okPart (fl f 6))) ∧ mo' = [], ⟨.nil, rfl⟩, ?tn, ?fin⟩
    case tn =>
      rintro g i v ys mo' I oI oC C D Cc oK m₂ h2 tk2 E' hi hv ⟨hys, rfl⟩ hNs hdK F2 N2
      generalize hP1 : GTst _ _ _ _ _ _ _ _ _ _ _ _ _ _ _ _ = P1
      revert P1
      refine Held.mk (Held.out ?_)
      intro P1 hP1
      obtain ⟨a, us, n, mk, rfl, hmk, hm, hu⟩ := hPL.get hv
      have N2' := newsSub N2 (subC (a := (s1.heap.objs.size + 1 + 1 + 1 + 1 + 1, oTh2)) (by walk_at "Mine mem") (subC (a := (s1.heap.objs.size + 1 + 1, oTi)) (by walk_at "Mine mem") (subC (a := (Cc, oK)) (by walk_at "Mine mem") subS)))
      clear N2
      have N2 := N2'
      clear N2'
      k_steps
      refine Held.out ?_
      refine LCt.ListComp_T (cl := [(Str.ofString "ties", s1.heap.objs.size + 1 + 1), (Str.ofString "marks", Cc)]) (F₀ := F2) ?c1 ?c2 ?c3 ?c4 ?c5 ?c6 ?c7
      case c1 => rfl
      case c2 => decide
      case c3 => rfl
      case c4 => decide
      case c5 => rfl
      case c7 => intro _; rfl
      k_steps
      refine Held.out ?_
      have hzl := hzs.length
      rw [List.length_map] at hzl
      have hfl6 := (ord_facts (List.Perm.refl (fl f 6))).2.2
      refine LCt.CompSrcT.ledger (its := zs.toArray) (k := zs.length) rfl F2 N2 (show (Td, LCg.lst zs) ∈ _ from by walk_at "Mine mem") (by rw [List.size_toArray, sizeLine_eq]; omega) ?_
      intro g2
      refine comp_keepT (fun j xs => IntsAre xs ((((fl f 6).take j).filter (badT mk)).map Int.ofNat)) (.inr ⟨_, (show (Td, LCg.lst zs) ∈ _ from by walk_at "Mine mem"), rfl, _, rfl⟩) .nil ?t1 ?f1
      case t1 =>
        rintro j v xs' I3 oI3 C3 oC3 D3 m₃ h3 tk3 E3 hj hv3 hxs' hNs3 hmx3 F3 N3
        generalize hP2 : KTst _ _ _ _ _ _ _ _ _ _ _ _ _ = P2
        revert P2
        refine Held.mk (Held.out ?_)
        intro P2 hP2
        obtain ⟨tk4, hve⟩ := hzs.int_at j v (by simpa using hv3)
        rw [getD_ofNat2] at hve
        subst hve
        rw [List.size_toArray, hzl] at hj
        obtain ⟨kk, hkk⟩ : ∃ kk, (fl f 6)[j] = kk := ⟨_, rfl⟩
        have hkm : kk ∈ fl f 6 := hkk ▸ List.getElem_mem hj
        have hk6 : kk < 6 := (fl_in.mp hkm).1
        have hkg : (fl f 6).getD j 0 = kk := by rw [List.getD_eq_getElem?_getD, List.getElem?_eq_getElem hj]; exact hkk
        rw [hkg] at hmx3
        have htk : (fl f 6).take (j + 1) = (fl f 6).take j ++ [kk] := by rw [List.take_add_one, List.getElem?_eq_getElem hj, hkk]; rfl
        obtain ⟨ta, ti, tj, tn, htv1, htm⟩ := htv.get (k := kk) hk6
        have hgl := getD_of_isSome htv1
        rw [tie_at kk hk6] at htm
        obtain ⟨hA, hB, hAl, hBl⟩ := tie_lt kk hk6
        k_steps
        refine Held.out ?_
        refine item_cell (N3 (TLa, listOf tv.toArray 0) (by walk_at "Mine mem")).1 (by omega) (by omega) (by rw [Int.toNat_natCast]; exact htv1) ?_
        k_steps
        have htm3 : (ta, ({ cls := .type "tuple", dict := none, data := .seq [.int ((tieE.getD kk (0, 0)).1 : Int) ti, .int ((tieE.getD kk (0, 0)).2 : Int) tj].toArray tn, slots := #[] } : Obj)) ∈ tl := htm
        refine item_tupleT (l := [.int ((tieE.getD kk (0, 0)).1 : Int) ti, .int ((tieE.getD kk (0, 0)).2 : Int) tj]) (News.isTup (n := tn) (d := none) (sl := #[]) N3 (by walk_at "Mine mem")) (by decide) (by decide) rfl rfl ?_ (by with_unfolding_all rfl)
        k_steps
        have hml := part_len mk (List.mem_of_getElem? hmk)
        obtain ⟨u1, hu1⟩ := hu.get (tieE.getD kk (0, 0)).1 _ (ints_at mk _ (by omega))
        obtain ⟨u2, hu2⟩ := hu.get (tieE.getD kk (0, 0)).2 _ (ints_at mk _ (by omega))
        refine Held.out ?_
        refine item_cell (N3 (a, listOf us.toArray n) (by walk_at "Mine mem")).1 (by omega) (by have := hu.length; rw [List.length_map] at this; omega) (by rw [Int.toNat_natCast]; exact hu1) ?_
        k_steps
        refine Held.out ?_
        refine item_cell (N3 (TLa, listOf tv.toArray 0) (by walk_at "Mine mem")).1 (by omega) (by omega) (by rw [Int.toNat_natCast]; exact htv1) ?_
        k_steps
        refine item_tupleT (l := [.int ((tieE.getD kk (0, 0)).1 : Int) ti, .int ((tieE.getD kk (0, 0)).2 : Int) tj]) (News.isTup (n := tn) (d := none) (sl := #[]) N3 (by walk_at "Mine mem")) (by decide) (by decide) rfl rfl ?_ (by with_unfolding_all rfl)
        k_steps
        refine Held.out ?_
        refine item_cell (N3 (a, listOf us.toArray n) (by walk_at "Mine mem")).1 (by omega) (by have := hu.length; rw [List.length_map] at this; omega) (by rw [Int.toNat_natCast]; exact hu2) ?_
        k_steps
        have hbe : (((mk.getD (tieE.getD kk (0, 0)).1 0 : Nat) : Int) == ((mk.getD (tieE.getD kk (0, 0)).2 0 : Nat) : Int)) = badT mk kk := by
          unfold badT
          rw [Bool.eq_iff_iff, beq_iff_eq, beq_iff_eq]
          exact Int.ofNat_inj
        cases hb : badT mk kk with
        | true =>
          rw [← hP2]
          refine KTst.yes (hbe.trans hb) ?_
          k_steps
          refine KEnd.intro F3 N3 (fun p hp => hp) ?_
          rw [htk, List.filter_append, List.map_append, List.filter_cons, hb, if_pos rfl, List.filter_nil]
          exact hxs'.append (.cons _ _ .nil)
        | false =>
          rw [← hP2]
          refine KTst.no (hbe.trans hb) F3 N3 (fun p hp => hp) ?_
          rw [htk, List.filter_append, List.filter_cons, hb, if_neg Bool.false_ne_true, List.filter_nil, List.append_nil]
          exact hxs'
      case f1 =>
        intro xs' hxs' Xd h4 tk4 F4 N4 off4
        rw [List.size_toArray, hzl, List.take_length] at hxs'
        k_steps
        refine Held.out ?_
        rename Fr _ _ _ _ => F5
        rename News _ _ _ _ => N5
        refine cmp_ofEq (ke_eq_ints (ms := []) (PySem.IsL.isList (n := xs'.length) (N5 _ (.tail _ (.head _))).1) (PySem.IsL.isList (n := 0) (N5 _ (.head _)).1) hxs' .nil (by ktr_units) ?_)
        rw [badT_ok]
        have htp : (PART.take (i + 1)).filter (okPart (fl f 6)) = (PART.take i).filter (okPart (fl f 6)) ++ [mk].filter (okPart (fl f 6)) := by
          rw [List.take_add_one, hmk, List.filter_append]
          rfl
        cases hb : okPart (fl f 6) mk with
        | true =>
          k_steps
          rw [← hP1]
          refine GTst.yes rfl ?_
          k_steps
          refine GEnd.intro [] F5 N5 (fun p hp => .tail _ (.tail _ (.tail _ (.tail _ (.tail _ hp))))) (fun _ h => nomatch h) Abv.nil ⟨Abv.nil, ?_, rfl⟩
          rw [htp, List.filter_cons, hb, if_pos rfl, List.filter_nil]
          exact hys.append (.cons hm hu .nil)
        | false =>
          k_steps
          rw [← hP1]
          refine GTst.no rfl F5 N5 (fun p hp => .tail _ (.tail _ (.tail _ (.tail _ (.tail _ hp))))) ⟨?_, rfl⟩
          rw [htp, List.filter_cons, hb, if_neg Bool.false_ne_true, List.filter_nil, List.append_nil]
          exact hys
    case fin =>
      rintro g ys mo' ⟨hys, rfl⟩
      rw [hpvl, List.take_length] at hys
      intro Dp h8 tk8 F8 N8 o8
      k_steps
      refine Held.out ?_
      rename Fr _ _ _ _ => F9
      rename News _ _ _ _ => N9
      rename IsRange _ _ _ _ _ _ _ _ => R9
      subst hR
      obtain ⟨mo2, hys2, hsub, hlist⟩ := hys.only
      have N10 := newsSub (led' := (s1.heap.objs.size + 1 + 1 + 1 + 1 + 1 + 1, oQ) :: (s1.heap.objs.size + 1 + 1 + 1 + 1 + 1 + 1 + 1, oB) :: (s1.heap.objs.size + 1 + 1 + 1 + 1 + 1, oTh2) :: (s1.heap.objs.size + 1 + 1 + 1 + 1, oRw2) :: (s1.heap.objs.size + 1 + 1 + 1, oGr) :: (s1.heap.objs.size + 1 + 1, oTi) :: (s1.heap.objs.size + 1, oNa) :: (Dp, LCg.lst ys) :: (Cd, LCg.lst cs) :: (Ld, LCg.lst ls) :: (Wa, listOf wv.toArray we) :: (Td, LCg.lst zs) :: (TLa, listOf tv.toArray 0) :: (NLa, listOf nv.toArray 0) :: (mo2 ++ tl)) N9 (subC (by walk_at "Mine mem") (subC (by walk_at "Mine mem") (subC (by walk_at "Mine mem") (subC (by walk_at "Mine mem") (subC (by walk_at "Mine mem") (subC (by walk_at "Mine mem") (subC (by walk_at "Mine mem") (subC (by walk_at "Mine mem") (subC (by walk_at "Mine mem") (subC (by walk_at "Mine mem") (subC (by walk_at "Mine mem") (subC (by walk_at "Mine mem") (subC (by walk_at "Mine mem") (subC (by walk_at "Mine mem") (subA (fun p hp => by have := hsub p hp; walk_at "Mine mem") (by walk_at "Mine sub"))))))))))))))))
      clear N9 hN0 N5 hsub hys o8
      revert w s1 script oB oQ oTh oRw oGr0 oTi0 oNa0 NLa oNa TLa oTi Nu oGr nsv tv tl nv xs f oRw2 Td oTh2 zs zs' Jd Wa wv we ps La lu le ord ns6 ls Ld cs Cd Pa pv k mo u h tk Dp ys mo2
      repeat (rename _ => y; revert y)
      intro hp
      exact hp.go)
local macro_rules | `(tactic| walk_at "storeName") => `(tactic| ((first | (with_reducible show wpAny _ _ (storeName _ (Str.ofString "row") _) _ _ _) | (with_reducible show wpAny _ _ (storeName _ (Str.ofString "there") _) _ _ _) | (with_reducible show wpAny _ _ (storeName _ (Str.ofString "broken") _) _ _ _) | (with_reducible show wpAny _ _ (storeName _ (Str.ofString "q") _) _ _ _)); (refine Mine.Held.mk ?_)))
local macro_rules | `(tactic| walk_at "binaryOp Mult int int") => `(tactic| (refine Mine.Held.mk ?_))
theorem begin_L2Q : True := by
  w_top off
  exact True.intro
theorem ways_cI (w : World) (led : List (Addr × Obj)) (q : Int) (t0 t1 : Tok) (k : Nat) (hq : -2 ≤ q) (hq2 : q ≤ 5) (hk : k ≤ 4) {kI : Int} (e : kI = (k : Int)) :
    Spec w 128 1 led [.int q t0, .int kI t1] (fun v led' => (∃ t, v = .int (wys q k) t) ∧ led' = led) := by
  subst e
  exact ways_c w led q t0 t1 k hq hq2 hk
theorem m1_bits : ∀ c < 4, Builtin.Int.intBits ((-1 : Int) ^ c) ≤ 64 := by decide +kernel
theorem mulOk_m1 (c : Nat) (h : c ≤ 3) (b : Int) : IntMulOk ((-1 : Int) ^ c) b := IntMulOk.of_left (m1_bits c (by omega))
noncomputable def cutF : Σ' P : Prop, Cut P → cutE.fst := by
  apply PSigma.mk
  intro hp
  exact (by
    w_top on
    unhygienic intro
    k_fill
    unhygienic intros
    rename IntsAre cs _ => hcs
    obtain ⟨vB, dB⟩ := dB
    obtain ⟨vQ, dQ⟩ := dQ
    obtain ⟨R, hR⟩ : ∃ R : List (Addr × Obj), R = (s1.heap.objs.size + 1 + 1 + 1 + 1 + 1 + 1 + 1, oB) :: (s1.heap.objs.size + 1 + 1 + 1, oGr) :: (s1.heap.objs.size + 1, oNa) :: (Ld, LCg.lst ls) :: (Wa, listOf wv.toArray we) :: (NLa, listOf nv.toArray 0) :: [] := ⟨_, rfl⟩
    have N11 := newsSub (led' := (s1.heap.objs.size + 1 + 1 + 1 + 1 + 1 + 1, oQ) :: (Dp, LCg.lst ys) :: (Cd, LCg.lst cs) :: (mo2 ++ R)) N10 (by rw [hR]; walk_at "Mine sub")
    have hB6 : ∀ p ∈ (Dp, LCg.lst ys) :: (Cd, LCg.lst cs) :: (mo2 ++ R), p.1 ≠ s1.heap.objs.size + 1 + 1 + 1 + 1 + 1 + 1 := by
      rw [hR]
      exact List.forall_mem_cons.mpr ⟨ne_cell N10 (.head _) dQ (p := (Dp, LCg.lst ys)) (by walk_at "Mine mem") ⟨ys, ys.length, rfl⟩, List.forall_mem_cons.mpr ⟨hCd6.symm, List.forall_mem_append.mpr ⟨fun p hp => ne_cell N10 (.head _) dQ (by walk_at "Mine mem") (hlist p hp), List.forall_mem_cons.mpr ⟨cne _ 7 6 (by decide), List.forall_mem_cons.mpr ⟨cne _ 3 6 (by decide), List.forall_mem_cons.mpr ⟨cne _ 1 6 (by decide), List.forall_mem_cons.mpr ⟨hLd6.symm, List.forall_mem_cons.mpr ⟨Nat.ne_of_gt hWa6, List.forall_mem_cons.mpr ⟨hiNe 6 (by decide) hNLa, fun _ h => nomatch h⟩⟩⟩⟩⟩⟩⟩⟩⟩
    clear N10
    refine Held.out (for_rangeG (n := 8) (σ := Obj) (fun c => (s1.heap.objs.size + 1 + 1 + 1 + 1 + 1 + 1, c) :: (Dp, LCg.lst ys) :: (Cd, LCg.lst cs) :: (mo2 ++ R))
      (fun _ => [(Str.ofString "parted", .ref Dp), (Str.ofString "counts", .ref Cd), (Str.ofString "left", .ref Ld), (Str.ofString "prices", .ref Wa)])
      (fun _ c => ∃ v, c.data = .cell v) (fun c => ∃ v, c.data = .cell v) oQ rfl (by assumption) (by decide) (by decide) (by assumption) N11 ⟨_, dQ⟩ (by kst_all) ?turn ?els ?done (by with_unfolding_all passes_own))
    case els =>
      rintro c u h tk hc F5 N5
      exact els_nil hc F5 N5 (by kst_all)
    case turn =>
      rintro i t oQ1 u h tk I oI hin ⟨v0, dQ1⟩ hne F2 N2
      dsimp only [fmap] at F2 N2 hne ⊢
      generalize hP1 : FTEnd _ _ _ _ _ _ _ _ _ = P1
      revert P1
      refine Held.mk (Held.out ?_)
      intro P1 hP1
      have N2' : News _ _ _ ((s1.heap.objs.size + 1 + 1 + 1 + 1 + 1 + 1, oQ1) :: ((Dp, LCg.lst ys) :: (Cd, LCg.lst cs) :: (mo2 ++ R) ++ [(I, oI)])) := N2
      refine storeX_C F2 N2' rfl (.head ?hap) dQ1 ?_ rfl rfl
      case hap =>
        exact List.forall_mem_append.mpr ⟨hB6, List.forall_mem_cons.mpr ⟨(hne _ (.head _)).symm, fun _ h => nomatch h⟩⟩
      intro h3 oQ2 F3 N3 dQ2
      obtain ⟨q, hq⟩ : ∃ q : Int, q = -2 + (i : Int) := ⟨_, rfl⟩
      rw [← hq] at dQ2
      have hqb : -2 ≤ q ∧ q ≤ 5 := ⟨by omega, by omega⟩
      k_steps
      refine Held.out ?_
      refine LCt.ListComp_T (cl := [(Str.ofString "q", s1.heap.objs.size + 1 + 1 + 1 + 1 + 1 + 1)]) (F₀ := F3) ?c1 ?c2 ?c3 ?c4 ?c5 ?c6 ?c7
      case c1 => rfl
      case c2 => decide
      case c3 => rfl
      case c4 => decide
      case c5 => rfl
      case c7 => intro _; rfl
      k_steps
      refine Held.out ?_
      have hcl : cs.length = ns6.length := by have := hcs.length; rwa [List.length_map] at this
      refine LCt.CompSrcT.ledger (its := cs.toArray) (k := cs.length) rfl F3 N3 (show (Cd, LCg.lst cs) ∈ _ from by walk_at "Mine mem") (by rw [List.size_toArray, sizeLine_eq]; omega) ?_
      intro g2
      refine comp_keepT (fun j xs => IntsAre xs ((ns6.take j).map fun n => (-1 : Int) ^ (cnt n) * q ^ (4 - cnt n))) (.inr ⟨_, (show (Cd, LCg.lst cs) ∈ _ from by walk_at "Mine mem"), rfl, _, rfl⟩) .nil ?t1 ?f1
      case t1 =>
        rintro j v xs' I3 oI3 C3 oC3 D3 m₃ h4 tk4 E3 hj hv3 hxs' hNs3 hmx3 F4 N4
        generalize hP2 : KTst _ _ _ _ _ _ _ _ _ _ _ _ _ = P2
        revert P2
        refine Held.mk (Held.out ?_)
        intro P2 hP2
        obtain ⟨tk5, hve⟩ := hcs.int_at j v (by simpa using hv3)
        rw [List.size_toArray, hcl] at hj
        obtain ⟨n, hn⟩ : ∃ n, ns6[j] = n := ⟨_, rfl⟩
        have hnm : n ∈ ns6 := hn ▸ List.getElem_mem hj
        have hc3 := (hob n hnm).1
        have hcg : (ns6.map fun n => (cnt n : Int)).getD j 0 = (cnt n : Int) := by rw [List.getD_eq_getElem?_getD, List.getElem?_map, List.getElem?_eq_getElem hj, hn]; rfl
        rw [hcg] at hve
        subst hve
        obtain ⟨c, hc⟩ : ∃ c, cnt n = c := ⟨_, rfl⟩
        rw [hc] at hmx3 hc3
        have ht : (ns6.take (j + 1)).map (fun n => (-1 : Int) ^ (cnt n) * q ^ (4 - cnt n)) = (ns6.take j).map (fun n => (-1 : Int) ^ (cnt n) * q ^ (4 - cnt n)) ++ [(-1 : Int) ^ c * q ^ (4 - c)] := by
          rw [List.take_add_one, List.getElem?_eq_getElem hj, List.map_append, hn, ← hc]
          rfl
        k_steps
        rw [← hP2]
        refine KTst.yes (decide_eq_true (by omega)) ?_
        generalize hP3 : KEnd _ _ _ _ _ _ = P3
        revert P3
        refine Held.mk (Held.out ?_)
        intro P3 hP3
        k_steps
        refine Held.out ?_
        rw [show ((c : Int)).toNat = c from rfl, show (4 - (c : Int)).toNat = 4 - c by omega]
        refine mul_int ?_ (mulOk_m1 c hc3 _)
        k_steps
        rw [← hP3]
        refine KEnd.intro F4 N4 (fun p hp => hp) ?_
        rw [ht]
        exact hxs'.append (.cons _ _ .nil)
      case f1 =>
        intro xs' hxs' Xd h4 tk4 F4 N4 off4
        rw [List.size_toArray, hcl, List.take_length] at hxs'
        k_steps
        refine Held.out ?_
        refine LSm.sum_ints F4 N4 rfl (PySem.IsL.isList (n := xs'.length) (N4 _ (.head _)).1) hxs' fun h5 tk5 t5 F5 N5 => ?_
        k_steps
        refine Held.out ?_
        rename Fr _ _ _ _ => F6
        rename News _ _ _ _ => N6
        refine LCg.ListComp_U (cl := [(Str.ofString "q", s1.heap.objs.size + 1 + 1 + 1 + 1 + 1 + 1)]) (F₀ := F6) ?d1 ?d2 ?d3 ?d4 ?d5 ?d6 ?d7
        case d1 => rfl
        case d2 => decide
        case d3 => rfl
        case d4 => decide
        case d5 => rfl
        case d7 => intro _; rfl
        k_steps
        refine Held.out ?_
        have hyl := hys2.length
        have hPl : (PART.filter (okPart (fl f 6))).length ≤ 15 := Nat.le_trans (List.length_filter_le _ _) (by decide)
        refine LCg.CompSrc.ledger (its := ys.toArray) (k := ys.length) rfl F6 N6 (show (Dp, LCg.lst ys) ∈ _ from by walk_at "Mine mem") (by rw [List.size_toArray, sizeLine_eq]; omega) ?_
        intro g7
        refine comp_keep (fun j xs => IntsAre xs (((PART.filter (okPart (fl f 6))).take j).map fun mk => wys q (mx4 mk + 1))) (.inr ⟨_, (show (Dp, LCg.lst ys) ∈ _ from by walk_at "Mine mem"), rfl, _, rfl⟩) .nil ?t2 ?f2
        case t2 =>
          rintro j v xs2 I5 oI5 C5 oC5 D5 m₅ h7 tk7 E7 hj hv5 hxs2 hNs5 hmx5 F7 N7
          generalize hP4 : KEnd _ _ _ _ _ _ = P4
          revert P4
          refine Held.mk (Held.out ?_)
          intro P4 hP4
          obtain ⟨a, us, n, mk, rfl, hmk, hm, hu⟩ := hys2.get (by simpa using hv5)
          have hmP : mk ∈ PART := (List.mem_filter.mp (List.mem_of_getElem? hmk)).1
          have hml := part_len mk hmP
          have hm3 := part_le mk hmP
          k_steps
          refine Held.out ?_
          refine kso_max F7 N7 (PySem.IsL.isList (n := n) (N7 (a, listOf us.toArray n) (by walk_at "Mine mem")).1) hu (by rw [List.length_map, hml]; exact Nat.succ_pos _) rfl fun h8 M t8 tk8 F8 N8 hM1 hM2 => ?_
          have hM := mx4_is hM1 hM2
          subst hM
          k_steps
          refine Held.out ?_
          refine Spec.use (ways_cI w _ q _ _ (mx4 mk + 1) hqb.1 hqb.2 (by omega) (by rfl)) (by assumption) F8 (by assumption) N8 (by assumption) rfl (by ktr_room) (by ktr_units) ?_
          rintro v led' h9 tk9 F9 N9 ⟨⟨t9, rfl⟩, rfl⟩
          rw [← hP4]
          refine KEnd.intro F9 N9 (fun p hp => hp) ?_
          rw [List.take_add_one, hmk, List.map_append]
          exact hxs2.append (.cons _ _ .nil)
        case f2 =>
          intro xs2 hxs2 Yd h7 tk7 F7 N7 off7
          rw [List.size_toArray, hyl, List.take_length] at hxs2
          have hse := sums_eq hperm hqb.1 hqb.2
          rw [← hns6, List.map_map, List.map_map] at hse
          k_steps
          refine Held.out ?_
          refine LSm.sum_ints F7 N7 rfl (PySem.IsL.isList (n := xs2.length) (N7 _ (.head _)).1) hxs2 fun h8 tk8 t8 F8 N8 => ?_
          k_steps
          · rename List.sum _ ≠ List.sum _ => hne2
            exact absurd hse hne2
          · rw [← hP1]
            dsimp only [FTEnd]
            refine FEnd.intro oQ2 F8 N8 ⟨_, dQ2⟩ (.tail _ (.tail _ (.tail _ (List.mem_append_right _ (.head _))))) (fun p hp => .tail _ (.tail _ ?_)) (List.forall_mem_cons.mpr ⟨hne (_, oQ1) (.head _), fun p hp => hne p (.tail _ hp)⟩) (by kst_all)
            rcases List.mem_cons.mp hp with rfl | hp
            · exact .head _
            · exact .tail _ (List.mem_append_left _ hp)
    case done =>
      rintro oQ1 u h tk ⟨v0, dQ1⟩ F5 N5
      dsimp only [fmap] at F5 N5 ⊢
      rw [hR] at N5
      have N5b := newsSub (led' := (s1.heap.objs.size + 1 + 1 + 1 + 1 + 1 + 1 + 1, oB) :: (s1.heap.objs.size + 1 + 1 + 1, oGr) :: (s1.heap.objs.size + 1, oNa) :: (Ld, LCg.lst ls) :: (Wa, listOf wv.toArray we) :: (NLa, listOf nv.toArray 0) :: []) N5 (by walk_at "Mine sub")
      clear N5
      have N5 := N5b
      clear N5b hR hB6
      k_steps
      refine Held.out ?_
      refine Spec.use (broken_c w _ Wa wv ps we f _ hw (by walk_at "Mine mem") hf hpl) (by assumption) F5 (by assumption) N5 (by assumption) rfl (by ktr_room) (by ktr_units) ?_
      rintro v led' h' tk' F6 N6 ⟨Ba, bs, bk, rfl, rfl, hBlt, hbs⟩
      k_steps
      refine Held.out ?_
      have hBa7 : s1.heap.objs.size + 1 + 1 + 1 + 1 + 1 + 1 + 1 < Ba := hBlt (s1.heap.objs.size + 1 + 1 + 1 + 1 + 1 + 1 + 1, oB) (by walk_at "Mine mem")
      have N7 := newsSub (led' := (s1.heap.objs.size + 1 + 1 + 1 + 1 + 1 + 1 + 1, oB) :: (s1.heap.objs.size + 1 + 1 + 1, oGr) :: (s1.heap.objs.size + 1, oNa) :: (Ba, listOf bs.toArray bk) :: (Ld, LCg.lst ls) :: (NLa, listOf nv.toArray 0) :: []) N6 (by walk_at "Mine sub")
      clear N6 N5
      refine storeX_C F6 N7 rfl (.head ?hap3) dB ?_ rfl rfl
      case hap3 =>
        exact List.forall_mem_cons.mpr ⟨cne _ 3 7 (by decide), List.forall_mem_cons.mpr ⟨cne _ 1 7 (by decide), List.forall_mem_cons.mpr ⟨Nat.ne_of_gt hBa7, List.forall_mem_cons.mpr ⟨hLd7.symm, List.forall_mem_cons.mpr ⟨hiNe 7 (by decide) hNLa, fun _ h => nomatch h⟩⟩⟩⟩⟩
      intro h8 oB2 F8 N8 dB2
      k_steps
      clear hBlt F6 F5 N7 hlist
      revert w s1 script oB oQ oTh oRw oGr0 oTi0 oNa0 NLa oNa TLa oTi Nu oGr nsv tv tl nv xs f oRw2 Td oTh2 zs zs' Jd Wa wv we ps La lu le ord ns6 ls Ld cs Cd Pa pv k mo Dp ys mo2 u h h8 oB2 Ba bs bk
      repeat (rename _ => y; revert y)
      intro hp
      exact hp.go)
theorem ps_pair : ∀ (l : List Str) (p : Str), risingS p l = true → (p :: l).Pairwise (fun a b => ¬ b.cps.toList < a.cps.toList)
  | [], p, _ => List.pairwise_singleton _ _
  | x :: r, p, h => by
    unfold risingS at h
    rw [Bool.and_eq_true] at h
    have ih := ps_pair r x h.2
    have h1 : ¬ x.cps.toList < p.cps.toList := by
      have := h.1
      rw [ltCps_eq] at this
      simpa using this
    refine List.pairwise_cons.mpr ⟨fun y hy => ?_, ih⟩
    rcases List.mem_cons.mp hy with rfl | hy
    · exact h1
    · have h2 := (List.pairwise_cons.mp ih).1 y hy
      exact List.not_lt.mpr (List.le_trans (List.not_lt.mp h1) (List.not_lt.mp h2))
theorem ps_sorted (l : List Str) (h : sortedS l = true) : l.Pairwise (fun a b => ¬ b.cps.toList < a.cps.toList) := by
  cases l with
  | nil => exact .nil
  | cons x r => exact ps_pair r x h
theorem ps_same {a b : List Str} (ha : sortedS a = true) (hb : sortedS b = true) (hp : a.Perm b) : a = b := by
  refine List.Perm.eq_of_pairwise (le := fun a b => ¬ b.cps.toList < a.cps.toList) (fun x y _ _ h1 h2 => ?_) (ps_sorted a ha) (ps_sorted b hb) hp
  have e : x.cps.toList = y.cps.toList := List.le_antisymm (List.not_lt.mp h1) (List.not_lt.mp h2)
  cases x; cases y
  rw [Array.toList_inj] at e
  exact congrArg _ e
theorem ps_carried : ∀ {vs : List Value} {ns : List Str}, StrsAre vs ns → CarriedAll vs (ns.map PyData.str)
  | _, _, .nil => .nil
  | _, _, .cons _ t r => .cons (.str _ t) (ps_carried r)
theorem ps_shaped {ss : List Str} (h : ∀ s ∈ ss, PyData.strOk s = true) : SeqAt.shaped (.list (ss.map PyData.str)) = true := by
  simp only [SeqAt.shaped, PyData.canLay0, PyData.depth, canLayAll_strs', depthAll_strs', Bool.and_eq_true, decide_eq_true_eq]
  exact ⟨List.all_eq_true.mpr h, by decide⟩
section
variable {prog : Program} {w : World} {A : Around} {E : Value → Shared → Prop} {s : Shared} {a b : Addr} {xs ys : List Value} {ss : List Str} {Q : Value → Shared → Prop}
theorem ps_eq (ha : s.heap.IsList a xs.toArray) (hb : s.heap.IsList b ys.toArray) (hi : StrsAre xs ss) (hj : StrsAre ys ss) (ho : ∀ s ∈ ss, PyData.strOk s = true) (hu : A.units + 64 < cLine) (h : Q (.bool true) s) :
    wpAny (model prog w) A (compareOp .Eq (.ref a) (.ref b)) Q E s :=
  eq_dataH_same (reads_newData ha (ps_carried hi)) (reads_newData hb (ps_carried hj)) (ps_shaped ho) (ps_shaped ho) hu (SeqAt.noMix_of_shape (.list .str) rfl _ _ (list_map_has fun _ => rfl) (list_map_has fun _ => rfl)) (by rw [PyProof.Rows.same_refl]; exact h)
end
theorem wrd_ok : ∀ n < 64, PyData.strOk (wrd n) = true := by decide +kernel
theorem few : ((List.range 64).filter fun n => decide (cnt n ≤ 3)).length = 42 := by decide +kernel
theorem left_len {ps : List Int} {f : Nat} {ord : List Nat} (hf : f < 64) (hp : ord.Perm (fl f 6)) (hs : ord.Pairwise (fun i j => plt (key ps j) (key ps i) = false)) : ((tleft ord).map Prod.fst).length ≤ 42 := by
  have h := told_perm hf hp hs
  rw [← h.length_eq, ← few, ← List.countP_eq_length_filter, ← List.countP_eq_length_filter]
  refine List.countP_mono_left fun x hx hq => decide_eq_true (left_bound hp x ?_).1
  exact h.mem_iff.mp (List.mem_filter.mpr ⟨hx, hq⟩)
/-- a set's names -/
noncomputable def wlj (n j : Nat) : List Str := (fl n j).map fun k => names6.getD k (Str.ofString "")
theorem wlj_succ (n j : Nat) : wlj n (j + 1) = wlj n j ++ if n.testBit j then [names6.getD j (Str.ofString "")] else [] := by
  unfold wlj
  rw [fl_succ, List.map_append]
  split <;> rfl
theorem wlj_t : ∀ n < 64, n ≠ 0 → ((((Txt.join (Str.ofString ", ") (wlj n 6)).length : Int) != 0) = true ∧ wrd n = Txt.join (Str.ofString ", ") (wlj n 6)) := by decide +kernel
theorem wlj_0 : (((Txt.join (Str.ofString ", ") (wlj 0 6)).length : Int) != 0) = false ∧ wrd 0 = Str.ofString "0x0" := by decide +kernel
theorem wlj_len : ∀ n < 64, (Txt.join (Str.ofString ", ") (wlj n 6)).length ≤ 16777216 := by decide +kernel
theorem wlj_sum : ∀ n < 64, ((wlj n 6).map (·.length)).sum + (wlj n 6).length * 64 ≤ 16777216 := by decide +kernel
theorem begin_L2R : True := by
  w_top off
  exact True.intro
theorem tell_is {f j : Nat} {l : List Int} (h : (j ||| f == f) = true) : decide ((l.filter fun b => Builtin.bitOr b (j : Int) == (j : Int)) = []) = tellT f l j := by
  unfold tellT
  rw [h, Bool.true_and]
  generalize (l.filter fun b => Builtin.bitOr b (j : Int) == (j : Int)) = l
  cases l <;> rfl
theorem endG : cutF.fst := by
  exact (by
    w_top on
    unhygienic intro
    k_fill
    unhygienic intros
    rename IntsAre bs _ => hbs
    refine Held.out (assign_cellT_range (h₀ := s1.heap) (m := frM F8) (by with_unfolding_all rfl) (by with_unfolding_all rfl) (by intro _; rfl) (by intro _; rfl) (by rfl) (by decide) (by rfl) (by rfl) (by rfl) ?_)
    dsimp only [frM]
    refine stop_in ?_
    k_steps
    refine Stop.mk ?_
    rename Fr _ _ _ _ => F1
    rename News _ _ _ _ => N1
    rename IsRange _ _ _ _ _ _ _ _ => R1
    refine ⟨_, _, _, _, _, _, 64, _, rfl, rfl, F1, N1, R1, by decide, by decide, by rw [sizeLine_eq]; omega, fun j ys mo => LstS mo ys (((List.range j).filter (tellT f (brkI ps f 7))).map fun n => wlj n 6), .nil, ?tn, ?fin⟩
    case tn =>
      rintro g j v ys mo3 I oI oC C D Cc oK m₂ h2 tk2 E' hj ⟨tv5, rfl⟩ hys hNs hdK F2 N2
      generalize hP1 : GTst _ _ _ _ _ _ _ _ _ _ _ _ _ _ _ _ = P1
      revert P1
      refine Held.mk (Held.out ?_)
      intro P1 hP1
      rw [show (0 : Int) + (j : Int) = (j : Int) from Int.zero_add _] at hdK
      simp only [List.cons_append, List.nil_append] at N2 ⊢
      have htl : ((List.range (j + 1)).filter (tellT f (brkI ps f 7))).map (fun n => wlj n 6) = ((List.range j).filter (tellT f (brkI ps f 7))).map (fun n => wlj n 6) ++ ([j].filter (tellT f (brkI ps f 7))).map (fun n => wlj n 6) := by
        rw [List.range_succ, List.filter_append, List.map_append]
      k_steps
      · rename Builtin.bitOr _ _ = _ => hor
        rename IntsAre bs _ => hbs
        rename StrsAre nv _ => hnv
        have hor2 : (j ||| f == f) = true := by
          rw [bitOr_nat] at hor
          rw [beq_iff_eq]
          exact Int.ofNat.inj hor
        refine Held.out ?_
        refine LCt.ListComp_T (cl := [(Str.ofString "number", Cc)]) (F₀ := F2) ?c1 ?c2 ?c3 ?c4 ?c5 ?c6 ?c7
        case c1 => rfl
        case c2 => decide
        case c3 => rfl
        case c4 => decide
        case c5 => rfl
        case c7 => intro _; rfl
        k_steps
        refine Held.out ?_
        have hbl := hbs.length
        have hb7 := brkI_len ps f 7
        refine LCt.CompSrcT.ledger (its := bs.toArray) (k := bk) rfl F2 N2 (show (Ba, listOf bs.toArray bk) ∈ _ from by walk_at "Mine mem") (by rw [List.size_toArray, sizeLine_eq]; omega) ?_
        intro g3
        refine comp_keepT (fun i xs => IntsAre xs (((brkI ps f 7).take i).filter fun b => Builtin.bitOr b (j : Int) == (j : Int))) (.inr ⟨_, (show (Ba, listOf bs.toArray bk) ∈ _ from by walk_at "Mine mem"), rfl, _, rfl⟩) .nil ?t1 ?f1
        case t1 =>
          rintro i v xs' I3 oI3 C3 oC3 D3 m₃ h3 tk3 E3 hi hv3 hxs' hNs3 hmx3 F3 N3
          generalize hP2 : KTst _ _ _ _ _ _ _ _ _ _ _ _ _ = P2
          revert P2
          refine Held.mk (Held.out ?_)
          intro P2 hP2
          obtain ⟨tk4, hve⟩ := hbs.int_at i v (by simpa using hv3)
          rw [List.size_toArray, hbl] at hi
          obtain ⟨b, hb⟩ : ∃ b, (brkI ps f 7)[i] = b := ⟨_, rfl⟩
          have hbg : (brkI ps f 7).getD i 0 = b := by rw [List.getD_eq_getElem?_getD, List.getElem?_eq_getElem hi]; exact hb
          rw [hbg] at hve
          subst hve
          have hti : (brkI ps f 7).take (i + 1) = (brkI ps f 7).take i ++ [b] := by rw [List.take_add_one, List.getElem?_eq_getElem hi, hb]; rfl
          k_steps
          cases hq : (Builtin.bitOr b (j : Int) == (j : Int)) with
          | true =>
            rw [← hP2]
            refine KTst.yes rfl ?_
            k_steps
            refine KEnd.intro F3 N3 (fun p hp => hp) ?_
            rw [hti, List.filter_append, List.filter_cons, hq, if_pos rfl, List.filter_nil]
            exact hxs'.append (.cons _ _ .nil)
          | false =>
            rw [← hP2]
            refine KTst.no rfl F3 N3 (fun p hp => hp) ?_
            rw [hti, List.filter_append, List.filter_cons, hq, if_neg Bool.false_ne_true, List.filter_nil, List.append_nil]
            exact hxs'
        case f1 =>
          intro xs' hxs' Xd h4 tk4 F4 N4 off4
          rw [List.size_toArray, hbl, List.take_length] at hxs'
          k_steps
          refine Held.out ?_
          rename Fr _ _ _ _ => F5
          rename News _ _ _ _ => N5
          refine cmp_ofEq (ke_eq_ints (ms := []) (PySem.IsL.isList (n := xs'.length) (N5 _ (.tail _ (.head _))).1) (PySem.IsL.isList (n := 0) (N5 _ (.head _)).1) hxs' .nil (by ktr_units) ?_)
          rw [tell_is hor2]
          cases hb : tellT f (brkI ps f 7) j with
          | true =>
            k_steps
            rw [← hP1]
            refine GTst.yes rfl ?_
            generalize hP3 : GEnd _ _ _ _ _ _ _ _ _ = P3
            revert P3
            refine Held.mk (Held.out ?_)
            intro P3 hP3
            k_steps
            refine Held.out ?_
            refine LCt.ListComp_T (cl := [(Str.ofString "number", Cc), (Str.ofString "names", s1.heap.objs.size + 1)]) (F₀ := F5) ?d1 ?d2 ?d3 ?d4 ?d5 ?d6 ?d7
            case d1 => rfl
            case d2 => decide
            case d3 => rfl
            case d4 => decide
            case d5 => rfl
            case d7 => intro _; rfl
            k_steps
            refine Held.out ?_
            rename Fr _ _ _ _ => F6
            rename News _ _ _ _ => N6
            rename IsRange _ _ _ _ _ _ _ _ => R6
            refine LCt.CompSrcT.range (n := 6) rfl F6 N6 R6 (by decide) (by decide) (by rw [sizeLine_eq]; omega) ?_
            intro g6
            refine comp_keepT (fun i xs => StrsAre xs (wlj j i)) True.intro .nil ?t2 ?f2
            case t2 =>
              rintro i v xs2 I7 oI7 C7 oC7 D7 m₇ h7 tk7 E7 hi ⟨tw, rfl⟩ hxs2 hNs7 hmx7 F7 N7
              generalize hP4 : KTst _ _ _ _ _ _ _ _ _ _ _ _ _ = P4
              revert P4
              refine Held.mk (Held.out ?_)
              intro P4 hP4
              k_steps
              rw [bit_tst j hj i hi]
              cases hb2 : j.testBit i with
              | false =>
                rw [← hP4]
                refine KTst.no rfl F7 N7 (fun p hp => hp) ?_
                rw [wlj_succ, hb2, if_neg Bool.false_ne_true, List.append_nil]
                exact hxs2
              | true =>
                rw [← hP4]
                refine KTst.yes rfl ?_
                have hvl : nv.length = 6 := hnv.length
                obtain ⟨y, ty, hyv, hy6⟩ := StrsAre.item hnv i _ (List.getElem?_eq_getElem (by omega))
                have hyg : names6.getD i (Str.ofString "") = y := by rw [List.getD_eq_getElem?_getD, hy6]; rfl
                have hup : nv[i]? = some (.str y ty) := by rw [List.getElem?_eq_getElem (by omega), hyv]
                rw [show (0 : Int) + (i : Int) = (i : Int) from Int.zero_add _] at hmx7
                k_steps
                refine Held.out ?_
                refine item_cell (N7 (NLa, listOf nv.toArray 0) (by walk_at "Mine mem")).1 (by omega) (by omega) (by rw [Int.toNat_natCast]; exact hup) ?_
                k_steps
                refine KEnd.intro F7 N7 (fun p hp => hp) ?_
                rw [wlj_succ, if_pos hb2, hyg]
                exact kct_snoc hxs2
            case f2 =>
              intro xs2 hxs2 Wd h8 tk8 F8 N8 off8
              have o8 := off1_memX off8
              rw [← hP3]
              refine GEnd.intro [(Wd, LCg.lst xs2)] F8 N8 (fun p hp => .tail _ (.tail _ (.tail _ hp))) (fun p hp => by rw [List.mem_singleton.mp hp]; exact .head _) (Abv.consN ⟨(o8 (I, oI) (by walk_at "Mine mem")).symm, (o8 (C, oC) (by walk_at "Mine mem")).symm, (o8 (D, LCg.lst ys) (by walk_at "Mine mem")).symm⟩ Abv.nil) ⟨Abv.consN ⟨(o8 (Cc, oK) (by walk_at "Mine mem")).symm, (o8 (Cc, oK) (by walk_at "Mine mem")).symm, (o8 (Cc, oK) (by walk_at "Mine mem")).symm⟩ Abv.nil, ?_⟩
              dsimp only
              rw [htl, List.filter_cons, hb, if_pos rfl, List.filter_nil]
              exact (hys.mono fun p hp => List.mem_append_left _ hp).append (.cons (n := xs2.length) (List.mem_append_right _ (.head _)) hxs2 .nil)
          | false =>
            k_steps
            rw [← hP1]
            refine GTst.no rfl F5 N5 (fun p hp => .tail _ (.tail _ hp)) ?_
            dsimp only
            rw [htl, List.filter_cons, hb, if_neg Bool.false_ne_true, List.filter_nil, List.map_nil, List.append_nil]
            exact hys
      · rename Builtin.bitOr _ _ ≠ _ => hor
        have hb : tellT f (brkI ps f 7) j = false := by
          unfold tellT
          have : (j ||| f == f) = false := by
            rw [beq_eq_false_iff_ne]
            intro e
            exact hor (by rw [bitOr_nat]; exact congrArg Int.ofNat e)
          rw [this, Bool.false_and]
        rw [← hP1]
        refine GTst.no rfl F2 N2 (fun p hp => hp) ?_
        dsimp only
        rw [htl, List.filter_cons, hb, if_neg Bool.false_ne_true, List.filter_nil, List.map_nil, List.append_nil]
        exact hys
    case fin =>
      rintro g ys mo3 hys
      intro Td2 h8 tk8 F9 N9 o9
      simp only [List.cons_append, List.nil_append] at N9
      k_steps
      refine Held.out ?_
      rename StrsAre ls _ => hls
      have hlen := left_len hf hperm hpair
      rw [← hns6] at hlen
      have hlsl2 : ls.length = ns6.length := by have := hls.length; rwa [List.length_map] at this
      refine sorted_N_str F9 N9 (PySem.IsL.isList (n := ls.length) (N9 (Ld, LCg.lst ls) (by walk_at "Mine mem")).1) hls (by omega) fun h9 vs1 ss1 e1 F10 N10 hS1 hp1 hs1 => ?_
      generalize h8.objs.size + 1 = S1 at N10 ⊢
      k_steps
      refine Held.out ?_
      refine LCg.ListComp_U (cl := []) (F₀ := F10) ?e1 ?e2 ?e3 ?e4 ?e5 ?e6 ?e7
      case e1 => rfl
      case e2 => decide
      case e3 => rfl
      case e4 => decide
      case e5 => rfl
      case e7 => intro _; rfl
      k_steps
      refine Held.out ?_
      obtain ⟨tl5, htl5⟩ : ∃ l, l = (List.range 64).filter (tellT f (brkI ps f 7)) := ⟨_, rfl⟩
      rw [← htl5] at hys
      have hyl := hys.length
      rw [List.length_map] at hyl
      have hperm5 := told_perm hf hperm hpair
      rw [← htl5, ← hns6] at hperm5
      have hl5 := hperm5.length_eq
      refine LCg.CompSrc.ledger (its := ys.toArray) (k := ys.length) rfl F10 N10 (show (Td2, LCg.lst ys) ∈ _ from by walk_at "Mine mem") (by rw [List.size_toArray, sizeLine_eq]; omega) ?_
      intro g7
      refine comp_keep (fun j xs => StrsAre xs ((tl5.take j).map wrd)) (.inr ⟨_, (show (Td2, LCg.lst ys) ∈ _ from by walk_at "Mine mem"), rfl, _, rfl⟩) .nil ?t3 ?f3
      case t3 =>
        rintro j v xs2 I5 oI5 C5 oC5 D5 m₅ h7 tk7 E7 hj hv5 hxs2 hNs5 hmx5 F7 N7
        obtain ⟨a, us, n, mk, rfl, hmk, hm, hu⟩ := hys.get (by simpa using hv5)
        rw [List.getElem?_map] at hmk
        obtain ⟨nn, hnn, rfl⟩ := Option.map_eq_some_iff.mp hmk
        have hn64 : nn < 64 := List.mem_range.mp (List.mem_filter.mp (htl5 ▸ List.mem_of_getElem? hnn)).1
        have htk : (tl5.take (j + 1)).map wrd = (tl5.take j).map wrd ++ [wrd nn] := by rw [List.take_add_one, hnn, List.map_append]; rfl
        k_steps
        refine Held.out ?_
        refine join_listC (PySem.IsL.isList (n := n) (N7 (a, listOf us.toArray n) (by walk_at "Mine mem")).1) hu (by decide) (wlj_sum nn hn64) fun t12 k12 => ?_
        k_steps
        by_cases hz : nn = 0
        · subst hz
          refine KXt.truthy wlj_0.1 (wlj_len 0 (by decide)) fun k13 => ?_
          rw [if_neg Bool.false_ne_true]
          k_steps
          show KEnd _ _ _ _ _ _ _ _
          refine KEnd.intro F7 N7 (fun p hp => hp) ?_
          rw [htk, wlj_0.2]
          exact kct_snoc hxs2
        · refine KXt.truthy (wlj_t nn hn64 hz).1 (wlj_len nn hn64) fun k13 => ?_
          rw [if_pos rfl]
          show KEnd _ _ _ _ _ _ _ _
          refine KEnd.intro F7 N7 (fun p hp => hp) ?_
          rw [htk, (wlj_t nn hn64 hz).2]
          exact kct_snoc hxs2
      case f3 =>
        intro xs2 hxs2 Yd h7 tk7 F7 N7 off7
        rw [List.size_toArray, hyl, List.take_length] at hxs2
        have hxl2 := hxs2.length
        rw [List.length_map] at hxl2
        k_steps
        refine Held.out ?_
        refine sorted_N_str F7 N7 (PySem.IsL.isList (n := xs2.length) (N7 _ (.head _)).1) hxs2 (by omega) fun h10 vs2 ss2 e2 F11 N11 hS2 hp2 hs2 => ?_
        have hss : ss2 = ss1 := ps_same hs2 hs1 (hp2.trans ((hperm5.map wrd).trans hp1.symm))
        subst hss
        generalize h7.objs.size + 1 = S2 at N11 ⊢
        k_steps
        refine Held.out ?_
        refine cmp_ofEq (ps_eq (PySem.IsL.isList (n := e1) (N11 (S1, seqObj "list" vs1.toArray e1) (by walk_at "Mine mem")).1) (PySem.IsL.isList (n := e2) (N11 _ (.head _)).1) hS1 hS2 (fun s hs => ?_) (by ktr_units) ?_)
        · obtain ⟨n, hn, rfl⟩ := List.mem_map.mp (hp1.mem_iff.mp hs)
          exact wrd_ok n (by have := (hob n hn).2; omega)
        k_steps)
theorem law2 : PySem.Challenge.rw_un0013_02.Holds :=
  cutA.2 ⟨cutB.2 ⟨cutC.2 ⟨cutD.2 ⟨cutE.2 ⟨cutF.2 ⟨endG⟩⟩⟩⟩⟩⟩
end
end Mine
end

theorem PySem.Challenge.cw_un0013_02_holds : PySem.Challenge.rw_un0013_02.Holds :=
  Mine.law2
