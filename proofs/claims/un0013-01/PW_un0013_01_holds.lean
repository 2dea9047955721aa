import PyProof.Rows.All
import Wide.All
import OpenK.AllK
import Wide.FinOn
import KE.BitLaws
import PyProof.WalksU
import PyProof.Draws
import PyProof.EnumMake
import PySem.Challenge.RW_un0013_01
set_option Elab.async false
section
open PySem PySem.W PySem.Spec PySem.Calls PyProof.Rows
set_option maxRecDepth 100000
namespace Mine

/-- a tuple of two ints, as an object -/
def tup2 (i j : Int) (ti tj : Tok) (n : Nat) : Obj := { cls := .type "tuple", data := .seq #[.int i ti, .int j tj] n }

/-- the ledger bears the pair ps[i] at the value vs[i] -/
inductive Prs (led : List (Addr × Obj)) : List Value → List (Int × Int) → Prop
  | nil : Prs led [] []
  | cons {a : Addr} {i j : Int} {ti tj : Tok} {n : Nat} {vs ps} : (a, tup2 i j ti tj n) ∈ led → Prs led vs ps → Prs led (.ref a :: vs) ((i, j) :: ps)

theorem Prs.length {led vs ps} (h : Prs led vs ps) : vs.length = ps.length := by
  induction h with
  | nil => rfl
  | cons _ _ ih => simp [ih]
theorem Prs.get {led vs ps} (h : Prs led vs ps) : ∀ {k : Nat}, k < ps.length → ∃ a ti tj n, vs[k]? = some (.ref a) ∧ (a, tup2 (ps.getD k (0, 0)).1 (ps.getD k (0, 0)).2 ti tj n) ∈ led := by
  induction h with
  | nil => intro k hk; exact absurd hk (Nat.not_lt_zero _)
  | cons hm _ ih =>
    intro k hk
    cases k with
    | zero => exact ⟨_, _, _, _, rfl, hm⟩
    | succ k => simpa using ih (Nat.lt_of_succ_lt_succ hk)
theorem Prs.set {led vs ps} (h : Prs led vs ps) {a : Addr} {i j : Int} {ti tj : Tok} {n : Nat} (hm : (a, tup2 i j ti tj n) ∈ led) : ∀ k : Nat, Prs led (vs.set k (.ref a)) (ps.set k (i, j)) := by
  induction h with
  | nil => intro k; exact .nil
  | cons hm' hr ih =>
    intro k
    cases k with
    | zero => exact .cons hm hr
    | succ k => exact .cons hm' (ih k)
theorem Prs.mono {led led' vs ps} (h : Prs led vs ps) (hs : ∀ p ∈ led, p ∈ led') : Prs led' vs ps := by
  induction h with
  | nil => exact .nil
  | cons hm _ ih => exact .cons (hs _ hm) ih
theorem Prs.append {led vs ps vs' ps'} (h : Prs led vs ps) (h' : Prs led vs' ps') : Prs led (vs ++ vs') (ps ++ ps') := by
  induction h with
  | nil => exact h'
  | cons hm _ ih => exact .cons hm ih

/-- the order of tuples of two ints -/
def plt (a b : Int × Int) : Bool := decide (a.1 < b.1) || (decide (a.1 = b.1) && decide (a.2 < b.2))

section
variable {prog : Program} {w : World} {A : Around} {E : Value → Shared → Prop} {s : Shared}

theorem tup_typeIs {h : Heap} {a : Addr} {i j : Int} {ti tj : Tok} {n : Nat} {s : Shared} (hs : s.heap = h) (ho : h.get? a = some (tup2 i j ti tj n)) : s.TypeIs (.ref a) "tuple" := by
  subst hs
  exact ⟨_, ho, rfl⟩

theorem lt_tree {a b : Addr} {i j k l : Int} {ti tj tk tl : Tok} {n n' : Nat} {P : Fin → Shared → Prop} (hx : s.heap.get? a = some (tup2 i j ti tj n)) (hy : s.heap.get? b = some (tup2 k l tk tl n'))
    (h : P (.done (.ret (.bool (plt (i, j) (k, l))))) s) :
    wpAny (model prog w) A (Builtin.«tuple.__lt__» ⟨[.ref a, .ref b], []⟩) P E s := by
  have hTb : s.TypeIs (.ref b) "tuple" := tup_typeIs rfl hy
  show wpAny _ _ (isInstance (.ref b) (.type "tuple") >>= _) _ _ s
  refine wpAny_bind (wpAny_isInstance hTb isSubtype_tuple_tuple ?_)
  simp only [Bool.not_true, Bool.false_eq_true, if_false]
  refine wpAny_bind (wpAny_tupleItemsOf hx rfl ?_)
  refine wpAny_bind (wpAny_tupleItemsOf hy rfl ?_)
  simp only [List.zip_cons_cons, List.zip_nil_right, List.forIn_cons, List.forIn_nil]
  refine wpAny_bind (wpAny_bind (wpAny_bind (wpAny_eqBool_int ?_)))
  by_cases h1 : i = k
  · have e1 : (i == k) = true := beq_iff_eq.mpr h1
    rw [e1]
    simp only [Bool.not_true, Bool.false_eq_true, if_false]
    refine wpAny_pure ?_
    refine wpAny_bind (wpAny_bind (wpAny_eqBool_int ?_))
    by_cases h2 : j = l
    · have e2 : (j == l) = true := beq_iff_eq.mpr h2
      rw [e2]
      simp only [Bool.not_true, Bool.false_eq_true, if_false]
      refine wpAny_pure (wpAny_pure (wpAny_pure ?_))
      have e : plt (i, j) (k, l) = false := by simp [plt, h1, h2]
      rw [e] at h
      exact h
    · have e2 : (j == l) = false := beq_eq_false_iff_ne.mpr h2
      rw [e2]
      simp only [Bool.not_false, if_true]
      refine wpAny_bind (wpAny_rule (wpAny_bind (lt_int (wpAny_bind (wpAny_pure (wpAny_pure (wpAny_pure ?_)))))))
      have e : plt (i, j) (k, l) = decide (j < l) := by simp [plt, h1]
      rw [e] at h
      exact wpAny_pure h
  · have e1 : (i == k) = false := beq_eq_false_iff_ne.mpr h1
    rw [e1]
    simp only [Bool.not_false, if_true]
    refine wpAny_bind (wpAny_rule (wpAny_bind (lt_int (wpAny_bind (wpAny_pure (wpAny_pure (wpAny_pure ?_)))))))
    have e : plt (i, j) (k, l) = decide (i < k) := by simp [plt, h1]
    rw [e] at h
    exact wpAny_pure h

theorem lt_tup {a b : Addr} {i j k l : Int} {ti tj tk tl : Tok} {n n' : Nat} {Q : Value → Shared → Prop} (hu : A.units < cLine) (hx : s.heap.get? a = some (tup2 i j ti tj n)) (hy : s.heap.get? b = some (tup2 k l tk tl n'))
    (h : Q (.bool (plt (i, j) (k, l))) s) : wpAny (model prog w) A (compareOp .Lt (.ref a) (.ref b)) Q E s := by
  show wpAny _ _ (richCompare .Lt (.ref a) (.ref b)) Q E s
  exact wpAny_richCompare_same_room (op := .Lt) (tup_typeIs rfl hx) (tup_typeIs rfl hy) F.slot_tuple_lt
    (wpAny_call_entry F.slot_tuple_lt (tup_typeIs rfl hx) F.entry_tuple_lt (lt_tree hx hy ⟨_, rfl, (fun e => nomatch e), h⟩) (F.args_tuple_lt_2 _ _)) hu

/-- an item of a list at an index in bounds -/
theorem item_cell {value slice : PySem.Expr} {l : Addr} {vs : List Value} {n : Nat} {k : Int} {u : Tok} {v : Value} {Q : Value → Shared → Prop}
    (ho : s.heap.get? l = some (listOf vs.toArray n)) (h0 : 0 ≤ k) (hhi : k < 2 ^ 63) (hx : vs[k.toNat]? = some v) (h : Q v s)
    (hs : subscripted slice false (.ref l) (.int k u) = operate [.ref l, .int k u] (getItem (.ref l) (.int k u)) := by with_unfolding_all rfl) :
    wpAny (model prog w) A (subscriptTail value slice (.ref l) (.int k u)) Q E s :=
  have hl : s.heap.IsList l vs.toArray := PySem.IsL.isList (n := n) ho
  tail_any hl.typeIs slot_list_getitem.lookup (wpAny_getItem_list hl h0 hhi (by simpa using hx) h) hs

theorem len_cell {l : Addr} {vs : List Value} {n : Nat} {Q : Value → Shared → Prop} (ho : s.heap.get? l = some (listOf vs.toArray n)) (hfit : (vs.length : Int) < 2 ^ 63)
    (h : Q (.int (vs.length : Int) (s.toks + 1)) { s with toks := s.toks + 1 + 1 }) : wpAny (model prog w) A (call (.builtin "len") [.ref l]) Q E s := by
  have hl : s.heap.IsList l vs.toArray := PySem.IsL.isList (n := n) ho
  have e2 : vs.toArray.size = vs.length := by rw [List.size_toArray]
  exact len_list hl (by rw [e2]; exact hfit) (by rw [e2]; exact h)

theorem set_cell {h₀ : Heap} {L : Addr} {m : Str → Option Value} {news news' : List (Addr × Obj)} {l : Addr} {vs : List Value} {n : Nat} {k : Int} {t : Tok} {v : Value} {Q : Unit → Shared → Prop} (F : Fr h₀ L s.heap m) (N : News h₀ L s.heap news)
    (U : Upd l (listOf vs.toArray n) (listOf (vs.set k.toNat v).toArray n) news news') (h0 : 0 ≤ k) (h1 : k.toNat < vs.length) (hfit : k < 2 ^ 63)
    (h : ∀ h', Fr h₀ L h' m → News h₀ L h' news' → Q () { s with heap := h' }) : wpAny (model prog w) A (setItem (.ref l) (.int k t) v) Q E s := by
  obtain ⟨pre, post, rfl, rfl, a, b⟩ := U.split
  have z := N (l, listOf vs.toArray n) (List.mem_append.mpr (.inr (.head _)))
  have hs : vs.toArray.size = vs.length := by rw [List.size_toArray]
  refine ki_setAt z.1 h0 hfit (by rw [hs]; omega) (h _ (F.change (Heap.SameBut.update ..) z.2.1 z.2.2) (ki_turn _ N a b ?_ ?_))
  · show vs.toArray.setIfInBounds k.toNat v = (vs.set k.toNat v).toArray
    apply Array.toList_inj.mp
    simp
  · simp
end
end Mine
end

section
namespace Mine

theorem plt_trans {a b c : Int × Int} (h1 : plt b a = false) (h2 : plt c b = false) : plt c a = false := by
  simp only [plt, Bool.or_eq_false_iff, Bool.and_eq_false_iff, decide_eq_false_iff_not] at *
  omega
theorem plt_irr (a : Int × Int) : plt a a = false := by simp [plt]
theorem plt_asymm {a b : Int × Int} (h : plt a b = true) : plt b a = false := by
  simp only [plt, Bool.or_eq_true, Bool.and_eq_true, decide_eq_true_eq, Bool.or_eq_false_iff, Bool.and_eq_false_iff, decide_eq_false_iff_not] at *
  omega
theorem plt_antisymm {a b : Int × Int} (h : plt a b = false) (h' : plt b a = false) : a = b := by
  obtain ⟨a1, a2⟩ := a
  obtain ⟨b1, b2⟩ := b
  simp only [plt, Bool.or_eq_false_iff, Bool.and_eq_false_iff, decide_eq_false_iff_not] at *
  have : a1 = b1 := by omega
  have : a2 = b2 := by omega
  simp_all

abbrev G (ps : List (Int × Int)) (i : Nat) : Int × Int := ps.getD i (0, 0)
theorem G_set {ps : List (Int × Int)} {i j : Nat} {x : Int × Int} (hi : i < ps.length) : G (ps.set i x) j = if i = j then x else G ps j := by
  simp only [G, List.getD_eq_getElem?_getD, List.getElem?_set]
  by_cases h : i = j
  · subst h; simp [hi]
  · simp [h]
theorem G_append_left {ps qs : List (Int × Int)} {i : Nat} (h : i < ps.length) : G (ps ++ qs) i = G ps i := by
  simp [G, List.getD_eq_getElem?_getD, List.getElem?_append_left h]

def Ch (i j : Nat) : Prop := j = 2 * i + 1 ∨ j = 2 * i + 2
inductive Desc (s : Nat) : Nat → Prop
  | refl : Desc s s
  | step {p j : Nat} : Desc s p → Ch p j → Desc s j
theorem Desc.le {s p : Nat} (h : Desc s p) : s ≤ p := by
  induction h with
  | refl => exact Nat.le_refl _
  | step _ hc ih => rcases hc with h | h <;> omega
theorem Desc.parent {s p : Nat} (h : Desc s p) (hn : p ≠ s) : Desc s ((p - 1) / 2) ∧ Ch ((p - 1) / 2) p := by
  cases h with
  | refl => exact absurd rfl hn
  | @step q _ hq hc =>
    have e : (p - 1) / 2 = q := by rcases hc with h | h <;> omega
    rw [e]
    exact ⟨hq, hc⟩

def HeapFrom (s : Nat) (ps : List (Int × Int)) : Prop := ∀ i j, s ≤ i → Ch i j → j < ps.length → plt (G ps j) (G ps i) = false

structure HoleUp (s : Nat) (ps : List (Int × Int)) (pos : Nat) (x : Int × Int) : Prop where
  desc : Desc s pos
  lt : pos < ps.length
  rest : ∀ i j, s ≤ i → Ch i j → j < ps.length → i ≠ pos → j ≠ pos → plt (G ps j) (G ps i) = false
  below : ∀ j, Ch pos j → j < ps.length → plt (G ps j) x = false
  over : ∀ p j, s ≤ p → Ch p pos → Ch pos j → j < ps.length → plt (G ps j) (G ps p) = false

theorem ch_par {p q j : Nat} (h : Ch p j) (h' : Ch q j) : p = q := by
  rcases h with h | h <;> rcases h' with h' | h' <;> omega

theorem HoleUp.up {s pos p : Nat} {ps : List (Int × Int)} {x : Int × Int} (h : HoleUp s ps pos x) (hn : pos ≠ s) (hp : p = (pos - 1) / 2) (hx : plt x (G ps p) = true) :
    HoleUp s (ps.set pos (G ps p)) p x := by
  obtain ⟨hd, hc⟩ := h.desc.parent hn
  rw [← hp] at hd hc
  have hl := h.lt
  have hsp : s ≤ p := hd.le
  have hpp : p < pos := by rcases hc with e | e <;> omega
  refine ⟨hd, by rw [List.length_set]; omega, ?_, ?_, ?_⟩
  · intro i j hi hij hj hip hjp
    rw [List.length_set] at hj
    rw [G_set hl, G_set hl]
    by_cases e1 : pos = j
    · subst e1
      exact absurd (ch_par hij hc) hip
    · rw [if_neg e1]
      by_cases e2 : pos = i
      · subst e2
        rw [if_pos rfl]
        exact h.over p j hsp hc hij hj
      · rw [if_neg e2]
        exact h.rest i j hi hij hj (Ne.symm e2) (Ne.symm e1)
  · intro j hj hjl
    rw [List.length_set] at hjl
    rw [G_set hl]
    by_cases e1 : pos = j
    · rw [if_pos e1]
      exact plt_asymm hx
    · rw [if_neg e1]
      exact plt_trans (plt_asymm hx) (h.rest p j hsp hj hjl (Nat.ne_of_lt hpp) (Ne.symm e1))
  · intro g j hg hgp hpj hj
    rw [List.length_set] at hj
    have hgl : g < p := by rcases hgp with e | e <;> omega
    have r1 : plt (G ps p) (G ps g) = false := h.rest g p hg hgp (by omega) (by omega) (by omega)
    rw [G_set hl, G_set hl]
    rw [if_neg (show ¬ pos = g by omega)]
    by_cases e1 : pos = j
    · rw [if_pos e1]
      exact r1
    · rw [if_neg e1]
      exact plt_trans r1 (h.rest p j hsp hpj hj (Nat.ne_of_lt hpp) (Ne.symm e1))

theorem HoleUp.fin {s pos : Nat} {ps : List (Int × Int)} {x : Int × Int} (h : HoleUp s ps pos x) (he : pos = s ∨ plt x (G ps ((pos - 1) / 2)) = false) : HeapFrom s (ps.set pos x) := by
  intro i j hi hij hj
  rw [List.length_set] at hj
  have hl := h.lt
  rw [G_set hl, G_set hl]
  by_cases e2 : pos = i
  · subst e2
    rw [if_neg (show ¬ pos = j by rcases hij with e | e <;> omega), if_pos rfl]
    exact h.below j hij hj
  · rw [if_neg e2]
    by_cases e1 : pos = j
    · subst e1
      rw [if_pos rfl]
      rcases he with he | he
      · exfalso
        rcases hij with e | e <;> omega
      · have : (pos - 1) / 2 = i := by rcases hij with e | e <;> omega
        rw [this] at he
        exact he
    · rw [if_neg e1]
      exact h.rest i j hi hij hj (Ne.symm e2) (Ne.symm e1)

structure HoleDn (s : Nat) (ps : List (Int × Int)) (pos : Nat) : Prop where
  desc : Desc s pos
  lt : pos < ps.length
  heap : HeapFrom (s + 1) ps
  top : pos ≠ s → HeapFrom s ps

theorem HoleDn.down {s pos c : Nat} {ps : List (Int × Int)} (h : HoleDn s ps pos) (hc : Ch pos c) (hcl : c < ps.length) (hmin : ∀ j, Ch pos j → j < ps.length → plt (G ps j) (G ps c) = false) :
    HoleDn s (ps.set pos (G ps c)) c := by
  have hl := h.lt
  have hsp := h.desc.le
  have hpc : pos < c := by rcases hc with e | e <;> omega
  have key : HeapFrom s (ps.set pos (G ps c)) := by
    intro i j hi hij hj
    rw [List.length_set] at hj
    rw [G_set hl, G_set hl]
    by_cases e2 : pos = i
    · subst e2
      rw [if_neg (show ¬ pos = j by rcases hij with e | e <;> omega), if_pos rfl]
      exact hmin j hij hj
    · rw [if_neg e2]
      by_cases e1 : pos = j
      · subst e1
        rw [if_pos rfl]
        have hps : pos ≠ s := by rcases hij with e | e <;> omega
        have H := h.top hps
        exact plt_trans (H i pos hi hij hl) (H pos c hsp hc hcl)
      · rw [if_neg e1]
        by_cases hps : pos = s
        · exact h.heap i j (by omega) hij hj
        · exact h.top hps i j hi hij hj
  refine ⟨.step h.desc hc, by rw [List.length_set]; exact hcl, fun i j hi => key i j (by omega), fun _ => key⟩

theorem HoleDn.leaf {s pos : Nat} {ps : List (Int × Int)} {x : Int × Int} (h : HoleDn s ps pos) (hle : ps.length ≤ 2 * pos + 1) : HoleUp s (ps.set pos x) pos x := by
  have hl := h.lt
  refine ⟨h.desc, by rw [List.length_set]; exact hl, ?_, ?_, ?_⟩
  · intro i j hi hij hj hip hjp
    rw [List.length_set] at hj
    rw [G_set hl, G_set hl, if_neg (Ne.symm hip), if_neg (Ne.symm hjp)]
    by_cases hps : pos = s
    · exact h.heap i j (by omega) hij hj
    · exact h.top hps i j hi hij hj
  · intro j hj hjl
    rw [List.length_set] at hjl
    rcases hj with e | e <;> omega
  · intro p j _ _ hj hjl
    rw [List.length_set] at hjl
    rcases hj with e | e <;> omega

theorem perm_swap_set {ps : List (Int × Int)} {i j : Nat} {x : Int × Int} (hi : i < ps.length) (hj : j < ps.length) (hij : i ≠ j) : ((ps.set i (G ps j)).set j x).Perm (ps.set i x) := by
  rw [List.perm_iff_count]
  intro a
  have ej : G ps j = ps[j] := by simp [G, List.getD_eq_getElem?_getD, hj]
  rw [List.count_set (by rw [List.length_set]; exact hj), List.count_set hi, List.count_set hi, List.getElem_set_ne hij, ej]
  have c1 : (if (ps[i] == a) = true then 1 else 0) ≤ ps.count a := by
    split
    · rename_i h
      have := beq_iff_eq.mp h
      exact List.count_pos_iff.mpr (this ▸ List.getElem_mem hi)
    · exact Nat.zero_le _
  generalize hA : (if (ps[i] == a) = true then 1 else 0) = A at *
  generalize hB : (if (ps[j] == a) = true then 1 else 0) = B at *
  generalize (if (x == a) = true then 1 else 0) = C at *
  omega
theorem set_self {ps : List (Int × Int)} {i : Nat} (hi : i < ps.length) : ps.set i (G ps i) = ps := by
  have ej : G ps i = ps[i] := by simp [G, List.getD_eq_getElem?_getD, hi]
  rw [ej, List.set_getElem_self]
theorem HeapFrom.mono {s t : Nat} {ps : List (Int × Int)} (h : HeapFrom s ps) (hst : s ≤ t) : HeapFrom t ps := fun i j hi => h i j (by omega)
theorem heap_root {ps : List (Int × Int)} (h : HeapFrom 0 ps) : ∀ k, k < ps.length → plt (G ps k) (G ps 0) = false := by
  intro k
  induction k using Nat.strongRecOn with
  | ind k ih =>
    intro hk
    by_cases h0 : k = 0
    · subst h0; exact plt_irr _
    · have hc : Ch ((k - 1) / 2) k := by unfold Ch; omega
      exact plt_trans (ih ((k - 1) / 2) (by omega) (by omega)) (h _ k (Nat.zero_le _) hc hk)
theorem heap_root_mem {ps : List (Int × Int)} (h : HeapFrom 0 ps) {q : Int × Int} (hq : q ∈ ps) : plt q (G ps 0) = false := by
  obtain ⟨k, hk, rfl⟩ := List.getElem_of_mem hq
  have := heap_root h k hk
  have ek : G ps k = ps[k] := by simp [G, List.getD_eq_getElem?_getD, hk]
  rw [ek] at this
  exact this
end Mine
end

section
open PySem PySem.W PySem.Spec PySem.Calls PyProof.Rows
set_option maxRecDepth 100000
namespace Mine

/-- the walk stops here -/
def Held (P : Prop) : Prop := P
theorem Held.mk {P : Prop} (h : Held P) : P := h
theorem Held.out {P : Prop} (h : P) : Held P := h

/-- a frame of which just these names are known -/
def fmap (u : Str → Option Value) : List (Str × Value) → Str → Option Value
  | [] => u
  | p :: r => fun z => if z = p.1 then some p.2 else fmap u r z
theorem fmap_eq {m : Str → Option Value} : ∀ {ps : List (Str × Value)}, (∀ p ∈ ps, m p.1 = some p.2) → fmap m ps = m
  | [], _ => rfl
  | p :: r, h => by
    funext z
    show (if z = p.1 then some p.2 else fmap m r z) = m z
    by_cases e : z = p.1
    · rw [if_pos e, e]
      exact (h p (.head _)).symm
    · rw [if_neg e, fmap_eq fun q hq => h q (.tail _ hq)]

/-- where a loop's turn, or a loop, ends: a state c of my own, its ledger and its names -/
def LEnd {σ : Type} (h₀ : Heap) (L : Addr) (s : Shared) (Led : σ → List (Addr × Obj)) (ps : σ → List (Str × Value)) (Post : σ → Prop) (s₂ : Shared) : Prop :=
  ∃ (c : σ) (h : Heap) (tk : Nat) (m' : Str → Option Value) (news' : List (Addr × Obj)), s₂ = { s with heap := h, toks := tk } ∧ Fr h₀ L h m' ∧ News h₀ L h news' ∧ (∀ p ∈ Led c, p ∈ news') ∧ (∀ p ∈ ps c, m' p.1 = some p.2) ∧ Post c
theorem LEnd.intro {σ : Type} {h₀ : Heap} {L : Addr} {s : Shared} {Led : σ → List (Addr × Obj)} {ps : σ → List (Str × Value)} {Post : σ → Prop} (c : σ) {h : Heap} {tk : Nat} {m' : Str → Option Value} {news' : List (Addr × Obj)}
    (F : Fr h₀ L h m') (N : News h₀ L h news') (hp : Post c) (hn : ∀ p ∈ Led c, p ∈ news') (hk : ∀ p ∈ ps c, m' p.1 = some p.2) :
    LEnd h₀ L s Led ps Post { s with heap := h, toks := tk } := ⟨c, h, tk, m', news', rfl, F, N, hn, hk, hp⟩

/-- what the end of a turn owes -/
def TEnd {σ : Type} (h₀ : Heap) (L : Addr) (s : Shared) (Led : σ → List (Addr × Obj)) (ps : σ → List (Str × Value)) (Nxt Fin : σ → Prop) (Q : Flow → Shared → Prop) (f : Flow) (s₂ : Shared) : Prop :=
  match f with
  | .ret v => Q (.ret v) s₂
  | .brk => LEnd h₀ L s Led ps Fin s₂
  | .next => LEnd h₀ L s Led ps Nxt s₂
  | .cont => LEnd h₀ L s Led ps Nxt s₂

section
variable {prog : Program} {w : World} {A : Around} {E : Value → Shared → Prop} {Q : Flow → Shared → Prop} {s : Shared} {env : Env} {h₀ : Heap} {L : Addr}

theorem LEnd.done {σ : Type} {Led : σ → List (Addr × Obj)} {ps : σ → List (Str × Value)} {Fin : σ → Prop}
    (done : ∀ (c : σ) (u : Str → Option Value) h tk, Fin c → Fr h₀ L h (fmap u (ps c)) → News h₀ L h (Led c) → Q .next { s with heap := h, toks := tk })
    {s₂ : Shared} (h : LEnd h₀ L s Led ps Fin s₂) : Q .next s₂ := by
  obtain ⟨c, h, tk, m', news', rfl, F', N', hn, hk, hp⟩ := h
  exact done c m' h tk hp (by rw [fmap_eq hk]; exact F') fun p hp => N' p (hn p hp)

/-- a while by a state of my own; both ways out meet -/
theorem whileL {σ : Type} {test : PySem.Expr} {body : List Stmt} {pos : Pos} {m₀ : Str → Option Value} (Led : σ → List (Addr × Obj)) (ps : σ → List (Str × Value)) (Inv Fin : σ → Prop) (μ : σ → Nat) (c₀ : σ)
    (F : Fr h₀ L s.heap m₀) (N : News h₀ L s.heap (Led c₀)) (hi : Inv c₀) (hk : ∀ p ∈ ps c₀, m₀ p.1 = some p.2)
    (turn : ∀ (c : σ) (u : Str → Option Value) h tk, Inv c → Fr h₀ L h (fmap u (ps c)) → News h₀ L h (Led c) →
      wpAny (model prog w) A (isTrue test env (eval test env)) (fun b s₂ =>
        if b = true then wpAny (model prog w) A (execs body env) (TEnd h₀ L s Led ps (fun c' => Inv c' ∧ μ c' < μ c) Fin Q) E s₂ else LEnd h₀ L s Led ps Fin s₂) E { s with heap := h, toks := tk })
    (done : ∀ (c : σ) (u : Str → Option Value) h tk, Fin c → Fr h₀ L h (fmap u (ps c)) → News h₀ L h (Led c) → Q .next { s with heap := h, toks := tk })
    (hE : PassesOwn (model prog w) A env E := by passes_own) :
    wpAny (model prog w) A (exec (.While test body [] pos) env) Q E s := by
  refine While_inv2 (fun n m nx => ∃ c : σ, nx = Led c ∧ μ c = n ∧ Inv c ∧ (∀ p ∈ ps c, m p.1 = some p.2)) F N ⟨c₀, rfl, rfl, hi, hk⟩ ?_ hE
  rintro n m₁ nx h tk F₁ N₁ ⟨c, rfl, rfl, hi', hk'⟩
  refine wpAny_mono (turn c m₁ h tk hi' (by rw [fmap_eq hk']; exact F₁) N₁) (fun b s₂ p => ?_) fun _ _ x => x
  cases b with
  | false =>
    simp only [Bool.false_eq_true, if_false] at p ⊢
    exact p.done done
  | true =>
    simp only [if_true] at p ⊢
    refine wpAny_mono p (fun f s₃ q => ?_) fun _ _ x => x
    cases f with
    | ret v => exact q
    | brk => exact LEnd.done done q
    | next =>
      obtain ⟨c', h', tk', m', news', rfl, F', N', hn, hk', hp, hm⟩ := q
      exact ⟨h', tk', m', Led c', μ c', rfl, F', fun p hp => N' p (hn p hp), hm, c', rfl, rfl, hp, hk'⟩
    | cont =>
      obtain ⟨c', h', tk', m', news', rfl, F', N', hn, hk', hp, hm⟩ := q
      exact ⟨h', tk', m', Led c', μ c', rfl, F', fun p hp => N' p (hn p hp), hm, c', rfl, rfl, hp, hk'⟩
end
end Mine
end

section
open PySem PySem.W PySem.Spec PySem.Calls PyProof.Rows
set_option maxRecDepth 100000
namespace Mine

/-- a for's loop at its iterator -/
def LoopHere (prog : Program) (w : World) (A : Around) (E : Value → Shared → Prop) (env : Env) (target : PySem.Expr) (body orelse : List Stmt) (Q : Flow → Shared → Prop) (it : Value) (s₂ : Shared) : Prop :=
  codeAny (model prog w) A (.forLoop target it body orelse env) (fun r s' => match r with | .ok f => Q f s' | .error e => cameBackBy (model prog w) A env E e s') s₂

section
variable {prog : Program} {w : World} {A : Around} {E : Value → Shared → Prop} {Q : Flow → Shared → Prop} {s : Shared} {env : Env} {h₀ : Heap} {L : Addr}

theorem for_held {target iter : PySem.Expr} {body orelse : List Stmt} {pos : Pos}
    (h : wpAny (model prog w) A (eval iter env) (fun x s₁ => Held (wpAny (model prog w) A (pyIter x) (fun it s₂ => LoopHere prog w A E env target body orelse Q it s₂) E s₁)) E s)
    (hs : ∀ x, foldedSetIterable iter env x = pure x) :
    wpAny (model prog w) A (exec (.For target iter body orelse pos) env) Q E s := wpAny_For h hs

/-- where a for's turn ends -/
def FEnd {σ : Type} (h₀ : Heap) (L : Addr) (s : Shared) (Led : σ → List (Addr × Obj)) (ps : σ → List (Str × Value)) (own : Addr × Obj) (Post : σ → Prop) (s₂ : Shared) : Prop :=
  ∃ (c : σ) (h : Heap) (tk : Nat) (m' : Str → Option Value) (news' : List (Addr × Obj)), s₂ = { s with heap := h, toks := tk } ∧ Fr h₀ L h m' ∧ News h₀ L h news' ∧ own ∈ news' ∧ (∀ p ∈ Led c, p ∈ news') ∧ (∀ p ∈ Led c, p.1 ≠ own.1) ∧ (∀ p ∈ ps c, m' p.1 = some p.2) ∧ Post c
theorem FEnd.intro {σ : Type} {s : Shared} {Led : σ → List (Addr × Obj)} {ps : σ → List (Str × Value)} {own : Addr × Obj} {Post : σ → Prop} (c : σ) {h : Heap} {tk : Nat} {m' : Str → Option Value} {news' : List (Addr × Obj)}
    (F : Fr h₀ L h m') (N : News h₀ L h news') (hp : Post c) (ho : own ∈ news') (hn : ∀ p ∈ Led c, p ∈ news') (ha : ∀ p ∈ Led c, p.1 ≠ own.1) (hk : ∀ p ∈ ps c, m' p.1 = some p.2) :
    FEnd h₀ L s Led ps own Post { s with heap := h, toks := tk } := ⟨c, h, tk, m', news', rfl, F, N, ho, hn, ha, hk, hp⟩

def FTEnd {σ : Type} (h₀ : Heap) (L : Addr) (s : Shared) (Led : σ → List (Addr × Obj)) (ps : σ → List (Str × Value)) (own : Addr × Obj) (Nxt Fin : σ → Prop) (Q : Flow → Shared → Prop) (f : Flow) (s₂ : Shared) : Prop :=
  match f with
  | .ret v => Q (.ret v) s₂
  | .brk => LEnd h₀ L s Led ps Fin s₂
  | .next => FEnd h₀ L s Led ps own Nxt s₂
  | .cont => FEnd h₀ L s Led ps own Nxt s₂
def ElseEnd {σ : Type} (h₀ : Heap) (L : Addr) (s : Shared) (Led : σ → List (Addr × Obj)) (ps : σ → List (Str × Value)) (Fin : σ → Prop) (Q : Flow → Shared → Prop) (f : Flow) (s₂ : Shared) : Prop :=
  match f with
  | .next => LEnd h₀ L s Led ps Fin s₂
  | .brk => Q .brk s₂
  | .cont => Q .cont s₂
  | .ret v => Q (.ret v) s₂

theorem forG {σ : Type} {target : PySem.Expr} {body orelse : List Stmt} {I : Addr} {fp : List Addr} {n : Nat} {P : Nat → Value → Prop} {St : Nat → Heap → Prop} {m₀ : Str → Option Value}
    (Led : σ → List (Addr × Obj)) (ps : σ → List (Str × Value)) (Inv : Nat → σ → Prop) (Fin : σ → Prop) (c₀ : σ)
    (W : Walks prog w A I fp [I] n P St) (hst : St 0 s.heap) (hI0 : h₀.get? I = none) (hIL : I ≠ L) (hoI : ∀ i h, St i h → ∃ o, h.get? I = some o)
    (hfp : ∀ b ∈ fp, b = I ∨ (∃ o, h₀.get? b = some o) ∨ (∃ o, ∀ i c, Inv i c → (b, o) ∈ Led c)) (hnI : ∀ p ∈ Led c₀, p.1 ≠ I)
    (F : Fr h₀ L s.heap m₀) (N : News h₀ L s.heap (Led c₀)) (hi : Inv 0 c₀) (hk : ∀ p ∈ ps c₀, m₀ p.1 = some p.2)
    (turn : ∀ i v (c : σ) (u : Str → Option Value) h tk oI, i < n → P i v → Inv i c → (∀ p ∈ Led c, p.1 ≠ I) → Fr h₀ L h (fmap u (ps c)) → News h₀ L h (Led c ++ [(I, oI)]) →
      wpAny (model prog w) A (assign target env v) (fun _ s₂ => wpAny (model prog w) A (execs body env) (FTEnd h₀ L s Led ps (I, oI) (Inv (i + 1)) Fin Q) E s₂) E { s with heap := h, toks := tk })
    (els : ∀ (c : σ) (u : Str → Option Value) h tk, Inv n c → Fr h₀ L h (fmap u (ps c)) → News h₀ L h (Led c) → wpAny (model prog w) A (execs orelse env) (ElseEnd h₀ L s Led ps Fin Q) E { s with heap := h, toks := tk })
    (done : ∀ (c : σ) (u : Str → Option Value) h tk, Fin c → Fr h₀ L h (fmap u (ps c)) → News h₀ L h (Led c) → Q .next { s with heap := h, toks := tk })
    (ht : ∀ v, letOwnedTupleGo target (.ref I) v = pure ()) (hE : PassesOwn (model prog w) A env E) :
    LoopHere prog w A E env target body orelse Q (.ref I) s := by
  refine codeAny_forLoop (fun k s' => ∃ i c h' tk m', s' = { s with heap := h', toks := tk } ∧ St i h' ∧ Fr h₀ L h' m' ∧ News h₀ L h' (Led c) ∧ (∀ p ∈ Led c, p.1 ≠ I) ∧ (∀ p ∈ ps c, m' p.1 = some p.2) ∧ Inv i c ∧ i ≤ n ∧ k = n + 1 - i) ?_ (n + 1)
    ⟨0, c₀, s.heap, s.toks, m₀, rfl, hst, F, N, hnI, hk, hi, Nat.zero_le _, rfl⟩ ht
  rintro k s' ⟨i, c, h', tk, m', rfl, hst', F', N', hnI', hk', hi', hin, rfl⟩
  have next : ∀ h₁ : Heap, (∀ b o, b ∉ [I] → h'.get? b = some o → h₁.get? b = some o) → Fr h₀ L h₁ m' ∧ News h₀ L h₁ (Led c) := fun h₁ hk₁ =>
    ⟨⟨F'.ns.at' fun o e => hk₁ _ o (fun hm => hIL (List.mem_singleton.mp hm).symm) e, fun b o e => hk₁ b o (fun hm => by rw [List.mem_singleton.mp hm, hI0] at e; cases e) (F'.keep b o e), F'.above⟩,
      fun p hp => ⟨hk₁ _ _ (fun hm => hnI' p hp (List.mem_singleton.mp hm)) (N' p hp).1, (N' p hp).2⟩⟩
  by_cases hlt : i < n
  · refine W.item i _ _ _ hlt hst' fun v h₁ tk₁ hP hst₁ hk₁ => ?_
    obtain ⟨F₁, N₁⟩ := next h₁ hk₁
    obtain ⟨oI, hoI₁⟩ := hoI _ _ hst₁
    have N₂ : News h₀ L h₁ (Led c ++ [(I, oI)]) := fun p hp => (List.mem_append.mp hp).elim (N₁ p) fun hp => by
      rw [List.mem_singleton.mp hp]
      exact ⟨hoI₁, hIL, hI0⟩
    refine wpAny_mono (turn i v c m' h₁ tk₁ oI hlt hP hi' hnI' (by rw [fmap_eq hk']; exact F₁) N₂) (fun _ s₂ h₂ => ?_) hE
    refine wpAny_mono h₂ (fun f s₃ h₃ => ?_) hE
    have fin : FEnd h₀ L s Led ps (I, oI) (Inv (i + 1)) s₃ → ∃ m, m < n + 1 - i ∧ ∃ i c h' tk m', s₃ = { s with heap := h', toks := tk } ∧ St i h' ∧ Fr h₀ L h' m' ∧ News h₀ L h' (Led c) ∧ (∀ p ∈ Led c, p.1 ≠ I) ∧ (∀ p ∈ ps c, m' p.1 = some p.2) ∧ Inv i c ∧ i ≤ n ∧ m = n + 1 - i := by
      rintro ⟨c', h₃', tk₃, m₃, news₃, rfl, F₃, N₃, ho₃, hl₃, hne₃, hk₃, hi₃⟩
      refine ⟨n + 1 - (i + 1), by omega, i + 1, c', h₃', tk₃, m₃, rfl, ?_, F₃, fun p hp => N₃ p (hl₃ p hp), hne₃, hk₃, hi₃, hlt, rfl⟩
      refine W.frame _ _ _ hst₁ fun b hb o e => ?_
      rcases hfp b hb with rfl | ⟨o₀, h0⟩ | ⟨o₁, hled⟩
      · rw [hoI₁] at e
        cases e
        exact (N₃ _ ho₃).1
      · have := F₁.keep b o₀ h0
        rw [e] at this
        cases this
        exact F₃.keep b _ h0
      · have := (N₁ _ (hled i c hi')).1
        rw [e] at this
        cases this
        exact (N₃ _ (hl₃ _ (hled _ _ hi₃))).1
    cases f with
    | ret v => exact h₃
    | brk => exact LEnd.done done h₃
    | next => exact fin h₃
    | cont => exact fin h₃
  · have hin' : i = n := by omega
    subst hin'
    refine W.done _ _ _ hst' fun h₁ tk₁ hk₁ => ?_
    obtain ⟨F₁, N₁⟩ := next h₁ hk₁
    refine wpAny_mono (els c m' h₁ tk₁ hi' (by rw [fmap_eq hk']; exact F₁) N₁) (fun f s₃ h₃ => ?_) hE
    cases f with
    | next => exact LEnd.done done h₃
    | brk => exact h₃
    | cont => exact h₃
    | ret v => exact h₃

/-- a for with one name: the turn begins behind the store -/
theorem forN {σ : Type} {x : Str} {px : Pos} {body orelse : List Stmt} {I : Addr} {fp : List Addr} {n : Nat} {P : Nat → Value → Prop} {St : Nat → Heap → Prop} {m₀ : Str → Option Value}
    (Led : σ → List (Addr × Obj)) (ps : σ → List (Str × Value)) (Inv : Nat → σ → Prop) (Fin : σ → Prop) (c₀ : σ)
    (W : Walks prog w A I fp [I] n P St) (hst : St 0 s.heap) (hI0 : h₀.get? I = none) (hIL : I ≠ env.locals) (hoI : ∀ i h, St i h → ∃ o, h.get? I = some o)
    (hfp : ∀ b ∈ fp, b = I ∨ (∃ o, h₀.get? b = some o) ∨ (∃ o, ∀ i c, Inv i c → (b, o) ∈ Led c)) (hnI : ∀ p ∈ Led c₀, p.1 ≠ I)
    (F : Fr h₀ env.locals s.heap m₀) (N : News h₀ env.locals s.heap (Led c₀)) (hi : Inv 0 c₀) (hk : ∀ p ∈ ps c₀, m₀ p.1 = some p.2)
    (turn : ∀ i v (c : σ) (u : Str → Option Value) h tk oI, i < n → P i v → Inv i c → (∀ p ∈ Led c, p.1 ≠ I) → Fr h₀ env.locals h (fun y => if y = x then some v else fmap u (ps c) y) → News h₀ env.locals h (Led c ++ [(I, oI)]) →
      wpAny (model prog w) A (execs body env) (FTEnd h₀ env.locals s Led ps (I, oI) (Inv (i + 1)) Fin Q) E { s with heap := h, toks := tk })
    (els : ∀ (c : σ) (u : Str → Option Value) h tk, Inv n c → Fr h₀ env.locals h (fmap u (ps c)) → News h₀ env.locals h (Led c) → wpAny (model prog w) A (execs orelse env) (ElseEnd h₀ env.locals s Led ps Fin Q) E { s with heap := h, toks := tk })
    (done : ∀ (c : σ) (u : Str → Option Value) h tk, Fin c → Fr h₀ env.locals h (fmap u (ps c)) → News h₀ env.locals h (Led c) → Q .next { s with heap := h, toks := tk })
    (hx : env.kindOf x = some .local) (hp : (env.scope.kind == .class || (env.scope.kind == .module && env.locals != env.globals)) = false) (hE : PassesOwn (model prog w) A env E) :
    LoopHere prog w A E env (.Name x px) body orelse Q (.ref I) s := by
  refine forG Led ps Inv Fin c₀ W hst hI0 hIL hoI hfp hnI F N hi hk ?_ els done (fun _ => rfl) hE
  intro i v c u h tk oI hin hP hi' hne F₁ N₁
  refine wpAny_assign_Name (wpAny_storeName_local hx F₁.ns (fun h₂ hn₂ hs₂ => ?_) hp)
  exact turn i v c u h₂ _ oI hin hP hi' hne (F₁.set hn₂ hs₂) (N₁.set hs₂)

/-- no else -/
theorem els_nil {σ : Type} {Led : σ → List (Addr × Obj)} {ps : σ → List (Str × Value)} {Fin : σ → Prop} {c : σ} {u : Str → Option Value} {h : Heap} {tk : Nat} (hf : Fin c) (F : Fr h₀ L h (fmap u (ps c))) (N : News h₀ L h (Led c)) (hk : ∀ p ∈ ps c, fmap u (ps c) p.1 = some p.2) :
    wpAny (model prog w) A (execs [] env) (ElseEnd h₀ L s Led ps Fin Q) E { s with heap := h, toks := tk } :=
  wpAny_execs_nil (LEnd.intro c F N hf (fun _ h => h) hk)
end
end Mine
end

section
open PySem PySem.W PySem.Spec PySem.Calls PyProof.Rows
set_option maxRecDepth 100000
namespace Mine

section
variable {prog : Program} {w : World} {A : Around} {E : Value → Shared → Prop} {Q : Flow → Shared → Prop} {s : Shared} {env : Env} {h₀ : Heap} {L : Addr}

/-- over a range by ones -/
theorem for_range {σ : Type} {x : Str} {px : Pos} {body orelse : List Stmt} {r : Addr} {a b : Int} {t₀ u₀ v₀ : Tok} {n : Nat} {m₀ : Str → Option Value}
    (Led : σ → List (Addr × Obj)) (ps : σ → List (Str × Value)) (Inv : Nat → σ → Prop) (Fin : σ → Prop) (c₀ : σ)
    (hh : A.handled = none) (hr : IsRange s.heap r a b 1 t₀ u₀ v₀) (hsmall : Builtin.Range.small a b 1 = true) (hn : Builtin.Range.rangeSize a b 1 = (n : Int))
    (F : Fr h₀ env.locals s.heap m₀) (N : News h₀ env.locals s.heap (Led c₀)) (hi : Inv 0 c₀) (hk : ∀ p ∈ ps c₀, m₀ p.1 = some p.2)
    (turn : ∀ i t (c : σ) (u : Str → Option Value) h tk I oI, i < n → Inv i c → (∀ p ∈ Led c, p.1 ≠ I) → Fr h₀ env.locals h (fun y => if y = x then some (.int (a + (i : Int)) t) else fmap u (ps c) y) → News h₀ env.locals h (Led c ++ [(I, oI)]) →
      wpAny (model prog w) A (execs body env) (FTEnd h₀ env.locals s Led ps (I, oI) (Inv (i + 1)) Fin Q) E { s with heap := h, toks := tk })
    (els : ∀ (c : σ) (u : Str → Option Value) h tk, Inv n c → Fr h₀ env.locals h (fmap u (ps c)) → News h₀ env.locals h (Led c) → wpAny (model prog w) A (execs orelse env) (ElseEnd h₀ env.locals s Led ps Fin Q) E { s with heap := h, toks := tk })
    (done : ∀ (c : σ) (u : Str → Option Value) h tk, Fin c → Fr h₀ env.locals h (fmap u (ps c)) → News h₀ env.locals h (Led c) → Q .next { s with heap := h, toks := tk })
    (hx : env.kindOf x = some .local) (hp : (env.scope.kind == .class || (env.scope.kind == .module && env.locals != env.globals)) = false) (hE : PassesOwn (model prog w) A env E) :
    wpAny (model prog w) A (pyIter (.ref r)) (fun it s₂ => LoopHere prog w A E env (.Name x px) body orelse Q it s₂) E s := by
  refine wpAny_pyIter_range hr hsmall ?_
  have hI : h₀.get? s.heap.objs.size = none := next_is_new F
  refine forN Led ps Inv Fin c₀ (Walks.range hh _ a 1 n) (by show IsRangeIter _ _ _ _ _; rw [hn]; simpa using Heap.get?_push_size _ rfl) hI
    (Nat.ne_of_gt F.ns.lt) (fun i h st => ⟨_, st⟩) (fun b hb => .inl (List.mem_singleton.mp hb))
    (fun p hp e => absurd (Heap.lt_size (N p hp).1) (e ▸ Nat.lt_irrefl _)) (F.push _) (fun p hp => ⟨Heap.get?_push_of_some _ (N p hp).1, (N p hp).2⟩) hi hk ?_ els done hx hp hE
  rintro i v c u h tk oI hin ⟨t, rfl⟩ hi' hne F' N'
  rw [show a + (i : Int) * 1 = a + (i : Int) by omega] at F'
  exact turn i t c u h tk _ oI hin hi' hne F' N'

/-- over a range's iterator that the call has made, downward -/
theorem for_down {σ : Type} {x : Str} {px : Pos} {body orelse : List Stmt} {I : Addr} {n : Nat} {m₀ : Str → Option Value}
    (Led : σ → List (Addr × Obj)) (ps : σ → List (Str × Value)) (Inv : Nat → σ → Prop) (Fin : σ → Prop) (c₀ : σ)
    (hh : A.handled = none) (hit : IsRangeIter s.heap I ((n : Int) - 1) (n : Int) (-1)) (hI0 : h₀.get? I = none) (hIL : I ≠ env.locals) (hnI : ∀ p ∈ Led c₀, p.1 ≠ I)
    (F : Fr h₀ env.locals s.heap m₀) (N : News h₀ env.locals s.heap (Led c₀)) (hi : Inv 0 c₀) (hk : ∀ p ∈ ps c₀, m₀ p.1 = some p.2)
    (turn : ∀ i t (c : σ) (u : Str → Option Value) h tk oI, i < n → Inv i c → (∀ p ∈ Led c, p.1 ≠ I) → Fr h₀ env.locals h (fun y => if y = x then some (.int ((n - 1 - i : Nat) : Int) t) else fmap u (ps c) y) → News h₀ env.locals h (Led c ++ [(I, oI)]) →
      wpAny (model prog w) A (execs body env) (FTEnd h₀ env.locals s Led ps (I, oI) (Inv (i + 1)) Fin Q) E { s with heap := h, toks := tk })
    (els : ∀ (c : σ) (u : Str → Option Value) h tk, Inv n c → Fr h₀ env.locals h (fmap u (ps c)) → News h₀ env.locals h (Led c) → wpAny (model prog w) A (execs orelse env) (ElseEnd h₀ env.locals s Led ps Fin Q) E { s with heap := h, toks := tk })
    (done : ∀ (c : σ) (u : Str → Option Value) h tk, Fin c → Fr h₀ env.locals h (fmap u (ps c)) → News h₀ env.locals h (Led c) → Q .next { s with heap := h, toks := tk })
    (hx : env.kindOf x = some .local) (hp : (env.scope.kind == .class || (env.scope.kind == .module && env.locals != env.globals)) = false) (hE : PassesOwn (model prog w) A env E) :
    wpAny (model prog w) A (pyIter (.ref I)) (fun it s₂ => LoopHere prog w A E env (.Name x px) body orelse Q it s₂) E s := by
  refine wpAny_pyIter_rangeiter hit ?_
  refine forN Led ps Inv Fin c₀ (Walks.range hh I ((n : Int) - 1) (-1) n) (by show IsRangeIter _ _ _ _ _; simpa using hit) hI0
    hIL (fun i h st => ⟨_, st⟩) (fun b hb => .inl (List.mem_singleton.mp hb)) hnI F N hi hk ?_ els done hx hp hE
  rintro i v c u h tk oI hin ⟨t, rfl⟩ hi' hne F' N'
  rw [show (n : Int) - 1 + (i : Int) * -1 = ((n - 1 - i : Nat) : Int) by omega] at F'
  exact turn i t c u h tk oI hin hi' hne F' N'

def rangeIt (a n c : Int) : Obj := { cls := .type "range_iterator", dict := none, data := .fields #[rawInt a, rawInt n, rawInt c], slots := #[] }

theorem sub_ri_reversed : isSubtype (.type "range_iterator") (.type "reversed") = pure false := by rw [isSubtype_type]; kernel_rfl

theorem call_range_reversed {r : Addr} {k : Nat} {b : Int} {t u v : Tok} {Q : Value → Shared → Prop} (hr : IsRange s.heap r 0 b 1 t u v) (hk : Builtin.Range.rangeSize 0 b 1 = (k : Int)) (hb : b < 2 ^ 62) (hb0 : 0 ≤ b)
    (h : Q (.ref s.heap.objs.size) { s with heap := s.heap.push (rangeIt ((k : Int) - 1) k (-1)) }) : wpAny (model prog w) A (call (.builtin "range.__reversed__") [.ref r]) Q E s := by
  have hT : s.TypeIs (.ref r) "range" := ⟨_, hr, rfl⟩
  refine wpAny_call_entry F.slot_range_reversed hT F.entry_range_reversed ?_ (F.args_range_reversed_1 _)
  unfold Builtin.«range.__reversed__»
  refine wpAny_bind (wpAny_of_eq (a := Value.ref r) rfl ?_)
  have hf : ∀ {R : Int × Int × Int → Shared → Prop} {E' : Value → Shared → Prop}, R (0, b, 1) s → wpAny (model prog w) A.in1 (Builtin.Range.rangeFields (.ref r)) R E' s := by
    intro R E' hR
    unfold Builtin.Range.rangeFields
    refine wpAny_bind (wpAny_field hr rfl (x := .int 0 t) rfl ?_)
    refine wpAny_bind (wpAny_of_eq (a := some 0) rfl ?_)
    refine wpAny_bind (wpAny_field hr rfl (x := .int b u) rfl ?_)
    refine wpAny_bind (wpAny_of_eq (a := some b) rfl ?_)
    refine wpAny_bind (wpAny_field hr rfl (x := .int 1 v) rfl ?_)
    refine wpAny_bind (wpAny_of_eq (a := some 1) rfl ?_)
    exact wpAny_pure hR
  refine wpAny_bind (hf ?_)
  have hkb : (k : Int) ≤ b := by
    rw [← hk]
    unfold Builtin.Range.rangeSize
    simp only [show (1 : Int) > 0 from by decide, if_true]
    split
    · simp
    · omega
  have hsm : (Builtin.Range.rangeFitsLong 0 && Builtin.Range.rangeFitsLong b && Builtin.Range.rangeFitsLong 1 && Builtin.Range.rangeFitsLong (-1) && Builtin.Range.rangeFitsLong (0 - 1) && Builtin.Range.rangeFitsLong (k : Int)) = true := by
    simp only [Builtin.Range.rangeFitsLong, Bool.and_eq_true, decide_eq_true_eq]
    omega
  dsimp only
  rw [hk, hsm]
  simp only [Bool.not_true, Bool.false_eq_true, if_false, if_true]
  refine wpAny_bind (wpAny_newObj_type (wpAny_pure ⟨_, rfl, ?_⟩))
  rw [show (0 : Int) + ((k : Int) - 1) * 1 = (k : Int) - 1 by omega]
  exact h

theorem code_reversed_new_range {r : Addr} {k : Nat} {b : Int} {t u v : Tok} {Q₁ : Value → Shared → Prop} (hr : IsRange s.heap r 0 b 1 t u v) (hk : Builtin.Range.rangeSize 0 b 1 = (k : Int)) (hb : b < 2 ^ 62) (hb0 : 0 ≤ b)
    (h : Q₁ (.ref s.heap.objs.size) { s with heap := s.heap.push (rangeIt ((k : Int) - 1) k (-1)) }) :
    codeAny (model prog w) A (.call (.builtin "reversed.__new__") ⟨[.type "reversed", .ref r], []⟩) (wants Q₁ E) s := by
  have hT : s.TypeIs (.ref r) "range" := ⟨_, hr, rfl⟩
  refine codeAny_of_tree ?_
  show wpAny _ A.in1 (do checkBuiltinCall "reversed.__new__" ⟨[.type "reversed", .ref r], []⟩; again (.builtin "reversed.__new__" ⟨[.type "reversed", .ref r], []⟩)) _ _ s
  refine wpAny_bind (wpAny_of_eq (F.newCall_reversed_1 _) (wpAny_pure ⟨plainId_quiet F.plain_reversed_new _, codeAny_builtin F.entry_reversed_new ?_⟩))
  rw [Around.under_plainId F.plain_reversed_new _]
  unfold Builtin.«reversed.__new__»
  refine wpAny_bind (wpAny_of_eq (newClass_reversed _) ?_)
  try dsimp only
  refine wpAny_bind (wpAny_of_eq (a := ()) (by first | rfl | kernel_rfl) ?_)
  refine wpAny_bind (wpAny_of_eq (a := ()) (by first | rfl | kernel_rfl) ?_)
  try dsimp only
  refine wpAny_bind (wpAny_specialOf hT F.slot_range_reversed.lookup ?_)
  try dsimp only
  refine wpAny_bind (wpAny_of_eq (F.slot_range_reversed.bind _) ?_)
  try dsimp only
  first
  | rw [if_neg (show ¬ ((Value.builtin "range.__reversed__" == Value.none) = true) from Bool.false_ne_true)]
  | (show wpAny _ _ (if (Value.builtin "range.__reversed__" == Value.none) = true then _ else _) _ _ _; rw [if_neg (show ¬ ((Value.builtin "range.__reversed__" == Value.none) = true) from Bool.false_ne_true)])
  refine wpAny_bind (wpAny_rule ?_)
  refine wpAny_bind (m := runValue (.call (.builtin "range.__reversed__") ⟨[.ref r], []⟩)) (show wpAny _ _ (call (.builtin "range.__reversed__") [.ref r]) _ _ _ from call_range_reversed hr hk hb hb0 ?_)
  first
  | exact wpAny_pure h
  | exact wpAny_bind (wpAny_pure (wpAny_pure h))

theorem call_reversed_range {r : Addr} {k : Nat} {b : Int} {t u v : Tok} {Q : Value → Shared → Prop} (hr : IsRange s.heap r 0 b 1 t u v) (hk : Builtin.Range.rangeSize 0 b 1 = (k : Int)) (hb : b < 2 ^ 62) (hb0 : 0 ≤ b)
    (h : Q (.ref s.heap.objs.size) { s with heap := s.heap.push (rangeIt ((k : Int) - 1) k (-1)) }) : wpAny (model prog w) A (call (.type "reversed") [.ref r]) Q E s := by
  refine callType_other (U := "range_iterator") (Q₁ := fun obj s₁ => obj = .ref s.heap.objs.size ∧ s₁ = { s with heap := s.heap.push (rangeIt ((k : Int) - 1) k (-1)) }) (by decide +kernel) F.create_reversed ⟨_, _, F.mro_reversed⟩ F.made_reversed sub_ri_reversed (F.typeCall_reversed_1 _) (code_reversed_new_range hr hk hb hb0 ⟨rfl, rfl⟩) ?_
  rintro obj s₁ ⟨rfl, rfl⟩
  exact ⟨⟨_, Heap.get?_push_size _ rfl, rfl⟩, h⟩

/-- the same upon the ledger -/
theorem reversed_N {m : Str → Option Value} {news : List (Addr × Obj)} {r : Addr} {k : Nat} {b : Int} {t u v : Tok} {Q : Value → Shared → Prop} (F : Fr h₀ L s.heap m) (N : News h₀ L s.heap news) (hr : IsRange s.heap r 0 b 1 t u v) (hk : Builtin.Range.rangeSize 0 b 1 = (k : Int)) (hb : b < 2 ^ 62) (hb0 : 0 ≤ b)
    (h : ∀ I h', Fr h₀ L h' m → News h₀ L h' ((I, rangeIt ((k : Int) - 1) k (-1)) :: news) → (∀ p ∈ news, p.1 < I) → Q (.ref I) { s with heap := h' }) : wpAny (model prog w) A (call (.type "reversed") [.ref r]) Q E s :=
  call_reversed_range hr hk hb hb0 (h _ _ (F.push _) (N.push F _) fun p hp => Heap.lt_size (N p hp).1)
end
end Mine
end

section
open PySem PySem.W PySem.Spec PySem.Calls PyProof.Rows
set_option maxRecDepth 100000
namespace Mine
/-- a list's iterator -/
def lit (l : Value) (i : Nat) : Obj := { cls := .type "list_iterator", data := .fields #[l, rawInt (i : Int)] }

section
variable {prog : Program} {w : World} {A : Around} {E : Value → Shared → Prop} {s : Shared} {h₀ : Heap} {L : Addr} {m : Str → Option Value} {news news' : List (Addr × Obj)}

theorem iter_N {l : Addr} {vs : List Value} {n : Nat} {Q : Value → Shared → Prop} (F : Fr h₀ L s.heap m) (N : News h₀ L s.heap news) (ho : s.heap.get? l = some (listOf vs.toArray n))
    (h : ∀ I h', Fr h₀ L h' m → News h₀ L h' ((I, lit (.ref l) 0) :: news) → (∀ p ∈ news, p.1 < I) → Q (.ref I) { s with heap := h' }) :
    wpAny (model prog w) A (call (.builtin "iter") [.ref l]) Q E s := by
  refine call_function_entry (by decide +kernel) (by decide +kernel) kdk_entry_iter (kdk_args_iter _) ?_
  unfold Builtin.«iter»
  refine wpAny_bind (m := someArgs "iter" 1 2 _) (wpAny_of_eq (a := [Value.ref l]) (by first | rfl | kernel_rfl!) ?_)
  show wpAny _ _ (pyIter (.ref l) >>= _) _ _ _
  refine wpAny_bind (wpAny_pyIter_list (PySem.IsL.isList (n := n) ho) ?_)
  exact wpAny_pure ⟨_, rfl, h _ _ (F.push _) (N.push F _) fun p hp => Heap.lt_size (N p hp).1⟩

theorem next_N {l it : Addr} {vs : List Value} {n i : Nat} {v : Value} {Q : Value → Shared → Prop} (F : Fr h₀ L s.heap m) (N : News h₀ L s.heap news) (U : Upd it (lit (.ref l) i) (lit (.ref l) (i + 1)) news news')
    (ho : s.heap.get? l = some (listOf vs.toArray n)) (hv : vs[i]? = some v)
    (h : ∀ h', Fr h₀ L h' m → News h₀ L h' news' → Q v { s with heap := h' }) :
    wpAny (model prog w) A (call (.builtin "next") [.ref it]) Q E s := by
  obtain ⟨pre, post, rfl, rfl, a, b⟩ := U.split
  have hm := N (it, lit (.ref l) i) (List.mem_append_right _ (.head _))
  have hit : s.heap.IsListIter it l i := ⟨_, hm.1, rfl, rfl⟩
  have hlist : s.heap.IsList l vs.toArray := PySem.IsL.isList (n := n) ho
  obtain ⟨ol, hol, _, nl, hdl⟩ := hlist
  refine call_function_entry (by decide +kernel) (by decide +kernel) kdk_entry_next (kdk_args_next _) ?_
  unfold Builtin.«next»
  refine wpAny_bind (m := someArgs "next" 1 2 _) (wpAny_of_eq (a := [Value.ref it]) (by first | rfl | kernel_rfl!) ?_)
  dsimp only
  refine wpAny_bind (wpAny_specialOf (name := Str.ofString "__next__") hit.typeIs slot_listiter_next.lookup ?_)
  refine wpAny_ite_split (fun hab => absurd hab (by decide)) (fun _ => ?_)
  refine wpAny_bind (wpAny_callSpecial?_slot (name := Str.ofString "__next__") hit.typeIs slot_listiter_next
    (wpAny_call_entry slot_listiter_next hit.typeIs entry_listiter_next ?_ (args_listiter_next _)))
  show wpAny _ _ (field (.ref it) 0 >>= _) _ _ s
  refine wpAny_bind (wpAny_field hm.1 rfl (x := .ref l) rfl ?_)
  show wpAny _ _ (if (Value.ref l == Value.none) = true then _ else _) _ _ s
  rw [if_neg (show ¬ ((Value.ref l == Value.none) = true) from Bool.false_ne_true)]
  show wpAny _ _ (field (.ref it) 1 >>= _) _ _ s
  refine wpAny_bind (wpAny_field hm.1 rfl (x := .int i 0) rfl ?_)
  show wpAny _ _ (seqItems? (.ref l) >>= _) _ _ s
  refine wpAny_bind (wpAny_seqItems hol hdl ?_)
  have hv' : vs.toArray[i]? = some v := by simpa using hv
  simp only [Int.toNat_natCast, hv']
  refine wpAny_bind (wpAny_setField hm.1 rfl (by simp) (wpAny_pure ⟨v, rfl, ?_⟩))
  refine wpAny_pure ⟨_, rfl, h _ (F.change (Heap.SameBut.update ..) hm.2.1 hm.2.2) ?_⟩
  refine news_set N a b (Heap.SameBut.update ..) ?_
  rw [Heap.get?_update_self _ hm.1 rfl]
  simp [lit, Obj.mapFields, rawInt]

theorem next_end {l it : Addr} {vs : List Value} {n i : Nat} {Q : Value → Shared → Prop} (hh : A.handled = none) (hm : s.heap.get? it = some (lit (.ref l) i))
    (ho : s.heap.get? l = some (listOf vs.toArray n)) (hv : vs[i]? = none)
    (hE : ∀ h₁ h' e, Heap.SameBut it s.heap h₁ → Heap.NewExc h₁ h' e "StopIteration" → E (.ref e) { s with heap := h' }) :
    wpAny (model prog w) A (call (.builtin "next") [.ref it]) Q E s := by
  have hit : s.heap.IsListIter it l i := ⟨_, hm, rfl, rfl⟩
  have hlist : s.heap.IsList l vs.toArray := PySem.IsL.isList (n := n) ho
  obtain ⟨ol, hol, _, nl, hdl⟩ := hlist
  refine call_function_entry (by decide +kernel) (by decide +kernel) kdk_entry_next (kdk_args_next _) ?_
  unfold Builtin.«next»
  refine wpAny_bind (m := someArgs "next" 1 2 _) (wpAny_of_eq (a := [Value.ref it]) (by first | rfl | kernel_rfl!) ?_)
  dsimp only
  refine wpAny_bind (wpAny_specialOf (name := Str.ofString "__next__") hit.typeIs slot_listiter_next.lookup ?_)
  refine wpAny_ite_split (fun hab => absurd hab (by decide)) (fun _ => ?_)
  refine wpAny_bind (wpAny_callSpecial?_slot (name := Str.ofString "__next__") hit.typeIs slot_listiter_next
    (wpAny_call_entry slot_listiter_next hit.typeIs entry_listiter_next ?_ (args_listiter_next _)))
  show wpAny _ _ (field (.ref it) 0 >>= _) _ _ s
  refine wpAny_bind (wpAny_field hm rfl (x := .ref l) rfl ?_)
  show wpAny _ _ (if (Value.ref l == Value.none) = true then _ else _) _ _ s
  rw [if_neg (show ¬ ((Value.ref l == Value.none) = true) from Bool.false_ne_true)]
  show wpAny _ _ (field (.ref it) 1 >>= _) _ _ s
  refine wpAny_bind (wpAny_field hm rfl (x := .int i 0) rfl ?_)
  show wpAny _ _ (seqItems? (.ref l) >>= _) _ _ s
  refine wpAny_bind (wpAny_seqItems hol hdl ?_)
  have hv' : vs.toArray[i]? = none := by simpa using hv
  simp only [Int.toNat_natCast, hv']
  refine wpAny_bind (wpAny_rule (wpAny_bind (wpAny_setField hm rfl (by simp) ?_)))
  show wpAny _ _ (newExc (.type "StopIteration") [] >>= _) _ _ _
  refine wpAny_bind ?_
  simp only [newExc, newTuple]
  refine wpAny_bind (wpAny_newObj_type ?_ (by size_fits))
  refine wpAny_bind (m := firstArgMember _ _) (wpAny_of_eq (a := Value.none) (by first | rfl | (simp only [firstArgMember]; rfl)) ?_)
  refine wpAny_newObj_type ?_ (by size_fits)
  simp only [raiseNew]
  refine wpAny_bind (wpAny_handled ?_)
  rw [show A.in1.in1.handled = none from hh]
  refine wpAny_bind (wpAny_pure (wpAny_throw ?_))
  refine hE _ _ _ (Heap.SameBut.update ..) ⟨fun b o e => Heap.get?_push_of_some _ (Heap.get?_push_of_some _ e), ?_, ⟨_, _, Heap.get?_push_size _ rfl, rfl, rfl⟩⟩
  rw [Heap.size_push]
  cases q : Heap.get? _ _ with
  | none => rfl
  | some o => exact absurd (Heap.lt_size q) (Nat.not_lt.mpr (Nat.le_succ _))

theorem next_endN {l it : Addr} {vs : List Value} {n i : Nat} {rest : List (Addr × Obj)} {Q : Value → Shared → Prop} (hh : A.handled = none) (F : Fr h₀ L s.heap m) (N : News h₀ L s.heap ((it, lit (.ref l) i) :: rest)) (hap : ∀ p ∈ rest, p.1 ≠ it)
    (ho : s.heap.get? l = some (listOf vs.toArray n)) (hv : vs[i]? = none)
    (hE : ∀ h₁ h' e, Fr h₀ L h₁ m → News h₀ L h₁ rest → Heap.NewExc h₁ h' e "StopIteration" → E (.ref e) { s with heap := h' }) :
    wpAny (model prog w) A (call (.builtin "next") [.ref it]) Q E s := by
  have hm := N _ (.head _)
  refine next_end hh hm.1 ho hv fun h₁ h' e hs hx => hE h₁ h' e (F.change hs hm.2.1 hm.2.2) (fun p hp => ?_) hx
  have z := N p (.tail _ hp)
  exact ⟨(hs.2 p.1 (hap p hp)).trans z.1, z.2⟩
end
end Mine
end

section
open PySem PySem.W PySem.Spec PySem.Calls PyProof.Rows
set_option maxRecDepth 100000
namespace Mine
theorem bitAnd_nat (x y : Nat) : Builtin.bitAnd (x : Int) (y : Int) = ((x &&& y : Nat) : Int) := by
  unfold Builtin.bitAnd
  rw [decide_eq_true (show (0 : Int) ≤ (x : Int) by omega), decide_eq_true (show (0 : Int) ≤ (y : Int) by omega)]
  rfl
theorem bitOr_nat (x y : Nat) : Builtin.bitOr (x : Int) (y : Int) = ((x ||| y : Nat) : Int) := by
  unfold Builtin.bitOr Builtin.bitAnd Builtin.bitNot
  rw [decide_eq_false (show ¬ (0 : Int) ≤ -(x : Int) - 1 by omega), decide_eq_false (show ¬ (0 : Int) ≤ -(y : Int) - 1 by omega)]
  dsimp only
  rw [show (-(-(x : Int) - 1) - 1).toNat = x by omega, show (-(-(y : Int) - 1) - 1).toNat = y by omega]
  omega
theorem bitXor_nat (x y : Nat) : Builtin.bitXor (x : Int) (y : Int) = ((x ||| y : Nat) : Int) - ((x &&& y : Nat) : Int) := by
  unfold Builtin.bitXor
  rw [bitOr_nat, bitAnd_nat]
theorem and64 : ∀ x : Nat, x < 128 → x &&& 64 = if x < 64 then 0 else 64 := by decide
theorem bitAnd64 {x : Int} (h0 : 0 ≤ x) (h1 : x < 128) : Builtin.bitAnd x 64 = if x < 64 then 0 else 64 := by
  obtain ⟨n, rfl⟩ := Int.eq_ofNat_of_zero_le h0
  have := and64 n (by omega)
  rw [show (64 : Int) = ((64 : Nat) : Int) from rfl, bitAnd_nat, this]
  by_cases h : n < 64
  · rw [if_pos h, if_pos (by omega)]
    rfl
  · rw [if_neg h, if_neg (by omega)]
theorem bitOr64 {a b : Int} (h0 : 0 ≤ a) (hb : 0 ≤ b) (hb' : b < 64) : Builtin.bitOr (a * 64) b = a * 64 + b := by
  obtain ⟨n, rfl⟩ := Int.eq_ofNat_of_zero_le h0
  obtain ⟨k, rfl⟩ := Int.eq_ofNat_of_zero_le hb
  have e : ((n : Int) * 64) = ((2 ^ 6 * n : Nat) : Int) := by omega
  rw [e, bitOr_nat, ← Nat.two_pow_add_eq_or_of_lt (by omega) n]
  omega

/-- what _parse_varint reckons of j octets from i on -/
def pv (os : List Int) (i : Nat) : Nat → Int
  | 0 => 0
  | 1 => os.getD i 0 % 64
  | j + 2 => pv os i (j + 1) * 64 + os.getD (i + (j + 1)) 0 % 64
theorem pv_nonneg (os : List Int) (i : Nat) : ∀ j, 0 ≤ pv os i j
  | 0 => Int.le_refl _
  | 1 => Int.emod_nonneg _ (by decide)
  | j + 2 => by
    have := pv_nonneg os i (j + 1)
    have := Int.emod_nonneg (os.getD (i + (j + 1)) 0) (show (64 : Int) ≠ 0 by decide)
    show 0 ≤ pv os i (j + 1) * 64 + os.getD (i + (j + 1)) 0 % 64
    omega
theorem pv_lt (os : List Int) (i : Nat) : pv os i 1 < 64 ∧ pv os i 2 < 4096 ∧ pv os i 3 < 262144 := by
  have h1 : pv os i 1 < 64 := Int.emod_lt_of_pos _ (by decide)
  have e2 : pv os i 2 = pv os i 1 * 64 + os.getD (i + 1) 0 % 64 := rfl
  have e3 : pv os i 3 = pv os i 2 * 64 + os.getD (i + 2) 0 % 64 := rfl
  have := Int.emod_lt_of_pos (os.getD (i + 1) 0) (show (0 : Int) < 64 by decide)
  have := Int.emod_lt_of_pos (os.getD (i + 2) 0) (show (0 : Int) < 64 by decide)
  omega
theorem pv_next (os : List Int) (i j : Nat) : Builtin.bitOr (pv os i (j + 1) * 64) (Builtin.bitAnd (os.getD (i + (j + 1)) 0) 63) = pv os i (j + 2) := by
  rw [bitAnd_m6, bitOr64 (pv_nonneg _ _ _) (Int.emod_nonneg _ (by decide)) (Int.emod_lt_of_pos _ (by decide))]
  rfl
end Mine
end

section
open PySem PySem.W PySem.Spec PySem.Calls PyProof.Rows
set_option maxRecDepth 100000
namespace Mine
theorem news_perm {h₀ : Heap} {L : Addr} {h : Heap} {l l' : List (Addr × Obj)} (N : News h₀ L h l) (hp : l'.Perm l) : News h₀ L h l' := fun p hq => N p (hp.mem_iff.mp hq)
section
variable {prog : Program} {w : World} {A₀ A : Around} {s : Shared} {base h₀ : Heap} {env : Env} {L : Addr} {m : Str → Option Value} {news : List (Addr × Obj)} {K : Frag} {p : Program} {loose : List Str} {mean : ExcName → Option Value} {mg mb : Str → Option Value}
    {R : Result → Shared → Prop} {name qual : Str} {params : Arguments} {body : List Stmt} {scope : Scope} {dV kV doc pm cdv ct oc : Value} {an od : Option Addr} {osl : Array (Option Value)} {f : Addr} {args : Args} {binds : List (Str × Value)}

theorem code_defS0X (B : Below A₀ base [] h₀) (F : Fr h₀ L s.heap m) (X₀ : K.In h₀) (N : News h₀ L s.heap news) (T : Top p loose mean mg mb h₀) (hA : A.frames = some [env]) (hf : env.frame = some L) (hke : env.scope.kind = .function)
    (ho : K.lookup f = some ⟨oc, od, .func (fnOf name qual params body scope dV kV doc pm an cdv ct), osl⟩) (hcd : codeIn K cdv qual = true) (hroom : A.depth < recursionLimit)
    (hbind : BindsTo s (fnOf name qual params body scope dV kV doc pm an cdv ct) args binds) (hloc : ∀ y ∈ binds, scope.names.lookup y.1 = some .local)
    (h : ∀ g L' h₁, Fr h₀ L g m → Fr g L' h₁ (fun y => binds.reverse.lookup y) → News g L' h₁ news → Below A base [env] g → K.In g → Top p loose mean mg mb g → KtsDicts ([env].filterMap (·.frame)) g →
      wpAny (model prog w) (A.deeper (envOf qual scope L' f cdv)) (execs body (envOf qual scope L' f cdv))
        (fun fl s' => LeaveS0 ([env].filterMap (·.frame)) h₀ L m g R (match fl with | .ret v => v | _ => .none) s')
        (fun e s' => wpAny (model prog w) (A.deeper (envOf qual scope L' f cdv)) (leaving (envOf qual scope L' f cdv) e) (fun _ s'' => R (.error e) s'') (fun e' s'' => R (.error e') s'') s')
        { s with heap := h₁, toks := s.toks + binds.length })
    (hco : scope.isCoroutine = false) (hgen : scope.isGenerator = false) (hk : scope.kind = .function)
    (hcell : ∀ x ∈ scope.names, x.2 ≠ .cell) : codeAny (model prog w) A (.call (.ref f) args) R s := by
  have X := X₀.keeps F.keep
  have efs : [env].filterMap (·.frame) = [L] := by simp [hf]
  rw [efs] at h
  refine codeAny_call_def (fd := fnOf name qual params body scope dV kV doc pm an cdv ct) (body := body) (binds := binds) hroom (X _ _ ho) rfl (T.nolimit.keeps F.keep) (codeRec_of X hcd) rfl hbind hcell hloc (fun h₁ hns hk₁ => ?_) hco hgen hk
  obtain ⟨FG, BG, st, _⟩ := groundX (R := R) B F N hA hf hke
  obtain ⟨oL, es, ep, hL, hLd, hLk, hLf⟩ := F.ns
  have nL : L ∉ news.map (·.1) := fun q => by
    obtain ⟨p, hp, e⟩ := List.mem_map.mp q
    exact (N p hp).2.1 e
  have hLg := hideAll_get (news.map (·.1)) hL nL
  refine wpAny_mono (h _ s.heap.objs.size h₁ FG ⟨hns, fun b o e => hk₁ b o (of_hideAll _ e), Nat.le_of_eq (hideAll_size _ _)⟩
    (fun p hp => ⟨hk₁ _ _ (N p hp).1, Nat.ne_of_lt (Heap.lt_size (N p hp).1), hideAll_none _ (List.mem_map_of_mem hp)⟩) BG (X₀.keeps st) (T.keeps st) (fun b hb => by
      rw [List.mem_singleton.mp hb]
      exact ⟨oL, es, ep, hLg, hLd⟩)) (fun fl s' hl => ?_) fun _ _ y => y
  obtain ⟨g', L', m', news', T', F', N', k⟩ := hl
  have nL₀ : h₀.get? L = none := kts_self F
  obtain ⟨sl, hs⟩ := T'.up hLg
  refine k ⟨⟨_, es, ep, F'.keep _ _ hs, hLd, hLk, hLf⟩, fun b o e => F'.keep b o (T'.other b o (st b o e) (fun q => by
    rw [List.mem_singleton.mp q, nL₀] at e
    cases e)), F.above⟩ fun p hp => ⟨(N' p hp).1, fun q => ?_, ?_⟩
  · have := (N' p hp).2.2; rw [q, hs] at this; cases this
  · cases q : h₀.get? p.1 with
    | none => rfl
    | some o =>
      obtain ⟨sl', hs'⟩ := T'.up (st _ _ q)
      have := (N' p hp).2.2
      rw [hs'] at this
      cases this
end
end Mine
end

section
open PySem PySem.W PyProof.Rows
set_option maxRecDepth 100000
set_option maxHeartbeats 8000000
namespace Mine
/-- the text without the names of its files -/
def viewP : Program := { Challenge.pw_un0013_01 with main := { Challenge.pw_un0013_01.main with body := (((Challenge.pw_un0013_01.main.body.eraseIdx 32).eraseIdx 9).eraseIdx 5).eraseIdx 0 } }
/-- the head's look at the top, at once and not in pieces: it is much shorter so -/
local macro_rules | `(tactic| o_head $H) => `(tactic| (
  refine holds_open (q := Mine.viewP) (loose := [Str.ofString "COMPILER_FLAG_NAMES", Str.ofString "_filemode_table"]) (Xt := fun s => xlAt Mine.viewP [] s && recOk (RowW.records (OpenRow.toRowW Challenge.rw_un0013_01.row)) s) (XP := XL Mine.viewP []) (Yf := Hook.obs $H) (Ya := Hook.val $H) (YP := Hook.says $H) (N := 1876) ?hl (Hook.of $H) (Hook.keeps $H) (fun s e => xl_of s (Bool.and_eq_true_iff.mp e).1) XL.keeps (by rfl) (by rfl) (by rfl) (fun s e => recFacts_of (Bool.and_eq_true_iff.mp e).2) (by rfl) (by decide +kernel) (by decide +kernel) ⟨rfl, rfl, rfl, rfl, rfl, by decide +kernel⟩ ?hw ?hc
  case hl =>
    refine LeftO.of_split "special-get-raises" ?_
    intro w
    kernel_rfl
  all_goals (rename_i said; clear said)))
open_top hd for PySem.Challenge.rw_un0013_01
end Mine
end

section
open PySem PySem.W PySem.Spec PySem.Calls PyProof.Rows
set_option maxRecDepth 100000
namespace Mine
abbrev LS : List Str := [Str.ofString "COMPILER_FLAG_NAMES", Str.ofString "_filemode_table"]
/-- a call of a def of the text: from any caller's frame, by the ledger's objects alone -/
def Spec (w : World) (f : Addr) (dd : Nat) (led : List (Addr × Obj)) (args : List Value) (R : Value → List (Addr × Obj) → Prop) : Prop :=
  ∀ (mean : ExcName → Option Value) (mg mb : Str → Option Value) (dp un : Nat) (gd : Option (List Code)) (cn : Str) (cs : Scope) (a : Addr) (ccd : Value) (cl : List (Str × Addr)) (outer : List Env) (A₀ : Around) (base h₀ : Heap) (L : Addr) (m : Str → Option Value) (s : Shared) (Q E : Value → Shared → Prop),
    Below A₀ base outer h₀ → Fr h₀ L s.heap m → (hd.heap_39 w.params).In h₀ → News h₀ L s.heap led → Top viewP (looseW viewP LS) mean mg mb h₀ → cs.kind = .function →
    dp + dd < recursionLimit → un + 8 * dd + 100 < cLine →
    (∀ v led' h' tk', Fr h₀ L h' m → News h₀ L h' led' → R v led' → Q v { s with heap := h', toks := tk' }) →
    wpAny (model Challenge.rw_un0013_01.row.prog w) (ktrTop dp un gd cn cs L a ccd cl outer) (call (.ref f) args) Q E s
theorem Spec.use {w : World} {f : Addr} {dd : Nat} {led : List (Addr × Obj)} {args : List Value} {R : Value → List (Addr × Obj) → Prop} (S : Spec w f dd led args R)
    {mean : ExcName → Option Value} {mg mb : Str → Option Value} {dp un : Nat} {gd : Option (List Code)} {cn : Str} {cs : Scope} {a : Addr} {ccd : Value} {cl : List (Str × Addr)} {outer : List Env} {A₀ : Around} {base h₀ : Heap} {L : Addr} {m : Str → Option Value} {s : Shared} {Q E : Value → Shared → Prop}
    (B : Below A₀ base outer h₀) (F : Fr h₀ L s.heap m) (X : (hd.heap_39 w.params).In h₀) (N : News h₀ L s.heap led) (T : Top viewP (looseW viewP LS) mean mg mb h₀) (hk : cs.kind = .function)
    (hd : dp + dd < recursionLimit) (hu : un + 8 * dd + 100 < cLine)
    (hret : ∀ v led' h' tk', Fr h₀ L h' m → News h₀ L h' led' → R v led' → Q v { s with heap := h', toks := tk' }) :
    wpAny (model Challenge.rw_un0013_01.row.prog w) (ktrTop dp un gd cn cs L a ccd cl outer) (call (.ref f) args) Q E s :=
  S mean mg mb dp un gd cn cs a ccd cl outer A₀ base h₀ L m s Q E B F X N T hk hd hu hret
/-- a call from the law's own frame -/
def Spec0 (w : World) (f : Addr) (dd : Nat) (led : List (Addr × Obj)) (args : List Value) (R : Value → List (Addr × Obj) → Prop) : Prop :=
  ∀ (mean : ExcName → Option Value) (mg mb : Str → Option Value) (dp un : Nat) (gd : Option (List Code)) (cn : Str) (cs : Scope) (a : Addr) (ccd : Value) (cl : List (Str × Addr)) (A₀ : Around) (h₀ : Heap) (L : Addr) (m : Str → Option Value) (s : Shared) (Q E : Value → Shared → Prop),
    Below A₀ h₀ [] h₀ → Fr h₀ L s.heap m → (hd.heap_39 w.params).In h₀ → News h₀ L s.heap led → Top viewP (looseW viewP LS) mean mg mb h₀ → cs.kind = .function →
    dp + dd < recursionLimit → un + 8 * dd + 100 < cLine →
    (∀ v led' h' tk', Fr h₀ L h' m → News h₀ L h' led' → R v led' → Q v { s with heap := h', toks := tk' }) →
    wpAny (model Challenge.rw_un0013_01.row.prog w) (ktrTop dp un gd cn cs L a ccd cl []) (call (.ref f) args) Q E s
end Mine
end

section
open PySem PySem.W PySem.Spec PySem.Calls PyProof.Rows
set_option maxRecDepth 100000
set_option maxHeartbeats 8000000
namespace Mine
theorem begin_L1A : True := by
  w_top off
  exact True.intro
local macro_rules | `(tactic| walk_at "exec While Compare cons nil") => `(tactic| (refine Mine.Held.mk ?_))

theorem fdiv_half {p : Nat} (h : 1 ≤ p) : ((p : Int) - 1).fdiv (2 ^ Int.toNat 1) = (((p - 1) / 2 : Nat) : Int) := by
  have e : ((p : Int) - 1) = ((p - 1 : Nat) : Int) := by omega
  rw [e]
  show Int.fdiv ((p - 1 : Nat) : Int) 2 = _
  rw [Int.fdiv_eq_ediv_of_nonneg _ (by decide)]
  rfl

theorem siftdown_c (w : World) (tl rest : List (Addr × Obj)) (l : Addr) (vs : List Value) (ps : List (Int × Int)) (n : Nat) (sp pos : Nat) (t1 t2 : Tok)
    (hap : ∀ p ∈ rest, p.1 ≠ l) (hsub : ∀ p ∈ tl, p ∈ rest) (hP : Prs tl vs ps) (hH : HoleUp sp ps pos (G ps pos)) (hsz : ps.length ≤ 64) :
    Spec w 35 1 ((l, listOf vs.toArray n) :: rest) [.ref l, .int (sp : Int) t1, .int (pos : Int) t2]
      (fun v led' => v = .none ∧ ∃ vs' ps', led' = (l, listOf vs'.toArray n) :: rest ∧ Prs tl vs' ps' ∧ HeapFrom sp ps' ∧ ps'.Perm ps) := by
  unfold Spec
  k_fill
  intro mean mg mb dp un gd cn cs a ccd cl outer A₀ base h₀ L m s Q E B F X N T hk hd hu hret
  refine wpAny_call ?_
  k_dflt cell_enter
  k_steps
  have hlt := hH.lt
  have hvl := hP.length
  obtain ⟨a0, ti, tj, n0, hv, hm⟩ := hP.get hlt
  rename News _ _ _ _ => N1
  refine item_cell (N1 _ (.head _)).1 (by omega) (by omega) (by simpa using hv) ?_
  k_steps
  refine Held.out ?_
  rename News _ _ _ _ => N2
  rename Fr _ _ _ _ => F2
  refine whileL (σ := List Value × List (Int × Int) × Nat × Tok)
    (fun c => (l, listOf c.1.toArray n) :: rest)
    (fun c => [(Str.ofString "heap", .ref l), (Str.ofString "startpos", .int (sp : Int) t1), (Str.ofString "newitem", .ref a0), (Str.ofString "pos", Value.int (c.2.2.1 : Int) c.2.2.2)])
    (fun c => Prs tl c.1 c.2.1 ∧ HoleUp sp c.2.1 c.2.2.1 (G ps pos) ∧ (c.2.1.set c.2.2.1 (G ps pos)).Perm ps ∧ c.2.1.length = ps.length)
    (fun c => Prs tl c.1 c.2.1 ∧ c.2.2.1 < c.2.1.length ∧ HeapFrom sp (c.2.1.set c.2.2.1 (G ps pos)) ∧ (c.2.1.set c.2.2.1 (G ps pos)).Perm ps ∧ c.2.1.length = ps.length)
    (fun c => c.2.2.1) (vs, ps, pos, t2) F2 N2 ⟨hP, hH, ?_, rfl⟩ ?_ ?_ ?_
  · have e : ps.set pos (G ps pos) = ps := set_self hlt
    simp only [e]
    exact List.Perm.refl _
  · kst_all
  · rintro ⟨vs', ps', pos', tk'⟩ u h tk ⟨hP', hH', hperm, hlen⟩ F3 N3
    dsimp only [fmap] at F3 N3 hP' hH' hperm hlen ⊢
    have hvl' := hP'.length
    have hlt' := hH'.lt
    k_steps
    · rename (sp : Int) < (pos' : Int) => hgt
      rename News _ _ _ _ => N4
      rw [fdiv_half (by omega)] at *
      obtain ⟨a1, ti1, tj1, n1, hv1, hm1⟩ := hP'.get (k := (pos' - 1) / 2) (by omega)
      refine item_cell (N4 _ (.head _)).1 (by omega) (by omega) (by rw [Int.toNat_natCast]; exact hv1) ?_
      k_steps
      rename News _ _ _ _ => N5
      refine lt_tup (by ktr_units) (N5 _ (.tail _ (hsub _ hm))).1 (N5 _ (.tail _ (hsub _ hm1))).1 ?_
      rw [show ∀ a b : Int × Int, plt (a.1, a.2) (b.1, b.2) = plt a b from fun _ _ => rfl]
      k_steps
      · rename plt _ _ = true => hlt1
        rename Fr _ _ _ _ => F6
        refine set_cell F6 N5 (.head hap) (by omega) (by omega) (by omega) fun h1 F7 N7 => ?_
        k_steps
        dsimp only [TEnd]
        rename Fr _ _ _ _ => F8
        rename News _ _ _ _ => N8
        rw [Int.toNat_natCast] at N8
        have hq : (pos' - 1) / 2 < pos' := by omega
        have hpm : ((ps'.set pos' (G ps' ((pos' - 1) / 2))).set ((pos' - 1) / 2) (G ps pos)).Perm ps := (perm_swap_set (by omega) (by omega) (by omega)).trans hperm
        have hln : (ps'.set pos' (G ps' ((pos' - 1) / 2))).length = ps.length := by rw [List.length_set]; exact hlen
        have hup := hH'.up (by omega) rfl hlt1
        refine' LEnd.intro (vs'.set pos' (.ref a1), ps'.set pos' (G ps' ((pos' - 1) / 2)), (pos' - 1) / 2, _) F8 N8 ?h1 ?h2 ?h3
        case h3 => kst_all
        case h1 => exact ⟨⟨hP'.set hm1 pos', hup, hpm, hln⟩, hq⟩
        case h2 => exact fun _ h => h
      · rename plt _ _ = false => hlt1
        dsimp only [TEnd]
        rename Fr _ _ _ _ => F6
        exact LEnd.intro (vs', ps', pos', tk') F6 N5 ⟨hP', hlt', hH'.fin (.inr hlt1), hperm, hlen⟩ (fun _ h => h) (by kst_all)
    · rename ¬ (sp : Int) < (pos' : Int) => hle
      refine LEnd.intro (vs', ps', pos', tk') F3 N3 ⟨hP', hlt', hH'.fin (.inl ?_), hperm, hlen⟩ (fun _ h => h) ?_
      · have := hH'.desc.le
        omega
      · kst_all
  · rintro ⟨vs', ps', pos', tk'⟩ u h tk ⟨hP', hlt', hheap, hperm, hlen⟩ F3 N3
    dsimp only [fmap] at F3 N3 hP' hlt' hheap hperm hlen ⊢
    have hvl' := hP'.length
    k_steps
    refine set_cell F3 N3 (.head hap) (by omega) (by omega) (by omega) fun h1 F4 N4 => ?_
    k_steps
    refine hret _ _ _ _ (by assumption) (by assumption) ⟨rfl, _, ps'.set pos' (G ps pos), rfl, ?_, hheap, hperm⟩
    rw [Int.toNat_natCast]
    exact hP'.set hm pos'
end Mine
end

section
open PySem PySem.W PySem.Spec PySem.Calls PyProof.Rows
set_option maxRecDepth 100000
set_option maxHeartbeats 8000000
namespace Mine
theorem begin_L1B : True := by
  w_top off
  exact True.intro
local macro_rules | `(tactic| walk_at "exec While Compare cons nil") => `(tactic| (refine Mine.Held.mk ?_))
local macro_rules | `(tactic| walk_at "call builtin:len") => `(tactic| (refine Mine.Held.mk ?_))
local macro_rules | `(tactic| walk_at "call ref") => `(tactic| (refine Mine.Held.mk ?_))

theorem siftup_c (w : World) (tl rest : List (Addr × Obj)) (l : Addr) (vs : List Value) (ps : List (Int × Int)) (n : Nat) (st : Nat) (t1 : Tok)
    (hap : ∀ p ∈ rest, p.1 ≠ l) (hsub : ∀ p ∈ tl, p ∈ rest) (hP : Prs tl vs ps) (hlt : st < ps.length) (hH : HeapFrom (st + 1) ps) (hsz : ps.length ≤ 64) :
    Spec w 42 2 ((l, listOf vs.toArray n) :: rest) [.ref l, .int (st : Int) t1]
      (fun v led' => v = .none ∧ ∃ vs' ps', led' = (l, listOf vs'.toArray n) :: rest ∧ Prs tl vs' ps' ∧ HeapFrom st ps' ∧ ps'.Perm ps) := by
  unfold Spec
  k_fill
  intro mean mg mb dp un gd cn cs a ccd cl outer A₀ base h₀ L m s Q E B F X N T hk hd hu hret
  refine wpAny_call ?_
  k_dflt cell_enter
  have hvl := hP.length
  k_steps
  rename News _ _ _ _ => N1
  refine Held.out (len_cell (N1 _ (.head _)).1 (by omega) ?_)
  k_steps
  rename News _ _ _ _ => N2
  obtain ⟨a0, ti, tj, n0, hv, hm⟩ := hP.get hlt
  refine item_cell (N2 _ (.head _)).1 (by omega) (by omega) (by rw [Int.toNat_natCast]; exact hv) ?_
  k_steps
  refine Held.out ?_
  rename News _ _ _ _ => N3
  rename Fr _ _ _ _ => F3
  refine' whileL (σ := List Value × List (Int × Int) × Nat × Tok × Tok)
    (fun c => (l, listOf c.1.toArray n) :: rest)
    (fun c => [(Str.ofString "heap", .ref l), (Str.ofString "endpos", .int (vs.length : Int) ?te), (Str.ofString "startpos", .int (st : Int) ?ts), (Str.ofString "newitem", .ref a0), (Str.ofString "pos", Value.int (c.2.2.1 : Int) c.2.2.2.1), (Str.ofString "childpos", Value.int (2 * (c.2.2.1 : Int) + 1) c.2.2.2.2)])
    (fun c => Prs tl c.1 c.2.1 ∧ HoleDn st c.2.1 c.2.2.1 ∧ (c.2.1.set c.2.2.1 (G ps st)).Perm ps ∧ c.2.1.length = ps.length)
    (fun c => Prs tl c.1 c.2.1 ∧ HoleDn st c.2.1 c.2.2.1 ∧ (c.2.1.set c.2.2.1 (G ps st)).Perm ps ∧ c.2.1.length = ps.length ∧ ps.length ≤ 2 * c.2.2.1 + 1)
    (fun c => ps.length - c.2.2.1) (vs, ps, st, t1, _) F3 N3 ⟨hP, ⟨.refl, hlt, hH, fun h => absurd rfl h⟩, ?_, rfl⟩ ?hk ?turn ?dn
  case hk => kst_all
  · have e : ps.set st (G ps st) = ps := set_self hlt
    simp only [e]
    exact List.Perm.refl _
  case turn =>
    rintro ⟨vs', ps', pos', tk1, tk2⟩ u h tk ⟨hP', hH', hperm, hlen⟩ F3 N3
    dsimp only [fmap] at F3 N3 hP' hH' hperm hlen ⊢
    have hvl' := hP'.length
    have hlt' := hH'.lt
    k_steps
    · rename (_ : Int) < _ => hge
      rename (_ : Int) < _ => hge2
      rename News _ _ _ _ => N4
      have e1 : 2 * (pos' : Int) + 1 = ((2 * pos' + 1 : Nat) : Int) := by omega
      have e2 : 2 * (pos' : Int) + 1 + 1 = ((2 * pos' + 2 : Nat) : Int) := by omega
      obtain ⟨b1, ti1, tj1, n1, hv1, hm1⟩ := hP'.get (k := 2 * pos' + 1) (by omega)
      refine item_cell (N4 _ (.head _)).1 (by omega) (by omega) (by rw [e1, Int.toNat_natCast]; exact hv1) ?_
      k_steps
      obtain ⟨b2, ti3, tj3, n3, hv3, hm3⟩ := hP'.get (k := 2 * pos' + 2) (by omega)
      refine item_cell (N4 _ (.head _)).1 (by omega) (by omega) (by rw [e2, Int.toNat_natCast]; exact hv3) ?_
      k_steps
      refine lt_tup (by ktr_units) (N4 _ (.tail _ (hsub _ hm1))).1 (N4 _ (.tail _ (hsub _ hm3))).1 ?_
      rw [show ∀ a b : Int × Int, plt (a.1, a.2) (b.1, b.2) = plt a b from fun _ _ => rfl]
      k_steps
      · rename plt _ _ = true => hpl
        have hc : Ch pos' (2 * pos' + 1) := .inl rfl
        have ec : 2 * (pos' : Int) + 1 = ((2 * pos' + 1 : Nat) : Int) := by omega
        have hcl : 2 * pos' + 1 < ps'.length := by omega
        have hmin : ∀ j, Ch pos' j → j < ps'.length → plt (G ps' j) (G ps' (2 * pos' + 1)) = false := fun j hj hjl => by unfold Ch at hj; rcases hj with e | e <;> first | (rw [e]; exact plt_irr _) | (rw [e]; exact plt_asymm hpl)
        rename News _ _ _ _ => N5
        obtain ⟨a2, ti2, tj2, n2, hv2, hm2⟩ := hP'.get hcl
        refine item_cell (N5 _ (.head _)).1 (by omega) (by omega) (by rw [ec, Int.toNat_natCast]; exact hv2) ?_
        k_steps
        rename Fr _ _ _ _ => F6
        refine set_cell F6 N5 (.head hap) (by omega) (by omega) (by omega) fun h1 F7 N7 => ?_
        k_steps
        dsimp only [TEnd]
        rename Fr _ _ _ _ => F8
        rename News _ _ _ _ => N8
        rw [Int.toNat_natCast] at N8
        rw [ec] at F8
        have hq : ps.length - (2 * pos' + 1) < ps.length - pos' := by unfold Ch at hc; omega
        have hpm : ((ps'.set pos' (G ps' (2 * pos' + 1))).set (2 * pos' + 1) (G ps st)).Perm ps := (perm_swap_set (by omega) (by omega) (by omega)).trans hperm
        have hln : (ps'.set pos' (G ps' (2 * pos' + 1))).length = ps.length := by rw [List.length_set]; exact hlen
        have hdn := hH'.down hc hcl hmin
        refine' LEnd.intro (vs'.set pos' (.ref a2), ps'.set pos' (G ps' (2 * pos' + 1)), 2 * pos' + 1, _, _) F8 N8 ?h1 ?h2 ?h3
        case h3 => kst_all
        case h1 => exact ⟨⟨hP'.set hm2 pos', hdn, hpm, hln⟩, hq⟩
        case h2 => exact fun _ h => h

      · rename plt _ _ = false => hpl
        have hc : Ch pos' (2 * pos' + 2) := .inr rfl
        have ec : 2 * (pos' : Int) + 1 + 1 = ((2 * pos' + 2 : Nat) : Int) := by omega
        have hcl : 2 * pos' + 2 < ps'.length := by omega
        have hmin : ∀ j, Ch pos' j → j < ps'.length → plt (G ps' j) (G ps' (2 * pos' + 2)) = false := fun j hj hjl => by unfold Ch at hj; rcases hj with e | e <;> first | (rw [e]; exact plt_irr _) | (rw [e]; exact hpl)
        rename News _ _ _ _ => N5
        obtain ⟨a2, ti2, tj2, n2, hv2, hm2⟩ := hP'.get hcl
        refine item_cell (N5 _ (.head _)).1 (by omega) (by omega) (by rw [ec, Int.toNat_natCast]; exact hv2) ?_
        k_steps
        rename Fr _ _ _ _ => F6
        refine set_cell F6 N5 (.head hap) (by omega) (by omega) (by omega) fun h1 F7 N7 => ?_
        k_steps
        dsimp only [TEnd]
        rename Fr _ _ _ _ => F8
        rename News _ _ _ _ => N8
        rw [Int.toNat_natCast] at N8
        rw [ec] at F8
        have hq : ps.length - (2 * pos' + 2) < ps.length - pos' := by unfold Ch at hc; omega
        have hpm : ((ps'.set pos' (G ps' (2 * pos' + 2))).set (2 * pos' + 2) (G ps st)).Perm ps := (perm_swap_set (by omega) (by omega) (by omega)).trans hperm
        have hln : (ps'.set pos' (G ps' (2 * pos' + 2))).length = ps.length := by rw [List.length_set]; exact hlen
        have hdn := hH'.down hc hcl hmin
        refine' LEnd.intro (vs'.set pos' (.ref a2), ps'.set pos' (G ps' (2 * pos' + 2)), 2 * pos' + 2, _, _) F8 N8 ?h1 ?h2 ?h3
        case h3 => kst_all
        case h1 => exact ⟨⟨hP'.set hm2 pos', hdn, hpm, hln⟩, hq⟩
        case h2 => exact fun _ h => h

    · rename ¬ (_ : Int) < _ => hge
      have hc : Ch pos' (2 * pos' + 1) := .inl rfl
      have ec : 2 * (pos' : Int) + 1 = ((2 * pos' + 1 : Nat) : Int) := by omega
      have hcl : 2 * pos' + 1 < ps'.length := by omega
      have hmin : ∀ j, Ch pos' j → j < ps'.length → plt (G ps' j) (G ps' (2 * pos' + 1)) = false := fun j hj hjl => by unfold Ch at hj; rcases hj with e | e <;> first | (rw [e]; exact plt_irr _) | (exfalso; omega)
      rename News _ _ _ _ => N5
      obtain ⟨a2, ti2, tj2, n2, hv2, hm2⟩ := hP'.get hcl
      refine item_cell (N5 _ (.head _)).1 (by omega) (by omega) (by rw [ec, Int.toNat_natCast]; exact hv2) ?_
      k_steps
      rename Fr _ _ _ _ => F6
      refine set_cell F6 N5 (.head hap) (by omega) (by omega) (by omega) fun h1 F7 N7 => ?_
      k_steps
      dsimp only [TEnd]
      rename Fr _ _ _ _ => F8
      rename News _ _ _ _ => N8
      rw [Int.toNat_natCast] at N8
      rw [ec] at F8
      have hq : ps.length - (2 * pos' + 1) < ps.length - pos' := by unfold Ch at hc; omega
      have hpm : ((ps'.set pos' (G ps' (2 * pos' + 1))).set (2 * pos' + 1) (G ps st)).Perm ps := (perm_swap_set (by omega) (by omega) (by omega)).trans hperm
      have hln : (ps'.set pos' (G ps' (2 * pos' + 1))).length = ps.length := by rw [List.length_set]; exact hlen
      have hdn := hH'.down hc hcl hmin
      refine' LEnd.intro (vs'.set pos' (.ref a2), ps'.set pos' (G ps' (2 * pos' + 1)), 2 * pos' + 1, _, _) F8 N8 ?h1 ?h2 ?h3
      case h3 => kst_all
      case h1 => exact ⟨⟨hP'.set hm2 pos', hdn, hpm, hln⟩, hq⟩
      case h2 => exact fun _ h => h

    · rename ¬ (_ : Int) < _ => hge
      rename Fr _ _ _ _ => F9
      rename News _ _ _ _ => N9
      have hz : ps.length ≤ 2 * pos' + 1 := by omega
      refine' LEnd.intro (vs', ps', pos', tk1, tk2) F9 N9 ?h1 ?h2 ?h3
      case h3 => kst_all
      case h1 => exact ⟨hP', hH', hperm, hlen, hz⟩
      case h2 => exact fun _ h => h
  case dn =>
    rintro ⟨vs', ps', pos', tk1, tk2⟩ u h tk ⟨hP', hH', hperm, hlen, hleaf⟩ F3 N3
    dsimp only [fmap] at F3 N3 hP' hH' hperm hlen hleaf ⊢
    have hvl' := hP'.length
    have hlt' := hH'.lt
    k_steps
    refine set_cell F3 N3 (.head hap) (by omega) (by omega) (by omega) fun h1 F4 N4 => ?_
    k_steps
    rename Fr _ _ _ _ => F5
    rw [Int.toNat_natCast] at N4
    refine Held.out ?_
    have hx : G (ps'.set pos' (G ps st)) pos' = G ps st := by rw [G_set hlt', if_pos rfl]
    refine Spec.use (siftdown_c w tl rest l (vs'.set pos' (.ref a0)) (ps'.set pos' (G ps st)) n st pos' _ _ hap hsub (hP'.set hm pos') (by rw [hx]; exact hH'.leaf (by omega)) (by rw [List.length_set]; omega)) (by assumption) F5 (by assumption) N4 (by assumption) rfl (by ktr_room) (by ktr_units) ?_
    rintro v led' h' tk' F9 N9 ⟨rfl, vs2, ps2, rfl, hP2, hH2, hperm2⟩
    k_steps
    exact hret _ _ _ _ (by assumption) (by assumption) ⟨rfl, vs2, ps2, rfl, hP2, hH2, hperm2.trans hperm⟩
end Mine
end

section
open PySem PySem.W PySem.Spec PySem.Calls PyProof.Rows
set_option maxRecDepth 100000
set_option maxHeartbeats 8000000
namespace Mine
theorem begin_L1C : True := by
  w_top off
  exact True.intro
local macro_rules | `(tactic| walk_at "exec For Name Call cons nil") => `(tactic| (k_dflt (refine Mine.for_held ?_ (by intro _; rfl))))
local macro_rules | `(tactic| walk_at "call builtin:len") => `(tactic| (refine Mine.Held.mk ?_))
local macro_rules | `(tactic| walk_at "call ref") => `(tactic| (refine Mine.Held.mk ?_))
local macro_rules | `(tactic| walk_at "call type:reversed") => `(tactic| (refine Mine.Held.mk ?_))

theorem heapify_c (w : World) (tl rest : List (Addr × Obj)) (l : Addr) (vs : List Value) (ps : List (Int × Int)) (n : Nat)
    (hap : ∀ p ∈ rest, p.1 ≠ l) (hsub : ∀ p ∈ tl, p ∈ rest) (hP : Prs tl vs ps) (hsz : ps.length ≤ 64) :
    Spec w 28 3 ((l, listOf vs.toArray n) :: rest) [.ref l]
      (fun v led' => v = .none ∧ ∃ vs' ps', led' = (l, listOf vs'.toArray n) :: rest ∧ Prs tl vs' ps' ∧ HeapFrom 0 ps' ∧ ps'.Perm ps) := by
  unfold Spec
  k_fill
  intro mean mg mb dp un gd cn cs a ccd cl outer A₀ base h₀ L m s Q E B F X N T hk hd hu hret
  refine wpAny_call ?_
  k_dflt cell_enter
  have hvl := hP.length
  k_steps
  rename News _ _ _ _ => N1
  refine Held.out (len_cell (N1 _ (.head _)).1 (by omega) ?_)
  k_steps
  rename News _ _ _ _ => N2
  rename Fr _ _ _ _ => F2
  rename IsRange _ _ _ _ _ _ _ _ => R2
  have hb : (vs.length : Int).fdiv 2 = ((vs.length / 2 : Nat) : Int) := by rw [Int.fdiv_eq_ediv_of_nonneg _ (by decide)]; rfl
  refine Held.out ?_
  refine' reversed_N (k := vs.length / 2) F2 N2 R2 ?hr1 ?hr2 ?hr3 fun I h3 F3 N3 hI => ?_
  case hr1 => rw [rangeSize_nat, hb]; omega
  case hr2 => rw [hb]; omega
  case hr3 => rw [hb]; omega
  dsimp only
  refine Held.out ?_
  refine for_down (n := vs.length / 2) (σ := List Value × List (Int × Int))
    (fun c => (l, listOf c.1.toArray n) :: rest)
    (fun c => [(Str.ofString "x", .ref l)])
    (fun i c => Prs tl c.1 c.2 ∧ c.2.Perm ps ∧ HeapFrom (vs.length / 2 - i) c.2)
    (fun c => Prs tl c.1 c.2 ∧ c.2.Perm ps ∧ HeapFrom 0 c.2) (vs, ps) rfl (N3 _ (.head _)).1 (N3 _ (.head _)).2.2 (N3 _ (.head _)).2.1 (fun p hp => Nat.ne_of_lt (hI p hp)) F3 (fun p hp => N3 p (.tail _ hp)) ⟨hP, List.Perm.refl _, ?_⟩ (by kst_all) ?turn ?els ?done rfl rfl (by with_unfolding_all passes_own)
  · intro i j hi hij hj
    exfalso
    dsimp only at hi hj
    rcases hij with e | e <;> omega
  case turn =>
    rintro i t ⟨vs', ps'⟩ u h tk oI hin ⟨hP', hpm, hH⟩ hne F4 N4
    dsimp only [fmap] at F4 N4 hP' hpm hH hne ⊢
    have hlen := hpm.length_eq
    have hvl' := hP'.length
    k_steps
    refine Held.out ?_
    have hap' : ∀ p ∈ rest ++ [(I, oI)], p.1 ≠ l := fun p hp => (List.mem_append.mp hp).elim (hap p) fun hp => by
      rw [List.mem_singleton.mp hp]
      exact (hne _ (.head _)).symm
    refine Spec.use (siftup_c w tl (rest ++ [(I, oI)]) l vs' ps' n (vs.length / 2 - 1 - i) _ hap' (fun p hp => List.mem_append.mpr (.inl (hsub p hp))) hP' (by omega) (by rw [show vs.length / 2 - 1 - i + 1 = vs.length / 2 - i by omega]; exact hH) (by omega)) (by assumption) F4 (by assumption) N4 (by assumption) rfl (by ktr_room) (by ktr_units) ?_
    rintro v led' h' tk' F9 N9 ⟨rfl, vs2, ps2, rfl, hP2, hH2, hpm2⟩
    k_steps
    dsimp only [FTEnd]
    refine FEnd.intro (vs2, ps2) F9 N9 ⟨hP2, hpm2.trans hpm, ?_⟩ (by simp) (fun p hp => ?_) ?_ (by kst_all)
    · rw [show vs.length / 2 - (i + 1) = vs.length / 2 - 1 - i by omega]
      exact hH2
    · rcases List.mem_cons.mp hp with rfl | hp
      · exact .head _
      · exact .tail _ (List.mem_append.mpr (.inl hp))
    · intro p hp
      rcases List.mem_cons.mp hp with rfl | hp
      · exact hne (l, listOf vs'.toArray n) (.head _)
      · exact hne _ (.tail _ hp)
  case els =>
    rintro ⟨vs', ps'⟩ u h tk ⟨hP', hpm, hH⟩ F4 N4
    exact els_nil ⟨hP', hpm, by rw [Nat.sub_self] at hH; exact hH⟩ F4 N4 (by kst_all)
  case done =>
    rintro ⟨vs', ps'⟩ u h tk ⟨hP', hpm, hH⟩ F4 N4
    dsimp only [fmap] at F4 N4 hP' hpm hH ⊢
    k_steps
    exact hret _ _ _ _ (by assumption) (by assumption) ⟨rfl, vs', ps', rfl, hP', hH, hpm⟩
end Mine
end

section
open PySem PySem.W PySem.Spec PySem.Calls PyProof.Rows
set_option maxRecDepth 100000
set_option maxHeartbeats 8000000
namespace Mine
local macro_rules | `(tactic| walk_at "Mine pad") => `(tactic| skip)
local macro_rules | `(tactic| walk_at "Mine pad") => `(tactic| skip)
theorem begin_L1D : True := by
  w_top off
  exact True.intro
local macro_rules | `(tactic| walk_at "call ref") => `(tactic| (refine Mine.Held.mk ?_))
local macro_rules | `(tactic| walk_at "call builtin:list.pop") => `(tactic| (refine Mine.Held.mk ?_))
local macro_rules | `(tactic| walk_at "truthy ref") => `(tactic| (refine Mine.Held.mk ?_))

theorem Prs.snoc {led : List (Addr × Obj)} : ∀ {vs ps}, Prs led vs ps → ps ≠ [] → ∃ vs0 ps0 a i j ti tj n, vs = vs0 ++ [Value.ref a] ∧ ps = ps0 ++ [(i, j)] ∧ Prs led vs0 ps0 ∧ (a, tup2 i j ti tj n) ∈ led
  | _, _, .nil, h => absurd rfl h
  | _, _, .cons (ps := []) hm hr, _ => by
    cases hr
    exact ⟨[], [], _, _, _, _, _, _, rfl, rfl, .nil, hm⟩
  | _, _, .cons (ps := q :: r) hm hr, _ => by
    obtain ⟨vs0, ps0, a, i, j, ti, tj, n, e1, e2, h3, h4⟩ := hr.snoc (by simp)
    exact ⟨_ :: vs0, _ :: ps0, a, i, j, ti, tj, n, by rw [e1]; rfl, by rw [e2]; rfl, .cons hm h3, h4⟩

theorem heap_cut {ps0 : List (Int × Int)} {x : Int × Int} (hH : HeapFrom 0 (ps0 ++ [x])) (hne : 0 < ps0.length) : HeapFrom 1 (ps0.set 0 x) := by
  intro i j hi hij hj
  rw [List.length_set] at hj
  have hjl : i < j := by rcases hij with e | e <;> omega
  rw [G_set hne, G_set hne, if_neg (by omega), if_neg (by omega)]
  have := hH i j (Nat.zero_le _) hij (by rw [List.length_append]; omega)
  rw [G_append_left hj, G_append_left (by omega)] at this
  exact this
theorem perm_cut {ps0 : List (Int × Int)} {x : Int × Int} (hne : 0 < ps0.length) : (G (ps0 ++ [x]) 0 :: ps0.set 0 x).Perm (ps0 ++ [x]) := by
  cases ps0 with
  | nil => exact absurd hne (Nat.lt_irrefl _)
  | cons a r =>
    show (a :: x :: r).Perm (a :: (r ++ [x]))
    exact List.Perm.cons _ (List.perm_append_singleton x r).symm

theorem heappop_c (w : World) (tl rest : List (Addr × Obj)) (l : Addr) (vs : List Value) (ps : List (Int × Int)) (n : Nat)
    (hap : ∀ p ∈ rest, p.1 ≠ l) (hsub : ∀ p ∈ tl, p ∈ rest) (hP : Prs tl vs ps) (hH : HeapFrom 0 ps) (hne : ps ≠ []) (hsz : ps.length ≤ 64) :
    Spec w 21 3 ((l, listOf vs.toArray n) :: rest) [.ref l]
      (fun v led' => ∃ a ti tj k, v = .ref a ∧ (a, tup2 (G ps 0).1 (G ps 0).2 ti tj k) ∈ tl ∧ ∃ vs' ps' n', led' = (l, listOf vs'.toArray n') :: rest ∧ Prs tl vs' ps' ∧ HeapFrom 0 ps' ∧ (G ps 0 :: ps').Perm ps) := by
  unfold Spec
  k_fill
  intro mean mg mb dp un gd cn cs a ccd cl outer A₀ base h₀ L m s Q E B F X N T hk hd hu hret
  refine wpAny_call ?_
  k_dflt cell_enter
  obtain ⟨vs0, ps0, a1, i1, j1, ti1, tj1, n1, rfl, rfl, hP0, hm1⟩ := hP.snoc hne
  have hvl := hP0.length
  simp only [List.length_append, List.length_singleton] at hsz
  k_steps
  refine Held.out ?_
  rename Fr _ _ _ _ => F1
  rename News _ _ _ _ => N1
  refine kl_pop F1 N1 (p := vs0) (y := .ref a1) (by simpa using kpa_last _ vs0) (.head hap) (by rw [PySem.sizeLine_eq]; simp; omega) fun h2 F2 N2 => ?_
  k_steps
  refine Held.out ?_
  rename News _ _ _ _ => N3
  refine wpAny_truthy_list (PySem.IsL.isList (n := n + 1) (N3 _ (.head _)).1) (by simp; omega) ?_
  cases vs0 with
  | nil =>
    have e0 : ps0 = [] := List.eq_nil_of_length_eq_zero hvl.symm
    subst e0
    simp only [List.isEmpty_toArray, List.isEmpty_nil, Bool.not_true]
    k_steps
    exact hret _ _ _ _ (by assumption) (by assumption) ⟨a1, ti1, tj1, n1, rfl, hm1, [], [], n + 1, rfl, .nil, fun i j _ _ h => absurd h (Nat.not_lt_zero _), List.Perm.refl _⟩
  | cons v1 vr =>
    simp only [List.isEmpty_toArray, List.isEmpty_cons, Bool.not_false]
    have hpos : 0 < ps0.length := by rw [← hvl]; exact Nat.succ_pos _
    obtain ⟨a0, ti0, tj0, n0, hv0, hm0⟩ := hP0.get hpos
    have ev : v1 = .ref a0 := Option.some.inj hv0
    subst ev
    k_steps
    rename Fr _ _ _ _ => F4
    rename News _ _ _ _ => N4
    refine set_cell F4 N4 (.head hap) (by decide) (by simp) (by decide) fun h5 F5 N5 => ?_
    k_steps
    refine Held.out ?_
    have hp1 : Prs tl (.ref a1 :: vr) (ps0.set 0 (i1, j1)) := hP0.set hm1 0
    refine Spec.use (siftup_c w tl rest l (.ref a1 :: vr) (ps0.set 0 (i1, j1)) (n + 1) 0 _ hap hsub hp1 (by rw [List.length_set]; exact hpos) (heap_cut hH hpos) (by rw [List.length_set]; omega)) (by assumption) F5 (by assumption) N5 (by assumption) rfl (by ktr_room) (by ktr_units) ?_
    rintro v led' h' tk' F9 N9 ⟨rfl, vs2, ps2, rfl, hP2, hH2, hpm2⟩
    k_steps
    have eg : G (ps0 ++ [(i1, j1)]) 0 = G ps0 0 := G_append_left hpos
    refine hret _ _ _ _ (by assumption) (by assumption) ⟨a0, ti0, tj0, n0, rfl, by rw [eg]; exact hm0, vs2, ps2, n + 1, rfl, hP2, hH2, ?_⟩
    exact (hpm2.cons _).trans (perm_cut hpos)
end Mine
end

section
open PySem PySem.W PySem.Spec PySem.Calls PyProof.Rows
set_option maxRecDepth 100000
set_option maxHeartbeats 8000000
namespace Mine
local macro_rules | `(tactic| walk_at "Mine pad") => `(tactic| skip)
local macro_rules | `(tactic| walk_at "Mine pad") => `(tactic| skip)
local macro_rules | `(tactic| walk_at "Mine pad") => `(tactic| skip)
local macro_rules | `(tactic| walk_at "Mine pad") => `(tactic| skip)
theorem begin_L1E : True := by
  w_top off
  exact True.intro
local macro_rules | `(tactic| walk_at "exec While BinOp cons nil") => `(tactic| (refine Mine.Held.mk ?_))
local macro_rules | `(tactic| walk_at "call builtin:next") => `(tactic| (refine Mine.Held.mk ?_))

theorem parse_c (w : World) (rest : List (Addr × Obj)) (l it : Addr) (vs : List Value) (os : List Int) (n i k : Nat)
    (hap : ∀ p ∈ rest, p.1 ≠ it) (hl : (l, listOf vs.toArray n) ∈ rest) (hi : IntsAre vs os) (hk : 1 ≤ k) (hk3 : k ≤ 3) (hin : i + k ≤ os.length)
    (hmore : ∀ j, j + 1 < k → Builtin.bitAnd (os.getD (i + j) 0) 64 ≠ 0) (hlast : Builtin.bitAnd (os.getD (i + (k - 1)) 0) 64 = 0) :
    Spec w 57 1 ((it, lit (.ref l) i) :: rest) [.ref it]
      (fun v led' => (∃ t, v = .int (pv os i k) t) ∧ led' = (it, lit (.ref l) (i + k)) :: rest) := by
  unfold Spec
  k_fill
  intro mean mg mb dp un gd cn cs a ccd cl outer A₀ base h₀ L m s Q E B F X N T hk' hd hu hret
  refine wpAny_call ?_
  k_dflt cell_enter
  have hget : ∀ j, j < os.length → ∃ t, vs[j]? = some (.int (os.getD j 0) t) := fun j hj => hi.get j _ (by simp [List.getD_eq_getElem?_getD, hj])
  k_steps
  refine Held.out ?_
  rename Fr _ _ _ _ => F1
  rename News _ _ _ _ => N1
  obtain ⟨t0, hv0⟩ := hget i (by omega)
  refine next_N F1 N1 (.head hap) (N1 _ (.tail _ hl)).1 hv0 fun h2 F2 N2 => ?_
  k_steps
  refine Held.out ?_
  rename Fr _ _ _ _ => F3
  rename News _ _ _ _ => N3
  rw [bitAnd_m6] at F3
  refine' whileL (σ := Nat × Tok × Tok)
    (fun c => (it, lit (.ref l) (i + (c.1 + 1))) :: rest)
    (fun c => [(Str.ofString "iterator", .ref it), (Str.ofString "b", .int (os.getD (i + c.1) 0) c.2.1), (Str.ofString "val", .int (pv os i (c.1 + 1)) c.2.2)])
    (fun c => c.1 + 1 ≤ k) (fun c => c.1 + 1 = k) (fun c => k - c.1) (0, _, _) F3 N3 ?hi ?hk ?turn ?dn
  case hk => kst_all
  case hi => exact hk
  case turn =>
    rintro ⟨j, t1, t2⟩ u h tk hj F4 N4
    dsimp only [fmap] at F4 N4 hj ⊢
    have hpv := pv_lt os i
    have hpn := pv_nonneg os i (j + 1)
    have hpb : (pv os i (j + 1)).natAbs < 2 ^ 64 := by
      have : j = 0 ∨ j = 1 ∨ j = 2 := by omega
      rcases this with rfl | rfl | rfl
      · show (pv os i 1).natAbs < _
        have := pv_nonneg os i 1
        omega
      · show (pv os i 2).natAbs < _
        have := pv_nonneg os i 2
        omega
      · show (pv os i 3).natAbs < _
        have := pv_nonneg os i 3
        omega
    k_steps
    · refine Held.out ?_
      rename Builtin.bitAnd _ _ ≠ 0 => hne
      have hjk : j + 1 < k := by
        rcases Nat.lt_or_ge (j + 1) k with h | h
        · exact h
        · exfalso
          apply hne
          rw [show j = k - 1 by omega]
          exact hlast
      rename Fr _ _ _ _ => F5
      rename News _ _ _ _ => N5
      obtain ⟨t3, hv3⟩ := hget (i + (j + 1)) (by omega)
      refine next_N F5 N5 (.head hap) (N5 _ (.tail _ hl)).1 hv3 fun h6 F6 N6 => ?_
      k_steps
      rename Fr _ _ _ _ => F7
      rename News _ _ _ _ => N7
      rw [show (2 : Int) ^ Int.toNat 6 = 64 from rfl, pv_next] at F7
      dsimp only [TEnd]
      have hm : k - (j + 1) < k - j := by omega
      refine' LEnd.intro (j + 1, _, _) F7 N7 ?h1 ?h2 ?h3
      case h3 => kst_all
      case h1 => exact ⟨hjk, hm⟩
      case h2 => exact fun _ h => h
    · rename Builtin.bitAnd _ _ = 0 => hze
      have hjk : j + 1 = k := by
        rcases Nat.lt_or_ge (j + 1) k with h | h
        · exact absurd hze (hmore j h)
        · omega
      rename Fr _ _ _ _ => F7
      rename News _ _ _ _ => N7
      refine' LEnd.intro (j, t1, t2) F7 N7 ?h1 ?h2 ?h3
      case h3 => kst_all
      case h1 => exact hjk
      case h2 => exact fun _ h => h
  case dn =>
    rintro ⟨j, t1, t2⟩ u h tk hj F4 N4
    dsimp only [fmap] at F4 N4 hj ⊢
    k_steps
    refine hret _ _ _ _ (by assumption) (by assumption) ⟨⟨t2, ?_⟩, ?_⟩
    · rw [hj]
    · rw [hj]
end Mine
end

section
open PySem PySem.W PySem.Spec PySem.Calls PyProof.Rows
set_option maxRecDepth 100000
set_option maxHeartbeats 8000000
namespace Mine
local macro_rules | `(tactic| walk_at "Mine pad") => `(tactic| skip)
theorem begin_L1F : True := by
  w_top off
  exact True.intro
local macro_rules | `(tactic| walk_at "exec For Name Call cons nil") => `(tactic| (k_dflt (refine Mine.for_held ?_ (by intro _; rfl))))
local macro_rules | `(tactic| walk_at "call builtin:next") => `(tactic| (refine Mine.Held.mk ?_))
local macro_rules | `(tactic| walk_at "call builtin:iter") => `(tactic| (refine Mine.Held.mk ?_))
local macro_rules | `(tactic| walk_at "call builtin:len") => `(tactic| (refine Mine.Held.mk ?_))
local macro_rules | `(tactic| walk_at "newList") => `(tactic| (refine Mine.Held.mk ?_))
local macro_rules | `(tactic| walk_at "call ref") => `(tactic| (refine Mine.Held.mk ?_))

/-- the octets from i on fall into groups of these sizes -/
inductive Groups (os : List Int) : Nat → List Nat → Prop
  | nil : Groups os os.length []
  | cons {i k : Nat} {ks : List Nat} : 1 ≤ k → k ≤ 3 → i + k ≤ os.length → (∀ j, j + 1 < k → Builtin.bitAnd (os.getD (i + j) 0) 64 ≠ 0) → Builtin.bitAnd (os.getD (i + (k - 1)) 0) 64 = 0 → Groups os (i + k) ks → Groups os i (k :: ks)
def vals (os : List Int) : Nat → List Nat → List Int
  | _, [] => []
  | i, k :: ks => pv os i k :: vals os (i + k) ks
theorem Groups.le {os : List Int} {i : Nat} {ks : List Nat} (h : Groups os i ks) : i + ks.length ≤ os.length := by
  induction h with
  | nil => simp
  | cons h1 _ _ _ _ _ ih => simp only [List.length_cons]; omega

theorem read_c (w : World) (led : List (Addr × Obj)) (l : Addr) (vs : List Value) (os : List Int) (n : Nat) (ks : List Nat)
    (hl : (l, listOf vs.toArray n) ∈ led) (hos : IntsAre vs os) (hlen : os.length ≤ 64) (hg : Groups os 0 ks) :
    Spec0 w 111 2 led [.ref l]
      (fun v led' => ∃ a us k, v = .ref a ∧ led' = (a, listOf us.toArray k) :: led ∧ (∀ p ∈ led, p.1 < a) ∧ IntsAre us (vals os 0 ks)) := by
  unfold Spec0
  k_fill
  intro mean mg mb dp un gd cn cs a ccd cl A₀ h₀ L m s Q E B F X N T hk' hd hu hret
  refine wpAny_call ?_
  k_dflt (refine' code_defS0X ?k1 ?k2 ?k3 ?k4 ?k5 ?kA ?kF ?kK ?k6 ?k7 ?k8 ?k9 ?kB ?_ ?c2 ?c3 ?c4 ?c5; (case kA => exact rfl); (case kF => exact rfl); (case kK => assumption); (case k1 => k_asm); (case k2 => k_asm); (case k3 => k_asm); (case k4 => k_asm); (case k5 => k_asm); (case k6 => k_is); (case k7 => k_is); (case k8 => ktr_room); (case k9 => exact BindsTo.of_eq rfl); (case c5 => decide); (case kB => exact locs rfl); (case c2 => exact rfl); (case c3 => exact rfl); (case c4 => exact rfl); k_whole; intro g' L' h' FG' F' N' B' X' T' D'; (try dsimp only); (try k_fold))
  have hvl := hos.length
  have hos' : IntsAre vs os ∧ True := ⟨hos, trivial⟩
  k_steps
  refine Held.out ?_
  rename Fr _ _ _ _ => F1
  rename News _ _ _ _ => N1
  refine iter_N F1 N1 (N1 _ hl).1 fun I h2 F2 N2 hI => ?_
  k_steps
  refine Held.out ?_
  rename Fr _ _ _ _ => F3
  rename News _ _ _ _ => N3
  refine newList_K F3 N3 fun a3 h3 F3' N3' hl3 => ?_
  k_steps
  refine Held.out ?_
  rename Fr _ _ _ _ => F4
  rename News _ _ _ _ => N4
  refine len_cell (N4 _ (.tail _ (.tail _ hl))).1 (by omega) ?_
  k_steps
  refine Held.out ?_
  rename Fr _ _ _ _ => F5
  rename News _ _ _ _ => N5
  rename IsRange _ _ _ _ _ _ _ _ => R5
  have hlI : l < I := hI _ hl
  have hIa : I < a3 := hl3 _ (.head _)
  have hla : ∀ p ∈ led, p.1 < a3 := fun p hp => hl3 _ (.tail _ hp)
  refine for_range (n := os.length + 1) (σ := Nat × List Nat × List Value × List Int × Nat)
    (fun c => (a3, listOf c.2.2.1.toArray c.2.2.2.2) :: (I, lit (.ref l) c.1) :: led)
    (fun c => [(Str.ofString "tape", .ref I), (Str.ofString "numbers", .ref a3)])
    (fun t c => Groups os c.1 c.2.1 ∧ t ≤ c.1 ∧ c.2.2.2.1 ++ vals os c.1 c.2.1 = vals os 0 ks ∧ IntsAre c.2.2.1 c.2.2.2.1 ∧ c.2.2.2.1.length = t)
    (fun _ => False) (0, ks, [], [], 0) rfl R5 (small_one (by decide) (by decide) (by omega) (by omega)) (by rw [rangeSize_nat]; omega) F5 N5 ⟨hg, Nat.le_refl _, rfl, .nil, rfl⟩ (by kst_all) ?turn ?els ?done rfl rfl (by with_unfolding_all passes_own)
  case turn =>
    rintro t tk0 ⟨i, kr, us, xs, e⟩ u h tk J oJ hin ⟨hgr, hti, heq, hus, hul⟩ hne F6 N6
    dsimp only [fmap] at F6 N6 hgr hti heq hus hul hne ⊢
    k_steps
    refine Held.out ?_
    have hap : ∀ p ∈ (a3, listOf us.toArray e) :: led ++ [(J, oJ)], p.1 ≠ I := by
      intro p hp
      rcases List.mem_append.mp hp with hp | hp
      · rcases List.mem_cons.mp hp with rfl | hp
        · exact Nat.ne_of_gt hIa
        · exact Nat.ne_of_lt (hI p hp)
      · rw [List.mem_singleton.mp hp]
        exact (hne (I, lit (.ref l) i) (.tail _ (.head _))).symm
    have N7 : News g' L' h ((I, lit (.ref l) i) :: ((a3, listOf us.toArray e) :: led ++ [(J, oJ)])) := news_perm N6 (List.Perm.swap _ _ _)
    cases hgr with
    | nil =>
      refine wpAny_call ?_
      k_dflt (refine' code_def ?k1 ?k2 ?k3 ?k4 ?k5 ?kA ?kF ?kK ?k6 ?k7 ?k8 ?k9 ?kB ?_ ?c2 ?c3 ?c4 ?c5; (case kA => exact rfl); (case kF => exact rfl); (case kK => exact rfl); (case k1 => k_asm); (case k2 => exact F6); (case k3 => k_asm); (case k4 => exact N7); (case k5 => k_asm); (case k6 => k_is); (case k7 => k_is); (case k8 => ktr_room); (case k9 => exact BindsTo.of_eq rfl); (case c5 => decide); (case kB => exact locs rfl); (case c2 => exact rfl); (case c3 => exact rfl); (case c4 => exact rfl); k_whole; intro g2 L2 h2' FG2 F2' N2' B2 X2 T2; (try dsimp only); (try k_fold))
      k_steps
      refine Held.out ?_
      rename Fr g2 _ _ _ => F8
      rename News g2 _ _ _ => N8
      have hlm : (l, listOf vs.toArray n) ∈ (a3, listOf us.toArray e) :: led ++ [(J, oJ)] := by simp [hl]
      have hvn : vs[os.length]? = none := List.getElem?_eq_none (Nat.le_of_eq hvl)
      refine next_endN rfl F8 N8 hap (N8 _ (.tail _ hlm)).1 hvn fun h₁ h₂ e8 F9 N9 hx => ?_
      k_unfold
      dsimp only
      refine leave_newS B2 hx F9 N9 (fun h3 R3 _ U3 => ?_) rfl
      refine' caught_SN0 (x := Str.ofString "StopIteration") (X := "StopIteration") (T' := "StopIteration") R3 FG2 (by assumption) U3 X T (by assumption) KtsTurn.refl ?ex ?hv (by decide) ?hexc ?hnt ?hsub (fun h4 g4 T4 F11 N11 B4 X4 P4 D4 => ?_) ?e1 ?e2 ?e3 ?e4
      case ex => k_is
      case hv => exact PyProof.Rows.Boot.«StopIteration»
      case hexc => rw [isSubtype_type]; kernel_rfl
      case hnt => rw [show ((Manifest.find? "StopIteration").elim "type" fun x => x.metatype) = "type" from by kernel_rfl, isSubtype_type]; kernel_rfl
      case hsub => rw [isSubtype_type]; kernel_rfl
      case e1 => rfl
      case e2 => rfl
      case e3 => decide
      case e4 => with_unfolding_all passes_own
      k_steps
      dsimp only [FTEnd]
      k_unfold
      dsimp only
      have hxs : xs = vals os 0 ks := by
        have e : vals os os.length [] = [] := rfl
        rw [e, List.append_nil] at heq
        exact heq
      refine leaveS0_ F11 N11 T4 fun kF kN => ?_
      exact hret (.ref a3) ((a3, listOf us.toArray e) :: led) h4 _ kF (fun p hp => kN p (List.mem_append.mpr (.inl hp))) ⟨a3, us, e, rfl, rfl, hla, by rw [← hxs]; exact hus⟩
    | @cons _ k kr' h1 h3 hik hmore hlast hgr' =>
      refine Spec.use (parse_c w ((a3, listOf us.toArray e) :: led ++ [(J, oJ)]) l I vs os n i k hap (by simp [hl]) hos'.1 h1 h3 hik hmore hlast) (by assumption) F6 (by assumption) N7 (by assumption) rfl (by ktr_room) (by ktr_units) ?_
      rintro v led' h' tk' F8 N8 ⟨⟨t8, rfl⟩, rfl⟩
      k_steps
      have hap3 : ∀ p ∈ led ++ [(J, oJ)], p.1 ≠ a3 := by
        intro p hp
        rcases List.mem_append.mp hp with hp | hp
        · exact Nat.ne_of_lt (hla p hp)
        · rw [List.mem_singleton.mp hp]
          exact (hne (a3, listOf us.toArray e) (.head _)).symm
      have hul2 := hus.length
      have hgl := hgr'.le
      refine append_K F8 N8 (.tail (Nat.ne_of_lt hIa) (.head hap3)) (fun h9 F9 N9 => ?_) (by rw [List.size_toArray, PySem.sizeLine_eq]; omega)
      k_steps
      dsimp only [FTEnd]
      rename Fr _ _ _ _ => F10
      rename News _ _ _ _ => N10
      simp only [List.push_toArray] at N10
      have hul3 : (xs ++ [pv os i k]).length = t + 1 := by rw [List.length_append, hul]; rfl
      have heq3 : xs ++ [pv os i k] ++ vals os (i + k) kr' = vals os 0 ks := by rw [← heq, List.append_assoc]; rfl
      refine FEnd.intro (i + k, kr', us ++ [.int (pv os i k) t8], xs ++ [pv os i k], e + 1) F10 N10 ⟨hgr', by omega, heq3, hus.append (.cons _ _ .nil), hul3⟩ (by simp) (fun p hp => ?_) ?_ (by kst_all)
      · simp only [List.mem_cons, List.mem_append, List.mem_singleton] at hp ⊢
        rcases hp with rfl | rfl | hp
        · simp
        · simp
        · simp [hp]
      · intro p hp
        rcases List.mem_cons.mp hp with rfl | hp
        · exact hne (a3, listOf us.toArray e) (.head _)
        · rcases List.mem_cons.mp hp with rfl | hp
          · exact hne (I, lit (.ref l) i) (.tail _ (.head _))
          · exact hne p (.tail _ (.tail _ hp))
  case els =>
    rintro ⟨i, kr, us, xs, e⟩ u h tk ⟨hgr, hti, heq, hus, hul⟩ F6 N6
    have := hgr.le
    dsimp only at this hti
    exfalso
    omega
  case done =>
    rintro c u h tk hf
    exact hf.elim
end Mine
end

section
open PySem PySem.W PySem.Spec PySem.Calls PyProof.Rows
set_option maxRecDepth 100000
set_option maxHeartbeats 8000000
namespace Mine
theorem begin_L1G : True := by
  w_top off
  exact True.intro
local macro_rules | `(tactic| walk_at "exec For Name Call cons nil") => `(tactic| (k_dflt (refine Mine.for_held ?_ (by intro _; rfl))))
local macro_rules | `(tactic| walk_at "exec For Name Call cons cons") => `(tactic| (k_dflt (refine Mine.for_held ?_ (by intro _; rfl))))
local macro_rules | `(tactic| walk_at "newList") => `(tactic| (refine Mine.Held.mk ?_))
local macro_rules | `(tactic| walk_at "call builtin:dict.get") => `(tactic| (refine Mine.Held.mk ?_))
local macro_rules | `(tactic| walk_at "call builtin:list.append") => `(tactic| (refine Mine.Held.mk ?_))
local macro_rules | `(tactic| walk_at "call builtin:hex") => `(tactic| (refine Mine.Held.mk ?_))
local macro_rules | `(tactic| walk_at "call builtin:str.join") => `(tactic| (refine Mine.Held.mk ?_))
local macro_rules | `(tactic| walk_at "call ref") => `(tactic| (refine Mine.Held.mk ?_))

def NM : List Str := [Str.ofString "OPTIMIZED", Str.ofString "NEWLOCALS", Str.ofString "VARARGS", Str.ofString "VARKEYWORDS", Str.ofString "NESTED", Str.ofString "GENERATOR", Str.ofString "NOFREE", Str.ofString "COROUTINE", Str.ofString "ITERABLE_COROUTINE"]
/-- the bits below i -/
def fl (f i : Nat) : List Nat := (List.range i).filter fun j => f.testBit j
def nms (l : List Nat) : List Str := l.map fun j => NM.getD j (Str.ofString "")
/-- pretty_flags's words -/
def pfl (f : Nat) : List Str := if f = 0 then [Str.ofString "0x0"] else nms (fl f 9)

def flagD : List (PyData × PyData) := [(.int 1, .str (Str.ofString "OPTIMIZED")), (.int 2, .str (Str.ofString "NEWLOCALS")), (.int 4, .str (Str.ofString "VARARGS")), (.int 8, .str (Str.ofString "VARKEYWORDS")), (.int 16, .str (Str.ofString "NESTED")), (.int 32, .str (Str.ofString "GENERATOR")), (.int 64, .str (Str.ofString "NOFREE")), (.int 128, .str (Str.ofString "COROUTINE")), (.int 256, .str (Str.ofString "ITERABLE_COROUTINE")), (.int 512, .str (Str.ofString "ASYNC_GENERATOR"))]
theorem flag_tab {prog : Program} {w : World} {h : Heap} (X : (hd.heap_39 w.params).In h) : TabAt (intKind prog w) PyData.int h 43 flagD := by
  refine ⟨by decide, [(1, .str (Str.ofString "OPTIMIZED") 235), (2, .str (Str.ofString "NEWLOCALS") 237), (4, .str (Str.ofString "VARARGS") 239), (8, .str (Str.ofString "VARKEYWORDS") 241), (16, .str (Str.ofString "NESTED") 243), (32, .str (Str.ofString "GENERATOR") 245), (64, .str (Str.ofString "NOFREE") 247), (128, .str (Str.ofString "COROUTINE") 249), (256, .str (Str.ofString "ITERABLE_COROUTINE") 251), (512, .str (Str.ofString "ASYNC_GENERATOR") 253)], ?_, ?_⟩
  · refine ⟨_, _, _, X 43 _ rfl, ⟨rfl, rfl, rfl⟩, rfl, ?_, ?_, by decide⟩
    · intro e he
      simp only [List.mem_toArray, List.mem_cons, List.not_mem_nil, or_false] at he
      rcases he with rfl | rfl | rfl | rfl | rfl | rfl | rfl | rfl | rfl | rfl 
      · exact ⟨1, intKind_is _ _ _ _, by show (1 : Int) = hashInt 1; decide⟩
      · exact ⟨2, intKind_is _ _ _ _, by show (2 : Int) = hashInt 2; decide⟩
      · exact ⟨4, intKind_is _ _ _ _, by show (4 : Int) = hashInt 4; decide⟩
      · exact ⟨8, intKind_is _ _ _ _, by show (8 : Int) = hashInt 8; decide⟩
      · exact ⟨16, intKind_is _ _ _ _, by show (16 : Int) = hashInt 16; decide⟩
      · exact ⟨32, intKind_is _ _ _ _, by show (32 : Int) = hashInt 32; decide⟩
      · exact ⟨64, intKind_is _ _ _ _, by show (64 : Int) = hashInt 64; decide⟩
      · exact ⟨128, intKind_is _ _ _ _, by show (128 : Int) = hashInt 128; decide⟩
      · exact ⟨256, intKind_is _ _ _ _, by show (256 : Int) = hashInt 256; decide⟩
      · exact ⟨512, intKind_is _ _ _ _, by show (512 : Int) = hashInt 512; decide⟩
    · repeat' (first | exact Pairs.nil | refine Pairs.cons (intKind_is _ _ _ _) rfl ?_)
  · unfold flagD
    repeat' (first | exact PyProof.V.FlatPairs.nil | refine PyProof.V.FlatPairs.cons (PyProof.V.Flat.str _ _) ?_)
theorem flags_get {prog : Program} {w : World} {A : Around} {E : Value → Shared → Prop} {s : Shared} (X : (hd.heap_39 w.params).In s.heap) {i : Nat} (hi : i < 9) {k : Int} (hk : k = ((2 ^ i : Nat) : Int)) {t t' : Tok} {x : Str} {Q : Value → Shared → Prop}
    (h : ∀ t2, Q (.str (NM.getD i (Str.ofString "")) t2) { s with toks := s.toks + 1 }) : wpAny (model prog w) A (call (.builtin "dict.get") [.ref 43, .int k t, .str x t']) Q E s := by
  subst hk
  refine call_get2_intTab (flag_tab X) (PyProof.V.Flat.str _ _) fun v hv => ?_
  have : i = 0 ∨ i = 1 ∨ i = 2 ∨ i = 3 ∨ i = 4 ∨ i = 5 ∨ i = 6 ∨ i = 7 ∨ i = 8 := by omega
  rcases this with rfl | rfl | rfl | rfl | rfl | rfl | rfl | rfl | rfl
  all_goals (have hr := hv s.heap; change Reads _ _ (PyData.str _) _ at hr; cases hr; exact h _)

theorem fl_and : ∀ f < 512, ∀ i < 9, (f / 2 ^ i * 2 ^ i) &&& 2 ^ i = if f.testBit i then 2 ^ i else 0 := by decide +kernel
theorem fl_yes : ∀ f < 512, ∀ i < 9, f.testBit i = true → (f / 2 ^ i * 2 ^ i ||| 2 ^ i) = f / 2 ^ i * 2 ^ i ∧ 2 ^ i ≤ f / 2 ^ i * 2 ^ i ∧ f / 2 ^ i * 2 ^ i - 2 ^ i = f / 2 ^ (i + 1) * 2 ^ (i + 1) := by decide +kernel
theorem fl_no : ∀ f < 512, ∀ i < 9, f.testBit i = false → f / 2 ^ i * 2 ^ i = f / 2 ^ (i + 1) * 2 ^ (i + 1) := by decide +kernel
theorem fl_end : ∀ f < 512, ∀ i < 9, f / 2 ^ (i + 1) * 2 ^ (i + 1) = 0 → fl f (i + 1) = fl f 9 := by decide +kernel
theorem fl_succ (f i : Nat) : fl f (i + 1) = fl f i ++ if f.testBit i then [i] else [] := by
  unfold fl
  rw [List.range_succ, List.filter_append]
  cases h : f.testBit i <;> simp [h]
theorem fl_le (f i : Nat) : (fl f i).length ≤ i := by
  unfold fl
  exact Nat.le_trans (List.length_filter_le _ _) (by simp)
theorem fl_zero : ∀ i, fl 0 i = []
  | 0 => rfl
  | i + 1 => by rw [fl_succ, fl_zero i]; simp
theorem hex_len : ∀ i < 9, (PySem.baseText "0x" 16 ((2 ^ i : Nat) : Int)).length ≤ 100 := by decide +kernel
theorem pfl_len : ∀ f < 512, ((pfl f).map (·.length)).sum + (pfl f).length * 64 ≤ 1000 := by decide +kernel

theorem pretty_c (w : World) (led : List (Addr × Obj)) (f : Nat) (t0 : Tok) (hf : f < 512) :
    Spec w 50 1 led [.int (f : Int) t0]
      (fun v led' => ∃ t, v = .str (Txt.join (Str.ofString ", ") (pfl f)) t ∧ led' = led) := by
  unfold Spec
  k_fill
  intro mean mg mb dp un gd cn cs a ccd cl outer A₀ base h₀ L m s Q E B F X N T hk' hd hu hret
  refine wpAny_call ?_
  k_dflt cell_enter
  k_steps
  refine Held.out ?_
  rename Fr _ _ _ _ => F1
  rename News _ _ _ _ => N1
  refine newList_K F1 N1 fun a3 h3 F3 N3 hl3 => ?_
  k_steps
  refine Held.out ?_
  rename Fr _ _ _ _ => F4
  rename News _ _ _ _ => N4
  rename IsRange _ _ _ _ _ _ _ _ => R4
  refine for_range (n := 32) (σ := Nat × Tok × List Value × List Str × Nat)
    (fun c => (a3, listOf c.2.2.1.toArray c.2.2.2.2) :: led)
    (fun c => [(Str.ofString "names", .ref a3), (Str.ofString "flags", .int (c.1 : Int) c.2.1)])
    (fun i c => c.1 = f / 2 ^ i * 2 ^ i ∧ (f ≠ 0 → c.1 ≠ 0) ∧ StrsAre c.2.2.1 c.2.2.2.1 ∧ c.2.2.2.1 = nms (fl f i))
    (fun c => StrsAre c.2.2.1 c.2.2.2.1 ∧ c.2.2.2.1 = pfl f) (f, t0, [], [], 0) rfl R4 (small_one (by decide) (by decide) (by decide) (by decide)) (by decide) F4 N4 ⟨by simp, fun h => h, .nil, rfl⟩ (by kst_all) ?turn ?els ?done rfl rfl (by with_unfolding_all passes_own)
  case turn =>
    rintro i tk0 ⟨r, tr, us, ss, e⟩ u h tk J oJ hin ⟨hr, hr0, hus, hss⟩ hne F6 N6
    dsimp only [fmap] at F6 N6 hr hr0 hus hss hne ⊢
    rw [Int.zero_add] at F6
    have e2 : (1 : Int) * 2 ^ (i : Int).toNat = ((2 ^ i : Nat) : Int) := by rw [Int.one_mul, Int.toNat_natCast]; push_cast; rfl
    have hJa : J ≠ a3 := (hne _ (.head _)).symm
    have hap : ∀ p ∈ led ++ [(J, oJ)], p.1 ≠ a3 := by
      intro p hp
      rcases List.mem_append.mp hp with hp | hp
      · exact Nat.ne_of_lt (hl3 _ hp)
      · rw [List.mem_singleton.mp hp]
        exact hJa
    have hul := hus.length
    have hbig : 9 ≤ i → r = 0 ∧ f = 0 := by
      intro h9
      have h0 : f / 2 ^ i = 0 := Nat.div_eq_of_lt (Nat.lt_of_lt_of_le hf (Nat.pow_le_pow_right (show 0 < 2 by decide) h9))
      have hr' : r = 0 := by rw [hr, h0, Nat.zero_mul]
      refine ⟨hr', ?_⟩
      rcases Nat.eq_zero_or_pos f with e | e
      · exact e
      · exact absurd hr' (hr0 (Nat.ne_of_gt e))
    k_steps
    · rename Builtin.bitAnd _ _ ≠ 0 => hz
      rw [e2, bitAnd_nat] at hz
      have hi9 : i < 9 := by
        rcases Nat.lt_or_ge i 9 with h | h
        · exact h
        · exfalso
          apply hz
          rw [(hbig h).1, Nat.zero_and]
          rfl
      have htb : f.testBit i = true := by
        cases hb : f.testBit i with
        | true => rfl
        | false =>
          exfalso
          apply hz
          rw [hr, fl_and f hf i hi9, hb]
          rfl
      obtain ⟨hy1, hy2, hy3⟩ := fl_yes f hf i hi9 htb
      have hy4 : r &&& 2 ^ i = 2 ^ i := by rw [hr, fl_and f hf i hi9, htb]; rfl
      have hx : Builtin.bitXor (r : Int) (1 * 2 ^ (i : Int).toNat) = ((f / 2 ^ (i + 1) * 2 ^ (i + 1) : Nat) : Int) := by
        have hy5 : r ||| 2 ^ i = r := by rw [hr]; exact hy1
        have hy6 : 2 ^ i ≤ r := by rw [hr]; exact hy2
        rw [e2, bitXor_nat, hy4, hy5, ← hy3, ← hr]
        omega
      have hfl := fl_le f i
      have hssl : ss.length = (fl f i).length := by rw [hss]; simp [nms]
      have hss2 : ss ++ [NM.getD i (Str.ofString "")] = nms (fl f (i + 1)) := by
        rw [hss, fl_succ, htb]
        simp [nms]
      refine Held.out (PySem.P.hex_of_int ?_ (by rw [e2, PySem.sizeLine_eq]; have := hex_len i hi9; omega))
      k_steps
      refine Held.out (flags_get (by k_in) hi9 e2 fun t2 => ?_)
      k_steps
      rename Fr _ _ _ _ => F7
      rename News _ _ _ _ => N7
      refine Held.out (append_K F7 N7 (.head hap) (fun h9 F9 N9 => ?_) (by rw [List.size_toArray, PySem.sizeLine_eq]; omega))
      have hus2 : StrsAre (us ++ [Value.str (NM.getD i (Str.ofString "")) t2]) (ss ++ [NM.getD i (Str.ofString "")]) := hus.append' (.cons _ _ .nil)
      have hf0 : f ≠ 0 := by rintro rfl; simp at htb
      k_steps
      · rename Builtin.bitXor _ _ ≠ 0 => hx0
        rename Fr _ _ _ _ => F10
        rename News _ _ _ _ => N10
        rw [hx] at F10 hx0
        simp only [List.push_toArray] at N10
        dsimp only [FTEnd]
        refine FEnd.intro (f / 2 ^ (i + 1) * 2 ^ (i + 1), _, us ++ [Value.str (NM.getD i (Str.ofString "")) t2], ss ++ [NM.getD i (Str.ofString "")], e + 1) F10 N10 ⟨rfl, fun _ h => hx0 (by have h' : f / 2 ^ (i + 1) * 2 ^ (i + 1) = 0 := h; rw [h']; rfl), hus2, hss2⟩ (by simp) (fun p hp => ?_) (fun p hp => ?_) (by kst_all)
        · rcases List.mem_cons.mp hp with rfl | hp
          · exact .head _
          · exact .tail _ (List.mem_append.mpr (.inl hp))
        · rcases List.mem_cons.mp hp with rfl | hp
          · exact hne (a3, listOf us.toArray e) (.head _)
          · exact hne p (.tail _ hp)
      · rename Builtin.bitXor _ _ = 0 => hx0
        rename Fr _ _ _ _ => F10
        rename News _ _ _ _ => N10
        rw [hx] at F10 hx0
        simp only [List.push_toArray] at N10
        dsimp only [FTEnd]
        have hpf : ss ++ [NM.getD i (Str.ofString "")] = pfl f := by
          rw [hss2, pfl, if_neg hf0, fl_end f hf i hi9 (by omega)]
        refine LEnd.intro (f / 2 ^ (i + 1) * 2 ^ (i + 1), _, us ++ [Value.str (NM.getD i (Str.ofString "")) t2], ss ++ [NM.getD i (Str.ofString "")], e + 1) F10 N10 ⟨hus2, hpf⟩ (fun p hp => ?_) (by kst_all)
        rcases List.mem_cons.mp hp with rfl | hp
        · exact .head _
        · exact .tail _ (List.mem_append.mpr (.inl hp))
    · rename Builtin.bitAnd _ _ = 0 => hz
      rename Fr _ _ _ _ => F7
      rename News _ _ _ _ => N7
      dsimp only [FTEnd]
      have hr2 : r = f / 2 ^ (i + 1) * 2 ^ (i + 1) ∧ nms (fl f i) = nms (fl f (i + 1)) := by
        rcases Nat.lt_or_ge i 9 with h9 | h9
        · have htb : f.testBit i = false := by
            cases hb : f.testBit i with
            | false => rfl
            | true =>
              exfalso
              rw [e2, bitAnd_nat, hr, fl_and f hf i h9, hb] at hz
              have : 0 < 2 ^ i := Nat.pow_pos (by decide)
              simp only [if_true] at hz
              exact absurd (Int.natCast_eq_zero.mp hz) (Nat.ne_of_gt this)
          refine ⟨hr.trans (fl_no f hf i h9 htb), ?_⟩
          rw [fl_succ, htb]
          simp
        · obtain ⟨h1, h2⟩ := hbig h9
          subst h2
          refine ⟨by rw [h1]; simp, ?_⟩
          rw [fl_zero, fl_zero]
      refine FEnd.intro (r, tr, us, ss, e) F7 N7 ⟨hr2.1, hr0, hus, hss.trans hr2.2⟩ (by simp) (fun p hp => ?_) hne (by kst_all)
      exact List.mem_append.mpr (.inl hp)
  case els =>
    rintro ⟨r, tr, us, ss, e⟩ u h tk ⟨hr, hr0, hus, hss⟩ F6 N6
    dsimp only [fmap] at F6 N6 hr hr0 hus hss ⊢
    have hf0 : f = 0 := by
      rcases Nat.eq_zero_or_pos f with e | e
      · exact e
      · exfalso
        apply hr0 (Nat.ne_of_gt e)
        rw [hr, Nat.div_eq_of_lt (by omega)]
    subst hf0
    have hr' : r = 0 := hr.trans (by simp)
    subst hr'
    have hss' : ss = [] := by rw [hss, fl_zero]; rfl
    have hul := hus.length
    rw [hss'] at hul
    have hu0 : us = [] := List.eq_nil_of_length_eq_zero hul
    k_steps
    refine Held.out (PySem.P.hex_of_int ?_ (by decide +kernel))
    k_steps
    rename Fr _ _ _ _ => F7
    rename News _ _ _ _ => N7
    refine Held.out (append_K F7 N7 (.head fun p hp => Nat.ne_of_lt (hl3 _ hp)) (fun h9 F9 N9 => ?_) (by rw [hu0]; decide))
    k_steps
    rename Fr _ _ _ _ => F10
    rename News _ _ _ _ => N10
    dsimp only [ElseEnd]
    simp only [List.push_toArray] at N10
    refine LEnd.intro (0, tr, us ++ [Value.str (PySem.baseText "0x" 16 ((0 : Nat) : Int)) _], ss ++ [Str.ofString "0x0"], e + 1) F10 N10 ⟨?_, ?_⟩ (fun _ h => h) (by kst_all)
    · exact hus.append' (.cons _ _ .nil)
    · rw [hss']
      rfl
  case done =>
    rintro ⟨r, tr, us, ss, e⟩ u h tk ⟨hus, hss⟩ F6 N6
    dsimp only [fmap] at F6 N6 hus hss ⊢
    have hsl := pfl_len f hf
    k_steps
    rename News _ _ _ _ => N7
    refine Held.out (join_listC (PySem.IsL.isList (n := e) (N7 _ (.head _)).1) (by simpa using hus) (by decide) (by rw [hss]; omega) fun t9 k9 => ?_)
    k_steps
    exact hret _ _ _ _ (by assumption) (fun p hp => (by assumption : News _ _ _ _) p (.tail _ hp)) ⟨_, by rw [hss], rfl⟩
end Mine
end

section
open PySem PySem.W PySem.Spec PySem.Calls PyProof.Rows
set_option maxRecDepth 100000
namespace Mine

/-- where a turn ends, several objects of the iterator's own kept -/
def FEndW {σ : Type} (h₀ : Heap) (L : Addr) (s : Shared) (Led : σ → List (Addr × Obj)) (ps : σ → List (Str × Value)) (own : List (Addr × Obj)) (wr : List Addr) (Post : σ → Prop) (s₂ : Shared) : Prop :=
  ∃ (c : σ) (h : Heap) (tk : Nat) (m' : Str → Option Value) (news' : List (Addr × Obj)), s₂ = { s with heap := h, toks := tk } ∧ Fr h₀ L h m' ∧ News h₀ L h news' ∧ (∀ p ∈ own, p ∈ news') ∧ (∀ p ∈ Led c, p ∈ news') ∧ (∀ p ∈ Led c, p.1 ∉ wr) ∧ (∀ p ∈ ps c, m' p.1 = some p.2) ∧ Post c
theorem FEndW.intro {σ : Type} {h₀ : Heap} {L : Addr} {s : Shared} {Led : σ → List (Addr × Obj)} {ps : σ → List (Str × Value)} {own : List (Addr × Obj)} {wr : List Addr} {Post : σ → Prop} (c : σ) {h : Heap} {tk : Nat} {m' : Str → Option Value} {news' : List (Addr × Obj)}
    (F : Fr h₀ L h m') (N : News h₀ L h news') (hp : Post c) (ho : ∀ p ∈ own, p ∈ news') (hn : ∀ p ∈ Led c, p ∈ news') (ha : ∀ p ∈ Led c, p.1 ∉ wr) (hk : ∀ p ∈ ps c, m' p.1 = some p.2) :
    FEndW h₀ L s Led ps own wr Post { s with heap := h, toks := tk } := ⟨c, h, tk, m', news', rfl, F, N, ho, hn, ha, hk, hp⟩
def FTEndW {σ : Type} (h₀ : Heap) (L : Addr) (s : Shared) (Led : σ → List (Addr × Obj)) (ps : σ → List (Str × Value)) (own : List (Addr × Obj)) (wr : List Addr) (Nxt Fin : σ → Prop) (Q : Flow → Shared → Prop) (f : Flow) (s₂ : Shared) : Prop :=
  match f with
  | .ret v => Q (.ret v) s₂
  | .brk => LEnd h₀ L s Led ps Fin s₂
  | .next => FEndW h₀ L s Led ps own wr Nxt s₂
  | .cont => FEndW h₀ L s Led ps own wr Nxt s₂

theorem own_of {h : Heap} : ∀ {wr : List Addr}, (∀ b ∈ wr, ∃ o, h.get? b = some o) → ∃ own : List (Addr × Obj), own.map (·.1) = wr ∧ ∀ p ∈ own, h.get? p.1 = some p.2
  | [], _ => ⟨[], rfl, fun _ hp => nomatch hp⟩
  | b :: r, H => by
    obtain ⟨o, ho⟩ := H b (.head _)
    obtain ⟨own, e, hr⟩ := own_of (wr := r) fun c hc => H c (.tail _ hc)
    refine ⟨(b, o) :: own, by rw [List.map_cons, e], fun p hp => ?_⟩
    rcases List.mem_cons.mp hp with rfl | hp
    · exact ho
    · exact hr p hp

section
variable {prog : Program} {w : World} {A : Around} {E : Value → Shared → Prop} {Q : Flow → Shared → Prop} {s : Shared} {env : Env} {h₀ : Heap}

theorem for2 {σ : Type} {x0 x1 : Str} {p0 p1 pt : Pos} {kk : Nat} {body orelse : List Stmt} {I : Addr} {fp wr : List Addr} {n : Nat} {Pt : Nat → Array Value → Prop} {P2 : Nat → Value → Value → Prop} {St : Nat → Heap → Prop} {Mid : Nat → Addr → Heap → Prop} {m₀ : Str → Option Value}
    (Led : σ → List (Addr × Obj)) (ps : σ → List (Str × Value)) (Inv : Nat → σ → Prop) (Fin : σ → Prop) (c₀ : σ)
    (hh : A.handled = none) (W : WalksU prog w A I fp wr n Pt St Mid) (hst : St 0 s.heap) (hw0 : ∀ b ∈ wr, h₀.get? b = none) (hLw : env.locals ∉ fp) (how : ∀ i h, St i h → ∀ b ∈ wr, ∃ o, h.get? b = some o)
    (hfp : ∀ b ∈ fp, b ∈ wr ∨ (∃ o, h₀.get? b = some o) ∨ (∃ o, ∀ i c, Inv i c → (b, o) ∈ Led c)) (hnw : ∀ p ∈ Led c₀, p.1 ∉ wr)
    (hP : ∀ i vals, Pt i vals → ∃ v0 v1, vals = #[v0, v1] ∧ P2 i v0 v1)
    (F : Fr h₀ env.locals s.heap m₀) (N : News h₀ env.locals s.heap (Led c₀)) (hi : Inv 0 c₀) (hk : ∀ p ∈ ps c₀, m₀ p.1 = some p.2)
    (turn : ∀ i v0 v1 (c : σ) (u : Str → Option Value) h tk own, i < n → P2 i v0 v1 → Inv i c → (∀ p ∈ Led c, p.1 ∉ wr) → own.map (·.1) = wr → Fr h₀ env.locals h (fun y => if y = x1 then some v1 else if y = x0 then some v0 else fmap u (ps c) y) → News h₀ env.locals h (Led c ++ own) →
      wpAny (model prog w) A (execs body env) (FTEndW h₀ env.locals s Led ps own wr (Inv (i + 1)) Fin Q) E { s with heap := h, toks := tk })
    (els : ∀ (c : σ) (u : Str → Option Value) h tk, Inv n c → Fr h₀ env.locals h (fmap u (ps c)) → News h₀ env.locals h (Led c) → wpAny (model prog w) A (execs orelse env) (ElseEnd h₀ env.locals s Led ps Fin Q) E { s with heap := h, toks := tk })
    (done : ∀ (c : σ) (u : Str → Option Value) h tk, Fin c → Fr h₀ env.locals h (fmap u (ps c)) → News h₀ env.locals h (Led c) → Q .next { s with heap := h, toks := tk })
    (hx0 : env.kindOf x0 = some .local) (hx1 : env.kindOf x1 = some .local) (hp : (env.scope.kind == .class || (env.scope.kind == .module && env.locals != env.globals)) = false) (hE : PassesOwn (model prog w) A env E) :
    LoopHere prog w A E env (.Tuple [.Name x0 p0, .Name x1 p1] kk pt) body orelse Q (.ref I) s := by
  have hLww : env.locals ∉ wr := fun h => hLw (W.sub _ h)
  refine codeAny_forLoop_any (fun k s' => ∃ i c h' tk m', s' = { s with heap := h', toks := tk } ∧ St i h' ∧ Fr h₀ env.locals h' m' ∧ News h₀ env.locals h' (Led c) ∧ (∀ p ∈ Led c, p.1 ∉ wr) ∧ (∀ p ∈ ps c, m' p.1 = some p.2) ∧ Inv i c ∧ i ≤ n ∧ k = n + 1 - i) ?_ (n + 1)
    ⟨0, c₀, s.heap, s.toks, m₀, rfl, hst, F, N, hnw, hk, hi, Nat.zero_le _, rfl⟩
  rintro k s' ⟨i, c, h', tk, m', rfl, hst', F', N', hnI', hk', hi', hin, rfl⟩
  have next : ∀ {h' h₁ : Heap}, Fr h₀ env.locals h' m' → News h₀ env.locals h' (Led c) → (∀ b o, b ∉ wr → h'.get? b = some o → h₁.get? b = some o) → Fr h₀ env.locals h₁ m' ∧ News h₀ env.locals h₁ (Led c) := fun F' N' hk₁ =>
    ⟨⟨F'.ns.at' fun o e => hk₁ _ o hLww e, fun b o e => hk₁ b o (fun hm => by rw [hw0 b hm] at e; cases e) (F'.keep b o e), F'.above⟩,
      fun p hp => ⟨hk₁ _ _ (hnI' p hp) (N' p hp).1, (N' p hp).2⟩⟩
  by_cases hlt : i < n
  · refine W.item i _ _ _ hlt hst' fun T vals h₁ tk₁ hPt hT hM hk₁ => ?_
    obtain ⟨v0, v1, rfl, hP2⟩ := hP i vals hPt
    obtain ⟨F₁, N₁⟩ := next F' N' hk₁
    have hTw := W.apart _ _ _ hM
    refine W.go _ _ _ i T _ _ _ hM fun h₂ hst₂ hk₂ => ?_
    obtain ⟨F₂, N₂⟩ := next F₁ N₁ hk₂
    have hT₂ : h₂.IsTuple T #[v0, v1] := by
      obtain ⟨o, ho, r⟩ := hT
      exact ⟨o, hk₂ _ _ hTw ho, r⟩
    refine wpAny_assign_Tuple hh hT₂ rfl rfl fun h₃ hx₃ => ?_
    replace hx₃ : Heap.ExtBut h₂.objs.size h₂ h₃ := hx₃
    have old₃ : ∀ b o, h₂.get? b = some o → h₃.get? b = some o := fun b o x => hx₃ b o (Nat.ne_of_lt (Heap.lt_size x)) x
    have F₃ : Fr h₀ env.locals h₃ m' := ⟨F₂.ns.at' fun o e => old₃ _ o e, fun b o e => old₃ b o (F₂.keep b o e), F₂.above⟩
    have N₃ : News h₀ env.locals h₃ (Led c) := fun p hp => ⟨old₃ _ _ (N₂ p hp).1, (N₂ p hp).2⟩
    show wpAny _ A (do holding [v1] (assign (.Name x0 p0) env v0); do holding [] (assign (.Name x1 p1) env v1); pure ()) _ _ _
    refine wpAny_bind (wpAny_holding (wpAny_assign_Name (wpAny_storeName_local hx0 F₃.ns (fun h₄ hn₄ hs₄ => ?_) hp)))
    replace hs₄ : Heap.SameBut env.locals h₃ h₄ := hs₄
    refine wpAny_bind (wpAny_holding (wpAny_assign_Name (wpAny_storeName_local hx1 hn₄ (fun h₅ hn₅ hs₅ => wpAny_pure ?_) hp)))
    replace hs₅ : Heap.SameBut env.locals h₄ h₅ := hs₅
    have F₅ := (F₃.set hn₄ hs₄).set hn₅ hs₅
    have N₅ := (N₃.set hs₄).set hs₅
    obtain ⟨own, eown, hown⟩ := own_of (h := h₅) fun b hb => by
      obtain ⟨o, ho⟩ := how _ _ hst₂ b hb
      have hbL : b ≠ env.locals := fun e => hLww (e ▸ hb)
      exact ⟨o, (hs₅.2 b hbL).trans ((hs₄.2 b hbL).trans (old₃ b o ho))⟩
    have hst₅ : St (i + 1) h₅ := W.frame _ _ _ hst₂ fun b hb o e => by
      have hbL : b ≠ env.locals := fun q => hLw (q ▸ hb)
      exact (hs₅.2 b hbL).trans ((hs₄.2 b hbL).trans (old₃ b o e))
    have N₆ : News h₀ env.locals h₅ (Led c ++ own) := fun p hp => (List.mem_append.mp hp).elim (N₅ p) fun hp => by
      have hm : p.1 ∈ wr := eown ▸ List.mem_map_of_mem hp
      exact ⟨hown p hp, fun e => hLww (e ▸ hm), hw0 _ hm⟩
    have em : (fun y => if y = x1 then some v1 else if y = x0 then some v0 else m' y) = fun y => if y = x1 then some v1 else if y = x0 then some v0 else fmap m' (ps c) y := by rw [fmap_eq hk']
    rw [em] at F₅
    refine wpAny_mono (turn i v0 v1 c m' h₅ _ own hlt hP2 hi' hnI' eown F₅ N₆) (fun f s₃ h₃ => ?_) hE
    have fin : FEndW h₀ env.locals s Led ps own wr (Inv (i + 1)) s₃ → ∃ m, m < n + 1 - i ∧ ∃ i c h' tk m', s₃ = { s with heap := h', toks := tk } ∧ St i h' ∧ Fr h₀ env.locals h' m' ∧ News h₀ env.locals h' (Led c) ∧ (∀ p ∈ Led c, p.1 ∉ wr) ∧ (∀ p ∈ ps c, m' p.1 = some p.2) ∧ Inv i c ∧ i ≤ n ∧ m = n + 1 - i := by
      rintro ⟨c', h₃', tk₃, m₃, news₃, rfl, F₃, N₃, ho₃, hl₃, hne₃, hk₃, hi₃⟩
      refine ⟨n + 1 - (i + 1), by omega, i + 1, c', h₃', tk₃, m₃, rfl, ?_, F₃, fun p hp => N₃ p (hl₃ p hp), hne₃, hk₃, hi₃, hlt, rfl⟩
      refine W.frame _ _ _ hst₅ fun b hb o e => ?_
      rcases hfp b hb with hbw | ⟨o₀, h0⟩ | ⟨o₁, hled⟩
      · rw [← eown] at hbw
        obtain ⟨p, hp, rfl⟩ := List.mem_map.mp hbw
        have := hown p hp
        rw [e] at this
        cases this
        exact (N₃ _ (ho₃ p hp)).1
      · have := F₅.keep b o₀ h0
        rw [e] at this
        cases this
        exact F₃.keep b _ h0
      · have := (N₅ _ (hled i c hi')).1
        rw [e] at this
        cases this
        exact (N₃ _ (hl₃ _ (hled _ _ hi₃))).1
    cases f with
    | ret v => exact h₃
    | brk => exact LEnd.done done h₃
    | next => exact fin h₃
    | cont => exact fin h₃
  · have hin' : i = n := by omega
    subst hin'
    refine W.done _ _ _ hst' fun h₁ tk₁ hk₁ => ?_
    obtain ⟨F₁, N₁⟩ := next F' N' hk₁
    refine wpAny_mono (els c m' h₁ tk₁ hi' (by rw [fmap_eq hk']; exact F₁) N₁) (fun f s₃ h₃ => ?_) hE
    cases f with
    | next => exact LEnd.done done h₃
    | brk => exact h₃
    | cont => exact h₃
    | ret v => exact h₃
end
end Mine
end

section
open PySem PySem.W PySem.Spec PySem.Calls PyProof.Rows
open PySem.AutoSeq1 (wpAny_loadPart')
set_option maxRecDepth 100000
namespace Mine

section
variable {prog : Program} {w : World} {A : Around} {E : Value → Shared → Prop} {s : Shared}

theorem letOwned_pure {elts : List PySem.Expr} {k : Nat} {pos : Pos} {I T : Addr} {o : Obj} {c : String} {fs : Array Value} {Q : Unit → Shared → Prop} (ho : s.heap.get? I = some o) (hc : o.cls = .type c) (hd : o.data = .fields fs)
    (hn : ["enumerate", "zip", "dict_itemiterator", "dict_reverseitemiterator", "odict_iterator", "itertools.zip_longest", "itertools.pairwise"].contains c = false) (h : Q () s) :
    wpAny (model prog w) A (letOwnedTupleGo (.Tuple elts k pos) (.ref I) (.ref T)) Q E s := by
  unfold letOwnedTupleGo
  refine wpAny_bind (wpAny_load ho ?_)
  rw [hc, hd]
  dsimp only
  rw [hn, Bool.false_and]
  simp only [Bool.false_eq_true, if_false]
  exact wpAny_pure h

theorem nextOf_tuple_item {it t : Addr} {i : Nat} {items} {x : Value} {Q : Value → Shared → Prop} (hit : s.heap.IsTupleIter it t i)
    (ht : s.heap.IsTuple t items) (hx : items[i]? = some x)
    (hQ : ∀ h', h'.IsTupleIter it t (i + 1) → Heap.SameBut it s.heap h' → Q x { s with heap := h' }) :
    wpAny (model prog w) A (Builtin.SmallTypes.nextOf (.ref it)) Q E s := by
  obtain ⟨o, ho, hc, hd⟩ := id hit
  obtain ⟨ol, hol, _, nl, hdl⟩ := ht
  unfold Builtin.SmallTypes.nextOf
  refine wpAny_bind (wpAny_callSpecial?_slot (name := Str.ofString "__next__") hit.typeIs F.slot_tuple_iterator_next
    (wpAny_call_entry F.slot_tuple_iterator_next hit.typeIs F.entry_tuple_iterator_next ?_ (F.args_tuple_iterator_next_1 _)))
  show wpAny _ _ (field (.ref it) 0 >>= _) _ _ s
  refine wpAny_bind (wpAny_field ho hd (x := .ref t) rfl ?_)
  show wpAny _ _ (if (Value.ref t == Value.none) = true then _ else _) _ _ s
  rw [if_neg (show ¬ ((Value.ref t == Value.none) = true) from Bool.false_ne_true)]
  show wpAny _ _ (field (.ref it) 1 >>= _) _ _ s
  refine wpAny_bind (wpAny_field ho hd (x := .int i 0) rfl ?_)
  show wpAny _ _ (seqItems? (.ref t) >>= _) _ _ s
  refine wpAny_bind (wpAny_seqItems hol hdl ?_)
  simp only [Int.toNat_natCast, hx]
  refine wpAny_bind (wpAny_setField ho hd (by simp) (wpAny_pure ⟨x, rfl, wpAny_pure (hQ _ ?_ (Heap.SameBut.update ..))⟩))
  exact ⟨_, Heap.get?_update_self _ ho (Obj.isFreed_of_fields (Obj.data_mapFields hd _)), (Obj.cls_mapFields ..).trans hc, by
    rw [Obj.data_mapFields hd]; simp [rawInt]⟩

theorem nextOf_tuple_end {it t : Addr} {i : Nat} {items} {Q : Value → Shared → Prop} (hh : A.handled = none)
    (hit : s.heap.IsTupleIter it t i) (ht : s.heap.IsTuple t items) (hx : items[i]? = none)
    (hE : ∀ h' e, Heap.ExtBut it s.heap h' → (∃ o, h'.get? e = some o ∧ o.cls = .type "StopIteration") → E (.ref e) { s with heap := h' }) :
    wpAny (model prog w) A (Builtin.SmallTypes.nextOf (.ref it)) Q E s := by
  obtain ⟨o, ho, hc, hd⟩ := id hit
  obtain ⟨ol, hol, _, nl, hdl⟩ := ht
  unfold Builtin.SmallTypes.nextOf
  refine wpAny_bind (wpAny_callSpecial?_slot (name := Str.ofString "__next__") hit.typeIs F.slot_tuple_iterator_next
    (wpAny_call_entry F.slot_tuple_iterator_next hit.typeIs F.entry_tuple_iterator_next ?_ (F.args_tuple_iterator_next_1 _)))
  show wpAny _ _ (field (.ref it) 0 >>= _) _ _ s
  refine wpAny_bind (wpAny_field ho hd (x := .ref t) rfl ?_)
  show wpAny _ _ (if (Value.ref t == Value.none) = true then _ else _) _ _ s
  rw [if_neg (show ¬ ((Value.ref t == Value.none) = true) from Bool.false_ne_true)]
  show wpAny _ _ (field (.ref it) 1 >>= _) _ _ s
  refine wpAny_bind (wpAny_field ho hd (x := .int i 0) rfl ?_)
  show wpAny _ _ (seqItems? (.ref t) >>= _) _ _ s
  refine wpAny_bind (wpAny_seqItems hol hdl ?_)
  simp only [Int.toNat_natCast, hx]
  refine wpAny_bind (wpAny_rule (wpAny_bind (wpAny_setField ho hd (by simp) ?_)))
  show wpAny _ _ (newExc (.type "StopIteration") [] >>= _) _ _ _
  refine wpAny_bind ?_
  simp only [newExc, newTuple]
  refine wpAny_bind (wpAny_newObj_type ?_ (by size_fits))
  refine wpAny_bind (m := firstArgMember _ _) (wpAny_of_eq (a := Value.none) (by first | rfl | (simp only [firstArgMember]; rfl)) ?_)
  refine wpAny_newObj_type ?_ (by size_fits)
  simp only [raiseNew]
  refine wpAny_bind (wpAny_handled ?_)
  first | rw [show A.in1.handled = none from hh] | rw [hh]
  refine wpAny_bind (wpAny_pure (wpAny_throw ?_))
  exact hE _ _ (((Heap.SameBut.update ..).extBut.push _).push _) ⟨_, Heap.get?_push_size _ rfl, rfl⟩
end

theorem draws_tuple {prog : Program} {w : World} {A : Around} (hh : A.handled = none) (it l : Addr) (hne : l ≠ it) (items : Array Value) :
    Draws prog w A it [it, l] items.size (fun i v => items[i]? = some v) (fun i h => h.IsTupleIter it l i ∧ h.IsTuple l items) where
  live := fun _ _ st => let ⟨o, ho, _⟩ := st.1; ⟨o, ho⟩
  frame := fun _ _ _ st hk => ⟨st.1.at fun o e => hk it (by simp) o e, st.2.at fun o e => hk l (by simp) o e⟩
  item := fun i s Q E hi st hQ => by
    refine nextOf_tuple_item st.1 st.2 (x := items[i]) (by simp [hi]) fun h' hit' hs' => ?_
    exact hQ _ h' s.toks (by simp [hi]) ⟨hit', st.2.extBut hs'.extBut hne⟩ hs'
  done := fun s Q E st hE => nextOf_tuple_end hh st.1 st.2 (by simp) hE

/-- over a tuple of pairs -/
theorem walksU_tuple2 {prog : Program} {w : World} {A : Around} (hh : A.handled = none) (I ax : Addr) (hne : ax ≠ I) (Ts : List Addr) (hI : I ∉ Ts) (vals : Nat → Array Value) :
    WalksU prog w A I (I :: ax :: Ts) [I] Ts.length (fun i v => i < Ts.length ∧ v = vals i)
      (fun i h => (h.IsTupleIter I ax i ∧ h.IsTuple ax (Ts.map Value.ref).toArray) ∧ ∀ j T, Ts[j]? = some T → h.IsTuple T (vals j))
      (fun i T h => T ≠ I ∧ (h.IsTupleIter I ax (i + 1) ∧ h.IsTuple ax (Ts.map Value.ref).toArray) ∧ ∀ j T, Ts[j]? = some T → h.IsTuple T (vals j)) where
  sub := fun b hb => by simp at hb; simp [hb]
  frame := fun i h h' st hk => ⟨⟨st.1.1.at fun o e => hk I (by simp) o e, st.1.2.at fun o e => hk ax (by simp) o e⟩, fun j T hj => (st.2 j T hj).at fun o e => hk T (by simp [List.mem_of_getElem? hj]) o e⟩
  item := fun i s Q E hi st hQ => by
    have hx : (Ts.map Value.ref).toArray[i]? = some (.ref Ts[i]) := by simp [hi]
    have hTi : Ts[i]? = some Ts[i] := by simp [hi]
    have hTI : Ts[i] ≠ I := fun e => hI (e ▸ List.getElem_mem hi)
    refine wpAny_pyNext_tuple_item st.1.1 st.1.2 hx fun h' hit' hs' => ?_
    have up : ∀ j T, Ts[j]? = some T → h'.IsTuple T (vals j) := fun j T hj => (st.2 j T hj).extBut hs'.extBut fun e => hI (e ▸ List.mem_of_getElem? hj)
    exact hQ _ _ h' s.toks ⟨hi, rfl⟩ (up i _ hTi) ⟨hTI, ⟨hit', st.1.2.extBut hs'.extBut hne⟩, up⟩ fun b o hb e => hs'.extBut b o (fun h => hb (by simp [h])) e
  go := fun elts k pos i T s Q E hm hQ => by
    obtain ⟨_, ⟨hit, hax⟩, hall⟩ := hm
    obtain ⟨o, ho, hc, hd⟩ := id hit
    exact letOwned_pure ho hc hd (by decide) (hQ s.heap ⟨⟨hit, hax⟩, hall⟩ fun _ _ _ e => e)
  apart := fun i T h hm hT => hm.1 (List.mem_singleton.mp hT)
  done := fun s Q E st hQ => wpAny_pyNext_tuple_end hh st.1.1 st.1.2 (by simp) fun h' he' => hQ h' s.toks fun b o hb e => he' b o (fun h => hb (by simp [h])) e
  self := fun _ _ _ _ st hQ => wpAny_pyIter_tupleiter st.1.1 hQ

theorem meets_enumerate_newT (l : Addr) (items : Array Value) (n : Nat) (dct : Option Addr) (sl : Array (Option Value)) :
    Meets (Builtin.«enumerate.__new__» ⟨[.type "enumerate", .ref l], []⟩) (fun _ R s => s.heap.get? l = some { cls := .type "tuple", dict := dct, data := .seq items n, slots := sl } ∧
      R (.ok (.ret (.ref (s.heap.push { cls := .type "tuple_iterator", data := .fields #[.ref l, .int 0 0] }).objs.size)))
        { s with heap := (s.heap.push { cls := .type "tuple_iterator", data := .fields #[.ref l, .int 0 0] }).push { cls := .type "enumerate", data := .fields #[.none, .bool false, .ref s.heap.objs.size, rawInt 0, .none, .none] } }) :=
  .of_wp fun prog w A R s h => by
    obtain ⟨hp, g, d, tk, os⟩ := s; obtain ⟨hl, h⟩ := h
    have hsub := sub_enumerate
    have hL : Heap.IsTuple (Shared.heap ⟨hp, g, d, tk, os⟩) l items := ⟨_, hl, rfl, n, rfl⟩
    wp_walk using wpAny_loadPart' hl
    refine wpAny_stack_any fun st => wpAny_pure ?_
    split
    · rename_i c _ _ _ _ _
      cases (c == Value.type "enumerate")
      · wp_walk using wpAny_loadPart' hl, wpAny_pyIter_tuple hL
        exact ⟨_, rfl, h⟩
      · wp_walk using wpAny_loadPart' hl, wpAny_pyIter_tuple hL
        exact ⟨_, rfl, h⟩
    · wp_walk using wpAny_loadPart' hl, wpAny_pyIter_tuple hL
      exact ⟨_, rfl, h⟩

section
variable {prog : Program} {w : World} {A : Around} {E : Value → Shared → Prop} {s : Shared}
theorem call_enumerate_tuple {l : Addr} {items : Array Value} {Q : Value → Shared → Prop} (hL : s.heap.IsTuple l items)
    (h : ∀ h', IsEnum h' (s.heap.objs.size + 1) s.heap.objs.size 0 .none → h'.IsTupleIter s.heap.objs.size l 0 → h'.objs.size = s.heap.objs.size + 2 →
      (∀ b o, s.heap.get? b = some o → h'.get? b = some o) → Q (.ref (s.heap.objs.size + 1)) { s with heap := h' }) :
    wpAny (model prog w) A (call (.type "enumerate") [.ref l]) Q E s := by
  obtain ⟨⟨c, dct, dt, sl⟩, hl, hc, n, hd⟩ := hL
  simp only at hc hd
  subst hc hd
  refine callType_new F.called_enumerate (by decide) (F.typeCall_enumerate_1 _) (F.newCall_enumerate_1 _) (fun obj => F.args_object_init_2 obj _) F.entry_enumerate_new
    (meets_enumerate_newT l items n dct sl) ⟨hl, ?_⟩
  have hz : (s.heap.push { cls := .type "tuple_iterator", data := .fields #[.ref l, .int 0 0] }).objs.size = s.heap.objs.size + 1 := Heap.size_push ..
  show _ ∧ _
  rw [hz]
  have he : IsEnum ((s.heap.push { cls := .type "tuple_iterator", data := .fields #[.ref l, .int 0 0] }).push
      { cls := .type "enumerate", data := .fields #[.none, .bool false, .ref s.heap.objs.size, rawInt 0, .none, .none] }) (s.heap.objs.size + 1) s.heap.objs.size 0 .none := by
    have := Heap.get?_push_size (s.heap.push { cls := .type "tuple_iterator", data := .fields #[.ref l, .int 0 0] })
      (o := { cls := .type "enumerate", data := .fields #[.none, .bool false, .ref s.heap.objs.size, rawInt 0, .none, .none] }) rfl
    rw [hz] at this; exact this
  refine ⟨⟨_, he, rfl⟩, h _ he ⟨_, Heap.get?_push_of_some _ (Heap.get?_push_size _ rfl), rfl, rfl⟩ (by rw [Heap.size_push, hz]) fun b o x => Heap.get?_push_of_some _ (Heap.get?_push_of_some _ x)⟩
end
end Mine
end

section
open PySem PySem.W PySem.Spec PySem.Calls PyProof.Rows
set_option maxRecDepth 100000
namespace Mine

theorem own1 {α β : Type} {own : List (α × β)} {a : α} (h : own.map (·.1) = [a]) : ∃ o1, own = [(a, o1)] := by
  cases own with
  | nil => exact absurd (congrArg List.length h) (by simp)
  | cons p r =>
    have h2 : r = [] := List.map_eq_nil_iff.mp (List.cons.inj h).2
    have h1 : p.1 = a := (List.cons.inj h).1
    exact ⟨p.2, by rw [h2, ← h1]⟩
theorem own2 {α β : Type} {own : List (α × β)} {a b : α} (h : own.map (·.1) = [a, b]) : ∃ o1 o2, own = [(a, o1), (b, o2)] := by
  cases own with
  | nil => exact absurd (congrArg List.length h) (by simp)
  | cons p r =>
    have h1 : p.1 = a := (List.cons.inj h).1
    obtain ⟨o2, rfl⟩ := own1 (List.cons.inj h).2
    exact ⟨p.2, o2, by rw [← h1]⟩

section
variable {prog : Program} {w : World} {A : Around} {E : Value → Shared → Prop} {Q : Flow → Shared → Prop} {s : Shared} {env : Env} {h₀ : Heap} {L : Addr}

theorem enum_N {m : Str → Option Value} {news : List (Addr × Obj)} {ax : Addr} {items : Array Value} {Q : Value → Shared → Prop} (F : Fr h₀ L s.heap m) (N : News h₀ L s.heap news) (hT : s.heap.IsTuple ax items)
    (h : ∀ e it h', IsEnum h' e it 0 .none → h'.IsTupleIter it ax 0 → h'.IsTuple ax items → Fr h₀ L h' m → News h₀ L h' news → h₀.get? e = none → h₀.get? it = none → e ≠ L → it ≠ L → e ≠ it → e ≠ ax → it ≠ ax → (∀ p ∈ news, p.1 ≠ e ∧ p.1 ≠ it) → Q (.ref e) { s with heap := h' }) :
    wpAny (model prog w) A (call (.type "enumerate") [.ref ax]) Q E s := by
  have hax : ax < s.heap.objs.size := by obtain ⟨o, ho, _⟩ := hT; exact Heap.lt_size ho
  refine call_enumerate_tuple hT fun h' he hi hz hk => ?_
  have hL : L < s.heap.objs.size := F.ns.lt
  have hn : ∀ b, s.heap.objs.size ≤ b → h₀.get? b = none := fun b hb => by
    cases e : h₀.get? b with
    | none => rfl
    | some o => exact absurd (Heap.lt_size (F.keep b o e)) (Nat.not_lt.mpr hb)
  exact h _ _ h' he hi (hT.at fun o e => hk _ o e) ⟨F.ns.at' fun o e => hk _ o e, fun b o e => hk b o (F.keep b o e), F.above⟩ (fun p hp => ⟨hk _ _ (N p hp).1, (N p hp).2⟩)
    (hn _ (Nat.le_succ _)) (hn _ (Nat.le_refl _)) (Nat.ne_of_gt (Nat.lt_succ_of_lt hL)) (Nat.ne_of_gt hL) (Nat.ne_of_gt (Nat.lt_succ_self _)) (Nat.ne_of_gt (Nat.lt_succ_of_lt hax)) (Nat.ne_of_gt hax)
    fun p hp => ⟨Nat.ne_of_lt (Nat.lt_succ_of_lt (Heap.lt_size (N p hp).1)), Nat.ne_of_lt (Heap.lt_size (N p hp).1)⟩

theorem for_enumT {σ : Type} {x0 x1 : Str} {p0 p1 pt : Pos} {kk : Nat} {body orelse : List Stmt} {ax e it : Addr} {items : Array Value} {m₀ : Str → Option Value} 
    (Led : σ → List (Addr × Obj)) (ps : σ → List (Str × Value)) (Inv : Nat → σ → Prop) (Fin : σ → Prop) (c₀ : σ)
    (hh : A.handled = none) (he : IsEnum s.heap e it 0 .none) (hi' : s.heap.IsTupleIter it ax 0) (hT : s.heap.IsTuple ax items) (hT0 : ∃ o, h₀.get? ax = some o)
    (hE0 : h₀.get? e = none) (hI0 : h₀.get? it = none) (heL : e ≠ env.locals) (hiL : it ≠ env.locals) (hei : e ≠ it) (hea : e ≠ ax) (hia : it ≠ ax) (hnw : ∀ p ∈ Led c₀, p.1 ≠ e ∧ p.1 ≠ it)
    (F : Fr h₀ env.locals s.heap m₀) (N : News h₀ env.locals s.heap (Led c₀)) (hi : Inv 0 c₀) (hk : ∀ p ∈ ps c₀, m₀ p.1 = some p.2)
    (turn : ∀ i t v1 (c : σ) (u : Str → Option Value) h tk o1 o2, i < items.size → items[i]? = some v1 → Inv i c → (∀ p ∈ Led c, p.1 ≠ e ∧ p.1 ≠ it) → Fr h₀ env.locals h (fun y => if y = x1 then some v1 else if y = x0 then some (.int (i : Int) t) else fmap u (ps c) y) → News h₀ env.locals h (Led c ++ [(e, o1), (it, o2)]) →
      wpAny (model prog w) A (execs body env) (FTEndW h₀ env.locals s Led ps [(e, o1), (it, o2)] [e, it] (Inv (i + 1)) Fin Q) E { s with heap := h, toks := tk })
    (els : ∀ (c : σ) (u : Str → Option Value) h tk, Inv items.size c → Fr h₀ env.locals h (fmap u (ps c)) → News h₀ env.locals h (Led c) → wpAny (model prog w) A (execs orelse env) (ElseEnd h₀ env.locals s Led ps Fin Q) E { s with heap := h, toks := tk })
    (done : ∀ (c : σ) (u : Str → Option Value) h tk, Fin c → Fr h₀ env.locals h (fmap u (ps c)) → News h₀ env.locals h (Led c) → Q .next { s with heap := h, toks := tk })
    (hx0 : env.kindOf x0 = some .local) (hx1 : env.kindOf x1 = some .local) (hp : (env.scope.kind == .class || (env.scope.kind == .module && env.locals != env.globals)) = false) (hE : PassesOwn (model prog w) A env E) :
    wpAny (model prog w) A (pyIter (.ref e)) (fun itv s₂ => LoopHere prog w A E env (.Tuple [.Name x0 p0, .Name x1 p1] kk pt) body orelse Q itv s₂) E s := by
  refine wpAny_pyIter_enum he ?_
  have haL : env.locals ≠ ax := fun q => by
    obtain ⟨o, ho⟩ := hT0
    exact absurd (Heap.lt_size ho) (by rw [← q]; exact Nat.not_lt.mpr F.above)
  refine for2 (n := items.size) (P2 := fun i v0 v1 => ∃ t, v0 = .int (i : Int) t ∧ items[i]? = some v1) Led ps Inv Fin c₀ hh
    (WalksT.enumerateD (draws_tuple (A := A.in1) hh it ax (Ne.symm hia) items) e hei (by simp [hei, hea]) (by simp)).toU ⟨⟨_, he⟩, hi', hT⟩ ?_ ?_ ?_ ?_ ?_ ?_ F N hi hk ?_ els done hx0 hx1 hp hE
  · intro b hb
    simp only [List.mem_cons, List.not_mem_nil, or_false] at hb
    rcases hb with rfl | rfl
    · exact hE0
    · exact hI0
  · simp [Ne.symm heL, Ne.symm hiL, haL]
  · rintro i h ⟨⟨old, h1⟩, ⟨o, h2, _⟩, _⟩ b hb
    simp only [List.mem_cons, List.not_mem_nil, or_false] at hb
    rcases hb with rfl | rfl
    · exact ⟨_, h1⟩
    · exact ⟨_, h2⟩
  · intro b hb
    simp only [List.mem_cons, List.not_mem_nil, or_false] at hb
    rcases hb with rfl | rfl | rfl
    · exact .inl (by simp)
    · exact .inl (by simp)
    · exact .inr (.inl hT0)
  · intro p hp
    have := hnw p hp
    simp [this.1, this.2]
  · rintro i vals ⟨t, x, hx, rfl⟩
    exact ⟨_, _, rfl, t, rfl, hx⟩
  · rintro i v0 v1 c u h tk own hin ⟨t, rfl, hv⟩ hi' hnw' hown F' N'
    obtain ⟨o1, o2, rfl⟩ := own2 hown
    exact turn i t v1 c u h tk o1 o2 hin hv hi' (fun p hp => ⟨fun q => hnw' p hp (q ▸ List.mem_cons_self ..), fun q => hnw' p hp (q ▸ List.mem_cons_of_mem _ (List.mem_cons_self ..))⟩) F' N'

/-- over a tuple of pairs that were there before -/
theorem for_pairs {σ : Type} {x0 x1 : Str} {p0 p1 pt : Pos} {kk : Nat} {body orelse : List Stmt} {ax : Addr} {Ts : List Addr} {va vb : Nat → Value} {m₀ : Str → Option Value} 
    (Led : σ → List (Addr × Obj)) (ps : σ → List (Str × Value)) (Inv : Nat → σ → Prop) (Fin : σ → Prop) (c₀ : σ)
    (hh : A.handled = none) (hT : h₀.IsTuple ax (Ts.map Value.ref).toArray) (hTs : ∀ j T, Ts[j]? = some T → h₀.IsTuple T #[va j, vb j])
    (F : Fr h₀ env.locals s.heap m₀) (N : News h₀ env.locals s.heap (Led c₀)) (hi : Inv 0 c₀) (hk : ∀ p ∈ ps c₀, m₀ p.1 = some p.2)
    (turn : ∀ j (c : σ) (u : Str → Option Value) h tk I oI, j < Ts.length → Inv j c → (∀ p ∈ Led c, p.1 ≠ I) → Fr h₀ env.locals h (fun y => if y = x1 then some (vb j) else if y = x0 then some (va j) else fmap u (ps c) y) → News h₀ env.locals h (Led c ++ [(I, oI)]) →
      wpAny (model prog w) A (execs body env) (FTEndW h₀ env.locals s Led ps [(I, oI)] [I] (Inv (j + 1)) Fin Q) E { s with heap := h, toks := tk })
    (els : ∀ (c : σ) (u : Str → Option Value) h tk, Inv Ts.length c → Fr h₀ env.locals h (fmap u (ps c)) → News h₀ env.locals h (Led c) → wpAny (model prog w) A (execs orelse env) (ElseEnd h₀ env.locals s Led ps Fin Q) E { s with heap := h, toks := tk })
    (done : ∀ (c : σ) (u : Str → Option Value) h tk, Fin c → Fr h₀ env.locals h (fmap u (ps c)) → News h₀ env.locals h (Led c) → Q .next { s with heap := h, toks := tk })
    (hx0 : env.kindOf x0 = some .local) (hx1 : env.kindOf x1 = some .local) (hp : (env.scope.kind == .class || (env.scope.kind == .module && env.locals != env.globals)) = false) (hE : PassesOwn (model prog w) A env E) :
    wpAny (model prog w) A (pyIter (.ref ax)) (fun itv s₂ => LoopHere prog w A E env (.Tuple [.Name x0 p0, .Name x1 p1] kk pt) body orelse Q itv s₂) E s := by
  refine wpAny_pyIter_tuple (hT.at fun o e => F.keep _ o e) ?_
  have hold : ∀ b o, h₀.get? b = some o → b < s.heap.objs.size := fun b o e => Heap.lt_size (F.keep b o e)
  have hl0 : ∀ b o, h₀.get? b = some o → env.locals ≠ b := fun b o e q => absurd (Heap.lt_size e) (by rw [← q]; exact Nat.not_lt.mpr F.above)
  have hIt : ∀ j T, Ts[j]? = some T → T < s.heap.objs.size := fun j T hj => by obtain ⟨o, ho, _⟩ := hTs j T hj; exact hold _ _ ho
  have hIa : ax < s.heap.objs.size := by obtain ⟨o, ho, _⟩ := hT; exact hold _ _ ho
  have up : ∀ b o, h₀.get? b = some o → (s.heap.push { cls := .type "tuple_iterator", data := .fields #[.ref ax, .int 0 0] }).get? b = some o := fun b o e => Heap.get?_push_of_some _ (F.keep b o e)
  refine for2 (n := Ts.length) (P2 := fun j v0 v1 => v0 = va j ∧ v1 = vb j) Led ps Inv Fin c₀ hh
    (walksU_tuple2 hh s.heap.objs.size ax (Nat.ne_of_lt hIa) Ts (fun hm => by obtain ⟨j, hj⟩ := List.mem_iff_getElem?.mp hm; exact absurd (hIt j _ hj) (Nat.lt_irrefl _)) (fun j => #[va j, vb j]))
    ⟨⟨⟨_, Heap.get?_push_size _ rfl, rfl, rfl⟩, hT.at fun o e => up _ o e⟩, fun j T hj => (hTs j T hj).at fun o e => up _ o e⟩ ?_ ?_ ?_ ?_ ?_ ?_ (F.push _) (fun p hp => ⟨Heap.get?_push_of_some _ (N p hp).1, (N p hp).2⟩) hi hk ?_ els done hx0 hx1 hp hE
  · intro b hb
    rw [List.mem_singleton.mp hb]
    exact next_is_new F
  · intro hm
    rcases List.mem_cons.mp hm with e | hm
    · exact absurd F.ns.lt (by rw [e]; exact Nat.lt_irrefl _)
    rcases List.mem_cons.mp hm with e | hm
    · obtain ⟨o, ho, _⟩ := hT
      exact hl0 _ _ ho e
    · obtain ⟨j, hj⟩ := List.mem_iff_getElem?.mp hm
      obtain ⟨o, ho, _⟩ := hTs j _ hj
      exact hl0 _ _ ho rfl
  · rintro i h ⟨⟨⟨o, h2, _⟩, _⟩, _⟩ b hb
    rw [List.mem_singleton.mp hb]
    exact ⟨_, h2⟩
  · intro b hm
    rcases List.mem_cons.mp hm with rfl | hm
    · exact .inl (by simp)
    rcases List.mem_cons.mp hm with rfl | hm
    · obtain ⟨o, ho, _⟩ := hT
      exact .inr (.inl ⟨o, ho⟩)
    · obtain ⟨j, hj⟩ := List.mem_iff_getElem?.mp hm
      obtain ⟨o, ho, _⟩ := hTs j _ hj
      exact .inr (.inl ⟨o, ho⟩)
  · intro p hp hm
    exact absurd (Heap.lt_size (N p hp).1) (by rw [List.mem_singleton.mp hm]; exact Nat.lt_irrefl _)
  · rintro i vals ⟨hi', rfl⟩
    exact ⟨_, _, rfl, rfl, rfl⟩
  · rintro i v0 v1 c u h tk own hin ⟨rfl, rfl⟩ hi' hnw' hown F' N'
    obtain ⟨o1, rfl⟩ := own1 hown
    exact turn i c u h tk _ o1 hin hi' (fun p hp q => hnw' p hp (q ▸ List.mem_cons_self ..)) F' N'
end
end Mine
end

section
open PySem PySem.W PySem.Spec PySem.Calls PyProof.Rows
set_option maxRecDepth 100000
set_option maxHeartbeats 8000000
namespace Mine
local macro_rules | `(tactic| walk_at "Mine pad") => `(tactic| skip)
local macro_rules | `(tactic| walk_at "Mine pad") => `(tactic| skip)
local macro_rules | `(tactic| walk_at "Mine pad") => `(tactic| skip)
local macro_rules | `(tactic| walk_at "Mine pad") => `(tactic| skip)
local macro_rules | `(tactic| walk_at "Mine pad") => `(tactic| skip)
local macro_rules | `(tactic| walk_at "Mine pad") => `(tactic| skip)
local macro_rules | `(tactic| walk_at "Mine pad") => `(tactic| skip)
local macro_rules | `(tactic| walk_at "Mine pad") => `(tactic| skip)
local macro_rules | `(tactic| walk_at "Mine pad") => `(tactic| skip)
theorem begin_L1H : True := by
  w_top off
  exact True.intro

theorem ifmt_c (w : World) (led : List (Addr × Obj)) (k : Int) (t : Tok) :
    Spec w 64 1 led [.int k t] (fun v led' => (∃ t', v = .int (Builtin.bitAnd k 61440) t') ∧ led' = led) := by
  unfold Spec
  k_fill
  intro mean mg mb dp un gd cn cs a ccd cl outer A₀ base h₀ L m s Q E B F X N T hk' hd hu hret
  refine wpAny_call ?_
  k_dflt cell_enter
  k_steps
  exact hret _ _ _ _ (by assumption) (by assumption) ⟨⟨_, rfl⟩, rfl⟩

/-- the table: each row's address, each pair's address, bits, sign -/
def mtab : List (Addr × List (Addr × Nat × Tok × Str × Tok)) := [
  (72, [(65, 40960, 303, Str.ofString "l", 331), (66, 49152, 305, Str.ofString "s", 332), (67, 32768, 299, Str.ofString "-", 333), (68, 24576, 297, Str.ofString "b", 334), (69, 16384, 293, Str.ofString "d", 335), (70, 8192, 295, Str.ofString "c", 336), (71, 4096, 301, Str.ofString "p", 337)]),
  (74, [(73, 256, 313, Str.ofString "r", 338)]),
  (76, [(75, 128, 315, Str.ofString "w", 339)]),
  (80, [(77, 2112, 340, Str.ofString "s", 341), (78, 2048, 307, Str.ofString "S", 342), (79, 64, 317, Str.ofString "x", 343)]),
  (82, [(81, 32, 319, Str.ofString "r", 344)]),
  (84, [(83, 16, 321, Str.ofString "w", 345)]),
  (88, [(85, 1032, 346, Str.ofString "s", 347), (86, 1024, 309, Str.ofString "S", 348), (87, 8, 323, Str.ofString "x", 349)]),
  (90, [(89, 4, 325, Str.ofString "r", 350)]),
  (92, [(91, 2, 327, Str.ofString "w", 351)]),
  (96, [(93, 513, 352, Str.ofString "t", 353), (94, 512, 311, Str.ofString "T", 354), (95, 1, 329, Str.ofString "x", 355)])]

theorem tab_top {w : World} {h : Heap} (X : (hd.heap_39 w.params).In h) : h.IsTuple 97 ((mtab.map (·.1)).map Value.ref).toArray := ⟨_, X 97 _ rfl, rfl, _, rfl⟩
set_option maxHeartbeats 4000000 in
theorem tab_rows {w : World} {h : Heap} (X : (hd.heap_39 w.params).In h) : ∀ r ∈ mtab, h.IsTuple r.1 ((r.2.map (·.1)).map Value.ref).toArray ∧ ∀ q ∈ r.2, h.IsTuple q.1 #[.int (q.2.1 : Int) q.2.2.1, .str q.2.2.2.1 q.2.2.2.2] := by
  intro r hr
  simp only [mtab, List.mem_cons, List.not_mem_nil, or_false] at hr
  rcases hr with rfl | rfl | rfl | rfl | rfl | rfl | rfl | rfl | rfl | rfl
  all_goals
    refine ⟨⟨_, X _ _ rfl, rfl, _, rfl⟩, fun q hq => ?_⟩
    simp only [List.mem_cons, List.not_mem_nil, or_false] at hq
    first
    | (subst hq; exact ⟨_, X _ _ rfl, rfl, _, rfl⟩)
    | (rcases hq with rfl | rfl | rfl <;> exact ⟨_, X _ _ rfl, rfl, _, rfl⟩)
    | (rcases hq with rfl | rfl | rfl | rfl | rfl | rfl | rfl <;> exact ⟨_, X _ _ rfl, rfl, _, rfl⟩)

/-- does a pair of row i fit -/
def fits (f i b : Nat) : Bool := if i = 0 then (32768 + f) &&& 61440 == b else (32768 + f) &&& b == b
def rowL (i : Nat) : List (Addr × Nat × Tok × Str × Tok) := (mtab.getD i (0, [])).2
def chAt (f i : Nat) : Str := match (rowL i).find? fun q => fits f i q.2.1 with
  | some q => q.2.2.2.1
  | none => if i = 0 then Str.ofString "?" else Str.ofString "-"
def modeCh (f i : Nat) : List Str := (List.range i).map (chAt f)
theorem modeCh_succ (f i : Nat) : modeCh f (i + 1) = modeCh f i ++ [chAt f i] := by
  unfold modeCh
  rw [List.range_succ, List.map_append]
  rfl
theorem modeCh_len (f i : Nat) : (modeCh f i).length = i := by simp [modeCh]
def sgn (i : Nat) : Str := (["?", "r", "w", "x", "r", "w", "x", "r", "w", "x"].map Str.ofString).getD i (Str.ofString "")
theorem chAt_is : ∀ f < 512, ∀ i < 10, chAt f i = if i = 0 then Str.ofString "-" else if f.testBit (9 - i) then sgn i else Str.ofString "-" := by decide +kernel
theorem modeCh_sum : ∀ f < 512, ((modeCh f 10).map (·.length)).sum + (modeCh f 10).length * 64 ≤ 1000 := by decide +kernel

theorem find_hit {α : Type} {p : α → Bool} {l : List α} {j : Nat} {q : α} (h : ∀ i < j, ∀ r, l[i]? = some r → p r = false) (hq : l[j]? = some q) (hp : p q = true) : l.find? p = some q := by
  induction l generalizing j with
  | nil => simp at hq
  | cons a r ih =>
    cases j with
    | zero =>
      simp only [List.getElem?_cons_zero, Option.some.injEq] at hq
      subst hq
      rw [List.find?_cons, hp]
    | succ j =>
      rw [List.find?_cons, h 0 (Nat.succ_pos _) a rfl]
      exact ih (fun i hi r hr => h (i + 1) (Nat.succ_lt_succ hi) r hr) hq
theorem find_none {α : Type} {p : α → Bool} {l : List α} (h : ∀ i < l.length, ∀ r, l[i]? = some r → p r = false) : l.find? p = none := by
  rw [List.find?_eq_none]
  intro x hx
  obtain ⟨j, hj⟩ := List.mem_iff_getElem?.mp hx
  have hjl : j < l.length := by
    rcases Nat.lt_or_ge j l.length with h | h
    · exact h
    · rw [List.getElem?_eq_none h] at hj
      cases hj
  rw [h j hjl x hj]
  decide
end Mine
end

section
open PySem PySem.W PySem.Spec PySem.Calls PyProof.Rows
set_option maxRecDepth 100000
set_option maxHeartbeats 8000000
namespace Mine
local macro_rules | `(tactic| walk_at "Mine pad") => `(tactic| skip)
local macro_rules | `(tactic| walk_at "Mine pad") => `(tactic| skip)
local macro_rules | `(tactic| walk_at "Mine pad") => `(tactic| skip)
theorem begin_L1I : True := by
  w_top off
  exact True.intro
local macro_rules | `(tactic| walk_at "exec For Tuple Call cons nil") => `(tactic| (k_dflt (refine Mine.for_held ?_ (by intro _; rfl))))
local macro_rules | `(tactic| walk_at "exec For Tuple Name cons cons") => `(tactic| (k_dflt (refine Mine.for_held ?_ (by intro _; rfl))))
local macro_rules | `(tactic| walk_at "newList") => `(tactic| (refine Mine.Held.mk ?_))
local macro_rules | `(tactic| walk_at "call type:enumerate") => `(tactic| (refine Mine.Held.mk ?_))
local macro_rules | `(tactic| walk_at "call builtin:list.append") => `(tactic| (refine Mine.Held.mk ?_))
local macro_rules | `(tactic| walk_at "call builtin:str.join") => `(tactic| (refine Mine.Held.mk ?_))
local macro_rules | `(tactic| walk_at "call ref") => `(tactic| (refine Mine.Held.mk ?_))

theorem filemode_c (w : World) (led : List (Addr × Obj)) (f : Nat) (t0 : Tok) (hf : f < 512) :
    Spec w 104 2 led [.int ((32768 + f : Nat) : Int) t0]
      (fun v led' => ∃ t, v = .str (Txt.join (Str.ofString "") (modeCh f 10)) t ∧ led' = led) := by
  unfold Spec
  k_fill
  intro mean mg mb dp un gd cn cs a ccd cl outer A₀ base h₀ L m s Q E B F X N T hk' hd hu hret
  refine wpAny_call ?_
  k_dflt cell_enter
  k_steps
  refine Held.out ?_
  rename Fr _ _ _ _ => F1
  rename News _ _ _ _ => N1
  refine newList_K F1 N1 fun a3 h3 F3 N3 hl3 => ?_
  k_steps
  refine Held.out ?_
  rename Fr _ _ _ _ => F4
  rename News _ _ _ _ => N4
  rename Frag.In _ _ => X1
  have hT0 := tab_top X1
  refine enum_N F4 N4 (hT0.at fun o e => F4.keep _ o e) ?_
  intro e it h5 he5 hi5 hT5 F5 N5 hE0 hI0 heL hiL hei hea hia hap5
  k_steps
  refine Held.out ?_
  rename Fr _ _ _ _ => F6
  rename News _ _ _ _ => N6
  refine for_enumT (σ := List Value × List Str × Nat)
    (fun c => (a3, listOf c.1.toArray c.2.2) :: led)
    (fun c => [(Str.ofString "perm", .ref a3), (Str.ofString "mode", .int ((32768 + f : Nat) : Int) t0)])
    (fun i c => StrsAre c.1 c.2.1 ∧ c.2.1 = modeCh f i)
    (fun c => StrsAre c.1 c.2.1 ∧ c.2.1 = modeCh f 10) ([], [], 0) rfl he5 hi5 hT5 (by obtain ⟨o, ho, _⟩ := hT0; exact ⟨o, ho⟩) hE0 hI0 heL hiL hei hea hia hap5 F6 N6 ⟨.nil, rfl⟩ (by kst_all) ?turn ?els ?done rfl rfl rfl (by with_unfolding_all passes_own)
  case turn =>
    rintro i t v1 ⟨us, ss, ee⟩ u h tk o1 o2 hin hv ⟨hus, hss⟩ hne F7 N7
    dsimp only [fmap] at F7 N7 hus hss hne ⊢
    have hi10 : i < 10 := hin
    obtain ⟨r, hr, hv1⟩ : ∃ r, mtab[i]? = some r ∧ v1 = .ref r.1 := by
      have hil : i < mtab.length := hi10
      refine ⟨mtab[i], List.getElem?_eq_getElem hil, ?_⟩
      simp only [List.getElem?_toArray, List.getElem?_map, List.getElem?_eq_getElem hil, Option.map_some, Option.some.injEq] at hv
      exact hv.symm
    subst hv1
    have hrL : r.2 = rowL i := by
      unfold rowL
      rw [List.getD_eq_getElem?_getD, hr]
      rfl
    obtain ⟨hTr, hTq⟩ := tab_rows X1 r (List.mem_of_getElem? hr)
    have hap : ∀ p ∈ led ++ [(e, o1), (it, o2)], p.1 ≠ a3 := by
      intro p hp
      rcases List.mem_append.mp hp with hp | hp
      · exact Nat.ne_of_lt (hl3 _ hp)
      · have := hne _ (.head _)
        rcases List.mem_cons.mp hp with rfl | hp
        · exact this.1.symm
        · rw [List.mem_singleton.mp hp]
          exact this.2.symm
    have hul := hus.length
    have hsl := modeCh_len f i
    rw [← hss] at hsl
    k_steps
    refine Held.out ?_
    rename Fr _ _ _ _ => F8
    rename News _ _ _ _ => N8
    refine for_pairs (Ts := r.2.map (·.1)) (va := fun j => .int ((r.2.getD j (0, 0, 0, Str.ofString "", 0)).2.1 : Int) (r.2.getD j (0, 0, 0, Str.ofString "", 0)).2.2.1) (vb := fun j => .str (r.2.getD j (0, 0, 0, Str.ofString "", 0)).2.2.2.1 (r.2.getD j (0, 0, 0, Str.ofString "", 0)).2.2.2.2)
      (σ := List Value × List Str × Nat)
      (fun c => (a3, listOf c.1.toArray c.2.2) :: (led ++ [(e, o1), (it, o2)]))
      (fun c => [(Str.ofString "perm", .ref a3), (Str.ofString "mode", .int ((32768 + f : Nat) : Int) t0), (Str.ofString "index", .int (i : Int) t)])
      (fun j c => c.1.length = i ∧ StrsAre c.1 c.2.1 ∧ c.2.1 = modeCh f i ∧ ∀ j' < j, ∀ q, r.2[j']? = some q → fits f i q.2.1 = false)
      (fun c => StrsAre c.1 c.2.1 ∧ c.2.1 = modeCh f (i + 1)) (us, ss, ee) rfl hTr ?tabs F8 N8 ⟨hul.trans hsl, hus, hss, fun j' h => absurd h (Nat.not_lt_zero _)⟩ (by kst_all) ?turn2 ?els2 ?done2 rfl rfl rfl (by with_unfolding_all passes_own)
    case tabs =>
      intro j T hj
      rw [List.getElem?_map] at hj
      cases hq : r.2[j]? with
      | none => rw [hq] at hj; cases hj
      | some q =>
        rw [hq] at hj
        cases hj
        have := hTq q (List.mem_of_getElem? hq)
        simp only [List.getD_eq_getElem?_getD, hq, Option.getD_some]
        exact this
    case turn2 =>
      rintro j ⟨us, ss, ee⟩ u h tk I oI hjn ⟨hul, hus, hss, hno⟩ hne2 F9 N9
      dsimp only [fmap] at F9 N9 hus hss hne2 hul ⊢
      rw [List.length_map] at hjn
      have hq : r.2[j]? = some r.2[j] := List.getElem?_eq_getElem hjn
      generalize r.2[j] = q at hq
      have hqd : r.2.getD j (0, 0, 0, Str.ofString "", 0) = q := by rw [List.getD_eq_getElem?_getD, hq]; rfl
      rw [hqd] at F9
      obtain ⟨qa, qb, qt, qc, qt2⟩ := q
      dsimp only at F9
      have hIa : a3 ≠ I := hne2 _ (.head _)
      have hap2 : ∀ p ∈ (led ++ [(e, o1), (it, o2)]) ++ [(I, oI)], p.1 ≠ a3 := by
        intro p hp
        rcases List.mem_append.mp hp with hp | hp
        · exact hap p hp
        · rw [List.mem_singleton.mp hp]
          exact hIa.symm
      have hit : fits f i qb = true → chAt f i = qc := by
        intro hf1
        unfold chAt
        rw [← hrL, find_hit (q := (qa, qb, qt, qc, qt2)) hno hq hf1]
      have hmiss : fits f i qb = false → ∀ j' < j + 1, ∀ q, r.2[j']? = some q → fits f i q.2.1 = false := by
        intro hf1 j' hj' q' hq'
        rcases Nat.lt_succ_iff_lt_or_eq.mp hj' with h | rfl
        · exact hno j' h q' hq'
        · rw [hq] at hq'
          cases hq'
          exact hf1
      k_steps
      · rename (i : Int) = 0 => hi0
        have hi0' : i = 0 := by omega
        refine Held.out ?_
        rename Fr _ _ _ _ => G0
        rename News _ _ _ _ => M0
        refine Spec.use (ifmt_c w _ _ _) (by assumption) G0 (by assumption) M0 (by assumption) rfl (by ktr_room) (by ktr_units) ?_
        rintro v led' h' tk' G1 M1 ⟨⟨t8, rfl⟩, rfl⟩
        have e1 : Builtin.bitAnd ((32768 + f : Nat) : Int) 61440 = (((32768 + f) &&& 61440 : Nat) : Int) := bitAnd_nat _ _
        k_steps
        · rename Builtin.bitAnd _ _ = _ => hb
          have hyes : fits f i qb = true := by
            rw [e1] at hb
            have hb2 := Int.ofNat.inj hb
            unfold fits
            rw [if_pos hi0', beq_iff_eq]
            exact hb2
          rename Fr _ _ _ _ => G1
          rename News _ _ _ _ => M1
          refine Held.out (append_K G1 M1 (.head hap2) (fun h9 F9 N9 => ?_) (by rw [List.size_toArray, PySem.sizeLine_eq]; omega))
          k_steps
          rename Fr _ _ _ _ => F10
          rename News _ _ _ _ => N10
          simp only [List.push_toArray] at N10
          dsimp only [FTEndW]
          refine LEnd.intro (us ++ [Value.str qc qt2], ss ++ [qc], ee + 1) F10 N10 ⟨hus.append' (.cons _ _ .nil), by rw [hss, modeCh_succ, hit hyes]⟩ (fun p hp => ?_) (by kst_all)
          rcases List.mem_cons.mp hp with rfl | hp
          · exact .head _
          · exact .tail _ (List.mem_append.mpr (.inl hp))
        · rename Builtin.bitAnd _ _ ≠ _ => hb
          have hno2 : fits f i qb = false := by
            rw [e1] at hb
            unfold fits
            rw [if_pos hi0', beq_eq_false_iff_ne]
            exact fun q => hb (congrArg Int.ofNat q)
          rename Fr _ _ _ _ => F10
          rename News _ _ _ _ => N10
          dsimp only [FTEndW]
          refine FEndW.intro (us, ss, ee) F10 N10 ⟨hul, hus, hss, hmiss hno2⟩ (by simp) (fun p hp => ?_) (fun p hp => by simpa using hne2 p hp) (by kst_all)
          rcases List.mem_cons.mp hp with rfl | hp
          · exact .head _
          · exact .tail _ (List.mem_append.mpr (.inl hp))
      · rename (i : Int) ≠ 0 => hi0
        rename Builtin.bitAnd _ _ = _ => hb
        have hi0' : i ≠ 0 := by omega
        have hyes : fits f i qb = true := by
          rw [bitAnd_nat] at hb
          have hb2 := Int.ofNat.inj hb
          unfold fits
          rw [if_neg hi0', beq_iff_eq]
          exact hb2
        rename Fr _ _ _ _ => G1
        rename News _ _ _ _ => M1
        refine Held.out (append_K G1 M1 (.head hap2) (fun h9 F9 N9 => ?_) (by rw [List.size_toArray, PySem.sizeLine_eq]; omega))
        k_steps
        rename Fr _ _ _ _ => F10
        rename News _ _ _ _ => N10
        simp only [List.push_toArray] at N10
        dsimp only [FTEndW]
        refine LEnd.intro (us ++ [Value.str qc qt2], ss ++ [qc], ee + 1) F10 N10 ⟨hus.append' (.cons _ _ .nil), by rw [hss, modeCh_succ, hit hyes]⟩ (fun p hp => ?_) (by kst_all)
        rcases List.mem_cons.mp hp with rfl | hp
        · exact .head _
        · exact .tail _ (List.mem_append.mpr (.inl hp))
      · rename (i : Int) ≠ 0 => hi0
        rename Builtin.bitAnd _ _ ≠ _ => hb
        have hi0' : i ≠ 0 := by omega
        have hno2 : fits f i qb = false := by
          rw [bitAnd_nat] at hb
          unfold fits
          rw [if_neg hi0', beq_eq_false_iff_ne]
          exact fun q => hb (congrArg Int.ofNat q)
        rename Fr _ _ _ _ => F10
        rename News _ _ _ _ => N10
        dsimp only [FTEndW]
        refine FEndW.intro (us, ss, ee) F10 N10 ⟨hul, hus, hss, hmiss hno2⟩ (by simp) (fun p hp => ?_) (fun p hp => by simpa using hne2 p hp) (by kst_all)
        rcases List.mem_cons.mp hp with rfl | hp
        · exact .head _
        · exact .tail _ (List.mem_append.mpr (.inl hp))
    case els2 =>
      rintro ⟨us, ss, ee⟩ u h tk ⟨hul, hus, hss, hno⟩ F9 N9
      dsimp only [fmap] at F9 N9 hus hss hul ⊢
      have hnone : chAt f i = if i = 0 then Str.ofString "?" else Str.ofString "-" := by
        unfold chAt
        rw [← hrL, find_none]
        intro j' hj' q hq
        exact hno j' (by rw [List.length_map]; exact hj') q hq
      have hap3 : ∀ p ∈ (led ++ [(e, o1), (it, o2)]), p.1 ≠ a3 := hap
      k_steps
      · rename (i : Int) = 0 => hi0
        have hi0' : i = 0 := by omega
        rw [if_pos hi0'] at hnone
        rename Fr _ _ _ _ => G1
        rename News _ _ _ _ => M1
        refine Held.out (append_K G1 M1 (.head hap3) (fun h9 F9 N9 => ?_) (by rw [List.size_toArray, PySem.sizeLine_eq]; omega))
        k_steps
        rename Fr _ _ _ _ => F10
        rename News _ _ _ _ => N10
        simp only [List.push_toArray] at N10
        dsimp only [ElseEnd]
        exact LEnd.intro (us ++ [Value.str (Str.ofString "?") _], ss ++ [Str.ofString "?"], ee + 1) F10 N10 ⟨hus.append' (.cons _ _ .nil), by rw [hss, modeCh_succ, hnone]⟩ (fun _ h => h) (by kst_all)
      · rename (i : Int) ≠ 0 => hi0
        have hi0' : i ≠ 0 := by omega
        rw [if_neg hi0'] at hnone
        rename Fr _ _ _ _ => G1
        rename News _ _ _ _ => M1
        refine Held.out (append_K G1 M1 (.head hap3) (fun h9 F9 N9 => ?_) (by rw [List.size_toArray, PySem.sizeLine_eq]; omega))
        k_steps
        rename Fr _ _ _ _ => F10
        rename News _ _ _ _ => N10
        simp only [List.push_toArray] at N10
        dsimp only [ElseEnd]
        exact LEnd.intro (us ++ [Value.str (Str.ofString "-") _], ss ++ [Str.ofString "-"], ee + 1) F10 N10 ⟨hus.append' (.cons _ _ .nil), by rw [hss, modeCh_succ, hnone]⟩ (fun _ h => h) (by kst_all)
    case done2 =>
      rintro ⟨us, ss, ee⟩ u h tk ⟨hus, hss⟩ F9 N9
      dsimp only [fmap] at F9 N9 hus hss ⊢
      k_steps
      dsimp only [FTEndW]
      refine FEndW.intro (us, ss, ee) F9 N9 ⟨hus, hss⟩ (fun p hp => .tail _ (List.mem_append.mpr (.inr hp))) (fun p hp => ?_) (fun p hp => ?_) (by kst_all)
      · rcases List.mem_cons.mp hp with rfl | hp
        · exact .head _
        · exact .tail _ (List.mem_append.mpr (.inl hp))
      · rcases List.mem_cons.mp hp with rfl | hp
        · have := hne _ (.head _)
          simp [this.1, this.2]
        · have := hne p (.tail _ hp)
          simp [this.1, this.2]
  case els =>
    rintro ⟨us, ss, ee⟩ u h tk ⟨hus, hss⟩ F7 N7
    exact els_nil ⟨hus, hss⟩ F7 N7 (by kst_all)
  case done =>
    rintro ⟨us, ss, ee⟩ u h tk ⟨hus, hss⟩ F7 N7
    dsimp only [fmap] at F7 N7 hus hss ⊢
    have hsl := modeCh_sum f hf
    k_steps
    rename News _ _ _ _ => N8
    refine Held.out (join_listC (PySem.IsL.isList (n := ee) (N8 _ (.head _)).1) (by simpa using hus) (by decide) (by rw [hss]; omega) fun t9 k9 => ?_)
    k_steps
    exact hret _ _ _ _ (by assumption) (fun p hp => (by assumption : News _ _ _ _) p (.tail _ hp)) ⟨_, by rw [hss], rfl⟩
end Mine
end

section
open PySem
namespace Mine
/-- the first of the greatest -/
def best (s : List Nat) : List Nat → Option Nat
  | [] => none
  | a :: r => match best s r with
    | none => some a
    | some b => if s.getD a 0 < s.getD b 0 then some b else some a
/-- one file is served -/
def tieIn (one : Nat) : Nat → List Nat → List Nat × List Nat → Option (List Nat × List Nat)
  | 0, _, x => some x
  | k + 1, av, x => match best x.1 av with
    | none => none
    | some a => if x.1.getD a 0 = 0 then none
      else tieIn one k (av.erase a) (x.1.set a (x.1.getD a 0 - 1), (x.2.set one (x.2.getD one 0 + 2 ^ a)).set a (x.2.getD a 0 + 2 ^ one))
/-- the files behind one -/
def behind (n one : Nat) : List Nat := List.range' (one + 1) (n - (one + 1))
def tieOut (n : Nat) : Nat → Nat → List Nat × List Nat → Option (List Nat)
  | 0, _, x => some x.2
  | k + 1, one, x => match tieIn one (x.1.getD one 0) (behind n one) x with
    | none => none
    | some y => tieOut n k (one + 1) y
def tied (w : List Nat) : Option (List Nat) := tieOut w.length w.length 0 (w, List.replicate w.length 0)

theorem best_mem {s : List Nat} : ∀ {av : List Nat} {a : Nat}, best s av = some a → a ∈ av ∧ ∀ b ∈ av, s.getD b 0 ≤ s.getD a 0
  | [], _, h => nomatch h
  | x :: r, a, h => by
    unfold best at h
    cases hr : best s r with
    | none =>
      rw [hr] at h
      simp only [Option.some.injEq] at h
      subst h
      have : r = [] := by
        cases r with
        | nil => rfl
        | cons y r' =>
          unfold best at hr
          cases h2 : best s r' with
          | none => rw [h2] at hr; cases hr
          | some b =>
            rw [h2] at hr
            simp only at hr
            split at hr <;> cases hr
      subst this
      exact ⟨.head _, fun b hb => by rw [List.mem_singleton.mp hb]; exact Nat.le_refl _⟩
    | some b =>
      rw [hr] at h
      simp only at h
      obtain ⟨h1, h2⟩ := best_mem hr
      split at h
      · rename_i hlt
        cases h
        refine ⟨.tail _ h1, fun c hc => ?_⟩
        rcases List.mem_cons.mp hc with rfl | hc
        · exact Nat.le_of_lt hlt
        · exact h2 c hc
      · rename_i hlt
        cases h
        refine ⟨.head _, fun c hc => ?_⟩
        rcases List.mem_cons.mp hc with rfl | hc
        · exact Nat.le_refl _
        · exact Nat.le_trans (h2 c hc) (Nat.le_of_not_lt hlt)
theorem best_none {s : List Nat} : ∀ {av : List Nat}, best s av = none → av = []
  | [], _ => rfl
  | x :: r, h => by
    unfold best at h
    cases hr : best s r with
    | none => rw [hr] at h; cases h
    | some b =>
      rw [hr] at h
      simp only at h
      split at h <;> cases h
/-- the first of the greatest, told by its neighbours -/
theorem best_eq {s : List Nat} : ∀ {av : List Nat} {a : Nat}, av.Pairwise (· < ·) → a ∈ av → (∀ b ∈ av, b ≠ a → s.getD b 0 < s.getD a 0 ∨ (s.getD b 0 = s.getD a 0 ∧ a < b)) → best s av = some a
  | [], _, _, h, _ => nomatch h
  | x :: r, a, hp, hm, hb => by
    obtain ⟨hx, hr⟩ := List.pairwise_cons.mp hp
    unfold best
    by_cases hxa : x = a
    · subst hxa
      cases h2 : best s r with
      | none => rfl
      | some b =>
        have hbm := (best_mem h2).1
        have hlt := hx b hbm
        simp only
        rw [if_neg]
        rcases hb b (.tail _ hbm) (by omega) with h | h <;> omega
    · have hmr : a ∈ r := by
        rcases List.mem_cons.mp hm with h | h
        · exact absurd h.symm hxa
        · exact h
      rw [best_eq hr hmr fun b hb' hne => hb b (.tail _ hb') hne]
      simp only
      have hlt := hx a hmr
      rw [if_pos]
      rcases hb x (.head _) hxa with h | h <;> omega
end Mine
end

section
open PySem
namespace Mine
def hf (s : List Nat) (q : Nat) : Int × Int := (-((s.getD q 0 : Nat) : Int), (q : Int))
theorem plt_hf {s : List Nat} {a b : Nat} (h : plt (hf s b) (hf s a) = false) (hne : b ≠ a) : s.getD b 0 < s.getD a 0 ∨ (s.getD b 0 = s.getD a 0 ∧ a < b) := by
  unfold plt hf at h
  simp only [Bool.or_eq_false_iff, Bool.and_eq_false_iff, decide_eq_false_iff_not] at h
  omega
/-- the heap's root is the best -/
theorem root_best {ps : List (Int × Int)} {av s : List Nat} (hH : HeapFrom 0 ps) (hpos : 0 < ps.length) (hpm : ps.Perm (av.map (hf s))) (hpw : av.Pairwise (· < ·)) :
    ∃ a ∈ av, G ps 0 = hf s a ∧ best s av = some a := by
  have hm : G ps 0 ∈ ps := by
    have e : G ps 0 = ps[0] := by simp [G, List.getD_eq_getElem?_getD, hpos]
    rw [e]
    exact List.getElem_mem hpos
  obtain ⟨a, ha, hg⟩ := List.mem_map.mp (hpm.mem_iff.mp hm)
  refine ⟨a, ha, hg.symm, best_eq hpw ha fun b hb hne => ?_⟩
  have := heap_root_mem hH (hpm.mem_iff.mpr (List.mem_map_of_mem (f := hf s) hb))
  rw [← hg] at this
  exact plt_hf this hne
/-- the rest, behind the root's leaving -/
theorem perm_rest {ps ps' : List (Int × Int)} {av s : List Nat} {a x : Nat} (ha : a ∈ av) (hnd : av.Pairwise (· < ·)) (hp : (hf s a :: ps').Perm ps) (hpm : ps.Perm (av.map (hf s))) : ps'.Perm ((av.erase a).map (hf (s.set a x))) := by
  have h1 : (hf s a :: ps').Perm (hf s a :: (av.erase a).map (hf s)) := (hp.trans hpm).trans ((List.perm_cons_erase ha).map (hf s))
  have h2 := List.Perm.cons_inv h1
  have e : (av.erase a).map (hf (s.set a x)) = (av.erase a).map (hf s) := by
    refine List.map_congr_left fun q hq => ?_
    have hne : q ≠ a := by
      rintro rfl
      have hnd2 : av.Nodup := hnd.imp fun h => Nat.ne_of_lt h
      exact (List.Nodup.not_mem_erase hnd2) hq
    unfold hf
    rw [List.getD_eq_getElem?_getD, List.getD_eq_getElem?_getD, List.getElem?_set_ne (Ne.symm hne)]
  rw [e]
  exact h2
theorem pw_len {n : Nat} : ∀ {av : List Nat} {lo : Nat}, av.Pairwise (· < ·) → (∀ q ∈ av, lo ≤ q ∧ q < n) → av.length ≤ n - lo
  | [], _, _, _ => Nat.zero_le _
  | a :: r, lo, hp, h => by
    obtain ⟨h1, h2⟩ := List.pairwise_cons.mp hp
    have h3 := h a (.head _)
    have := pw_len (lo := a + 1) h2 fun q hq => ⟨h1 q hq, (h q (.tail _ hq)).2⟩
    rw [List.length_cons]
    omega
theorem behind_mem {n i q : Nat} (h : q ∈ behind n i) : i < q ∧ q < n := by
  unfold behind at h
  rw [List.mem_range'_1] at h
  omega
theorem behind_pw (n i : Nat) : (behind n i).Pairwise (· < ·) := by
  unfold behind
  exact List.pairwise_lt_range'
theorem behind_eq (n i : Nat) (s : List Nat) : (List.range (n - (i + 1))).map (fun q => (-((s.getD (i + 1 + q) 0 : Nat) : Int), ((i + 1 + q : Nat) : Int))) = (behind n i).map (hf s) := by
  unfold behind
  rw [List.range'_eq_map_range, List.map_map]
  rfl
theorem tieIn_none {one k : Nat} {av s m : List Nat} (hk : 0 < k) (h : best s av = none ∨ ∃ a, best s av = some a ∧ s.getD a 0 = 0) : tieIn one k av (s, m) = none := by
  obtain ⟨k', rfl⟩ : ∃ k', k = k' + 1 := ⟨k - 1, by omega⟩
  unfold tieIn
  dsimp only
  rcases h with h | ⟨a, h, h0⟩
  · rw [h]
  · rw [h]
    dsimp only
    rw [if_pos h0]
theorem tieIn_some {one k a : Nat} {av s m : List Nat} (hk : 0 < k) (h : best s av = some a) (h0 : s.getD a 0 ≠ 0) :
    tieIn one k av (s, m) = tieIn one (k - 1) (av.erase a) (s.set a (s.getD a 0 - 1), (m.set one (m.getD one 0 + 2 ^ a)).set a (m.getD a 0 + 2 ^ one)) := by
  obtain ⟨k', rfl⟩ : ∃ k', k = k' + 1 := ⟨k - 1, by omega⟩
  rw [Nat.add_sub_cancel]
  conv => lhs; unfold tieIn
  dsimp only
  rw [h]
  dsimp only
  rw [if_neg h0]
theorem tied_none {ws sn mn : List Nat} {i : Nat} (hin : i < ws.length) (htie : tieOut ws.length (ws.length - i) i (sn, mn) = tied ws) (h : tieIn i (sn.getD i 0) (behind ws.length i) (sn, mn) = none) : tied ws = none := by
  rw [← htie]
  obtain ⟨k', hk'⟩ : ∃ k', ws.length - i = k' + 1 := ⟨ws.length - i - 1, by omega⟩
  rw [hk', tieOut]
  dsimp only
  rw [h]
theorem tied_next {ws sn mn sn' mn' : List Nat} {i : Nat} (hin : i < ws.length) (htie : tieOut ws.length (ws.length - i) i (sn, mn) = tied ws) (h : tieIn i (sn.getD i 0) (behind ws.length i) (sn, mn) = some (sn', mn')) : tieOut ws.length (ws.length - (i + 1)) (i + 1) (sn', mn') = tied ws := by
  rw [← htie]
  obtain ⟨k', hk'⟩ : ∃ k', ws.length - i = k' + 1 := ⟨ws.length - i - 1, by omega⟩
  rw [hk', tieOut]
  dsimp only
  rw [h]
  dsimp only
  rw [show ws.length - (i + 1) = k' by omega]
end Mine
end

section
open PySem PySem.W PySem.Spec PySem.Calls PyProof.Rows
set_option maxRecDepth 100000
namespace Mine
section
variable {prog : Program} {w : World} {A : Around} {h₀ : Heap} {L : Addr} {m : Str → Option Value} {env : Env} {elt : PySem.Expr} {x : Str} {scope : Scope} {cl : List (Str × Addr)} {s : Shared} {S : List (Addr × Obj) → Prop} {P : Nat → Value → Prop} {Fin : List Value → List (Addr × Obj) → Prop} {news : List (Addr × Obj)}
/-- a comprehension whose ledger grows -/
theorem comp_rest {n : Nat} (Inv : Nat → List Value → List (Addr × Obj) → Prop) (h0 : Inv 0 [] news)
    (turn : ∀ i v ys nw I oI C oC D m₂ h tk (E' : Value → Shared → Prop), i < n → P i v → Inv i ys nw → LCg.NsObj oC m₂ → m₂ x = some v → Fr h₀ L h m → News h₀ L h ((I, oI) :: (C, oC) :: (D, LCg.lst ys) :: nw) → LCg.Off3 I C D nw → ((@Ne Nat I C) ∧ (@Ne Nat I D) ∧ (@Ne Nat C D)) →
      wpAny (model prog w) A (eval elt (compEnvC scope cl C env)) (LCg.CompEnd h₀ L m { s with heap := h, toks := tk } I oI C oC D (LCg.lst ys) S (fun y nw' => Inv (i + 1) (ys ++ [y]) nw')) E' { s with heap := h, toks := tk })
    (fin : ∀ ys nw, Inv n ys nw → Fin ys nw) : LCg.CompRest prog w A h₀ L m env elt x scope cl s S P Fin n 0 [] news := by
  have key : ∀ (j i : Nat) (ys : List Value) (nw : List (Addr × Obj)), i + j = n → Inv i ys nw → LCg.CompRest prog w A h₀ L m env elt x scope cl s S P Fin j i ys nw := by
    intro j
    induction j with
    | zero =>
      intro i ys nw hi hy
      have e : i = n := by omega
      subst e
      exact LCg.CompRest.zero (fin ys nw hy)
    | succ j ih =>
      intro i ys nw hi hy
      refine LCg.CompRest.succ ?_
      intro v I oI C oC D m₂ h tk E' hv hC hx F N off ne
      refine wpAny_mono (turn i v ys nw I oI C oC D m₂ h tk E' (by omega) hv hy hC hx F N off ne) (fun y s₂ hq => ?_) fun _ _ e => e
      obtain ⟨h', tk', nw', e, F', N', off', hS, hn⟩ := hq
      exact ⟨h', tk', nw', e, F', N', off', hS, ih (i + 1) _ _ (by omega) hn⟩
  exact key n 0 [] news (by omega) h0
end
end Mine
end

section
open PySem PySem.W PySem.Spec PySem.Calls PyProof.Rows
set_option maxRecDepth 100000
namespace Mine
section
variable {prog : Program} {w : World} {A : Around} {E : Value → Shared → Prop} {s : Shared}
theorem upd_at {d : Addr} {o o' : Obj} {post : List (Addr × Obj)} (b : ∀ p ∈ post, p.1 ≠ d) : ∀ {pre : List (Addr × Obj)}, (∀ p ∈ pre, p.1 ≠ d) → Upd d o o' (pre ++ (d, o) :: post) (pre ++ (d, o') :: post)
  | [], _ => .head b
  | p :: _, a => .tail (a p (.head _)) (upd_at b fun q hq => a q (.tail _ hq))
/-- an int is written into a list of ints -/
theorem set_int {h₀ : Heap} {L : Addr} {m : Str → Option Value} {news : List (Addr × Obj)} {g : Obj → List (Addr × Obj)} {l : Addr} {vs : List Value} {ns : List Int} {n : Nat} {k x : Int} {t u : Tok} {Q : Unit → Shared → Prop} (F : Fr h₀ L s.heap m) (N : News h₀ L s.heap news)
    (U : UpdF l (listOf vs.toArray n) news g) (hi : IntsAre vs ns) (h0 : 0 ≤ k) (h1 : k.toNat < vs.length) (hfit : k < 2 ^ 63)
    (h : ∀ h' vs', IntsAre vs' (ns.set k.toNat x) → Fr h₀ L h' m → News h₀ L h' (g (listOf vs'.toArray n)) → Q () { s with heap := h' }) : wpAny (model prog w) A (setItem (.ref l) (.int k t) (.int x u)) Q E s := by
  obtain ⟨pre, post, rfl, hg, a, b⟩ := U.split
  have U2 : Upd l (listOf vs.toArray n) (listOf (vs.set k.toNat (.int x u)).toArray n) (pre ++ (l, listOf vs.toArray n) :: post) (pre ++ (l, listOf (vs.set k.toNat (.int x u)).toArray n) :: post) := by
    exact upd_at b a
  refine set_cell F N U2 h0 h1 hfit fun h' F' N' => h h' (vs.set k.toNat (.int x u)) (ints_set hi _) F' ?_
  rw [hg]
  exact N'
end
end Mine
end

section
open PySem PySem.W PySem.Spec PySem.Calls PyProof.Rows
set_option maxRecDepth 100000
set_option maxHeartbeats 8000000
namespace Mine
local macro_rules | `(tactic| walk_at "Mine pad") => `(tactic| skip)
local macro_rules | `(tactic| walk_at "Mine pad") => `(tactic| skip)
theorem begin_L1J : True := by
  w_top off
  exact True.intro
local macro_rules | `(tactic| walk_at "exec For Name Call cons nil") => `(tactic| (k_dflt (refine Mine.for_held ?_ (by intro _; rfl))))
local macro_rules | `(tactic| walk_at "storeName") => `(tactic| ((with_reducible show wpAny _ _ (storeName _ (Str.ofString "still") _) _ _ _); (refine Mine.Held.mk ?_)))
local macro_rules | `(tactic| walk_at "exec Assign cons ListComp") => `(tactic| (refine Mine.Held.mk ?_))
local macro_rules | `(tactic| walk_at "CompSrc") => `(tactic| (refine Mine.Held.mk ?_))
local macro_rules | `(tactic| walk_at "CompEnd") => `(tactic| (refine Mine.Held.mk ?_))
local macro_rules | `(tactic| walk_at "compareOp Eq ref ref") => `(tactic| (refine Mine.Held.mk ?_))
local macro_rules | `(tactic| walk_at "getItem ref int") => `(tactic| (refine Mine.Held.mk ?_))
local macro_rules | `(tactic| walk_at "setItem ref int") => `(tactic| (refine Mine.Held.mk ?_))
local macro_rules | `(tactic| walk_at "call ref") => `(tactic| (refine Mine.Held.mk ?_))

theorem range_size (n : Nat) : Builtin.Range.rangeSize 0 (n : Int) 1 = (n : Int) := by
  unfold Builtin.Range.rangeSize
  simp only [show (1 : Int) > 0 from by decide, if_true]
  split <;> omega

theorem range_size2 (i n : Nat) : Builtin.Range.rangeSize ((i : Int) + 1) (n : Int) 1 = ((n - (i + 1) : Nat) : Int) := by
  unfold Builtin.Range.rangeSize
  simp only [show (1 : Int) > 0 from by decide, if_true]
  split <;> omega

theorem getD_ofNat (l : List Nat) (k : Nat) : (l.map Int.ofNat).getD k 0 = ((l.getD k 0 : Nat) : Int) := by
  simp only [List.getD_eq_getElem?_getD, List.getElem?_map]
  cases l[k]? <;> rfl

theorem allLt_mem {D : Addr} : ∀ {l : List (Addr × Obj)}, AllLt D l → ∀ p ∈ l, p.1 < D
  | [], _, _, h => nomatch h
  | _ :: _, x, p, h => by
    rcases List.mem_cons.mp h with rfl | h
    · exact x.1
    · exact allLt_mem x.2 p h
theorem shl_nat (a k : Nat) : Int.ofNat (a + 2 ^ k) = (a : Int) + 1 * 2 ^ ((k : Int)).toNat := by
  rw [Int.toNat_natCast, Int.one_mul]
  show ((a + 2 ^ k : Nat) : Int) = _
  push_cast
  rfl
theorem shl_nat2 (a k : Nat) : Int.ofNat (a + 2 ^ k) = (a : Int) + 1 * 2 ^ k := shl_nat a k
theorem off1_mem {D : Addr} : ∀ {l : List (Addr × Obj)}, LCg.Off1 D l → ∀ p ∈ l, p.1 ≠ D
  | [], _, _, h => nomatch h
  | _ :: _, x, p, h => by
    rcases List.mem_cons.mp h with rfl | h
    · exact x.1
    · exact off1_mem x.2 p h

theorem tied_c (w : World) (led : List (Addr × Obj)) (l : Addr) (us : List Value) (ws : List Nat) (n : Nat) (hus : IntsAre us (ws.map Int.ofNat)) (hap : ∀ p ∈ led, p.1 ≠ l) (hlen : ws.length ≤ 9) (hsmall : ∀ x ∈ ws, x < 10) :
    Spec w 116 5 ((l, listOf us.toArray n) :: led) [.ref l]
      (fun v led' => ∃ a mv mn k, v = .ref a ∧ led' = (a, listOf mv.toArray k) :: (l, listOf us.toArray n) :: led ∧ (∀ p ∈ (l, listOf us.toArray n) :: led, p.1 < a) ∧ IntsAre mv (mn.map Int.ofNat) ∧ mn = (tied ws).getD []) := by
  unfold Spec
  k_fill
  intro mean mg mb dp un gd cn cs a ccd cl outer A₀ base h₀ L m s Q E B F X N T hk' hd hu hret
  refine wpAny_call ?_
  k_dflt ((refine' code_defC ?k1 ?k2 ?k3 ?k4 ?k5 ?kA ?kF ?kK ?k6 ?k7 ?k8 ?k9 ?kB ?kD ?_ ?c2 ?c3 ?c4; (case kA => exact rfl); (case kF => exact rfl); (case kK => first | assumption | exact rfl); (case k1 => k_asm); (case k2 => k_asm); (case k3 => k_asm); (case k4 => k_asm); (case k5 => k_asm); (case k6 => k_is); (case k7 => k_is); (case k8 => ktr_room); (case k9 => exact BindsTo.of_eq rfl); (case kB => exact rfl); (case kD => decide +kernel); (case c2 => exact rfl); (case c3 => exact rfl); (case c4 => exact rfl); k_whole; intro g1 L1 h1 _ _ FG1 F1 N1 Y' B1 X1 T1 l1; (have hY := CellsAre.one Y'; obtain ⟨oC0, hE', d1⟩ := hY; subst hE'; clear Y'); (try simp only [List.cons_append, List.nil_append] at N1); (try dsimp only); (try k_lift B1)))
  k_steps
  refine Held.out ?_

  rename Fr _ _ _ _ => F2
  rename News _ _ _ _ => N2
  rename IntsAre _ _ => hI2
  rename _ ∧ _ => l2
  rename Addr => Ds
  rename List Value => sv0
  have hapC : ∀ p ∈ (l, listOf us.toArray n) :: led, p.1 ≠ L1 + 1 := fun p hp => Nat.ne_of_lt (Nat.lt_succ_of_lt (l1 p hp))
  refine storeX_C F2 N2 rfl (.tail (Nat.ne_of_gt l2.1) (.head hapC)) d1 ?_ rfl rfl
  intro h2 oC F3 N3 dC
  k_steps
  refine Held.out ?_
  rename Fr _ _ _ _ => F4
  rename News _ _ _ _ => N4
  rename IsRange _ _ _ _ _ _ _ _ => R4
  rename_i Dm hx1 i1 n1 s1 e1 e2 e3 lD hx2 Fq Nq hx3 tkx t1 u1 v1 old
  have hflat : (List.replicate ((((ws.map Int.ofNat).length : Nat) : Int)).toNat [(0 : Int)]).flatten = (List.replicate ws.length 0).map Int.ofNat := by
    rw [List.length_map, Int.toNat_natCast]
    simp
  rw [hflat] at i1
  generalize (List.replicate ((((ws.map Int.ofNat).length : Nat) : Int)).toNat _).flatten = mv0 at i1 N4 s1
  clear s1 e1 e2 e3
  have hwl : (ws.map Int.ofNat).length = ws.length := List.length_map _
  refine for_range (n := ws.length) (σ := (List Value × List Nat × Nat) × List Value × List Nat × Nat)
    (fun c => (Dm, listOf c.2.1.toArray c.2.2.2) :: (Ds, listOf c.1.1.toArray c.1.2.2) :: (L1 + 1, oC) :: (l, listOf us.toArray n) :: led)
    (fun c => [(Str.ofString "modes", .ref Dm), (Str.ofString "many", .int ((ws.map Int.ofNat).length : Int) _)])
    (fun i c => IntsAre c.1.1 (c.1.2.1.map Int.ofNat) ∧ IntsAre c.2.1 (c.2.2.1.map Int.ofNat) ∧ c.1.2.1.length = ws.length ∧ c.2.2.1.length = ws.length ∧ (∀ x ∈ c.1.2.1, x < 10) ∧ tieOut ws.length (ws.length - i) i (c.1.2.1, c.2.2.1) = tied ws)
    (fun c => IntsAre c.2.1 (c.2.2.1.map Int.ofNat) ∧ tied ws = some c.2.2.1) ((sv0, ws, 0), mv0, List.replicate ws.length 0, 0) rfl R4 (small_one (by decide) (by decide) (by rw [hwl]; omega) (by rw [hwl]; omega)) (by rw [hwl]; exact range_size _) F4 ?_ ⟨hI2, i1, rfl, by simp, hsmall, rfl⟩ (by kst_all) ?turn ?els ?done rfl rfl (by with_unfolding_all passes_own)
  case turn =>
    rintro i t ⟨⟨sv, sn, se⟩, mv, mn, me⟩ u h tk J oJ hin ⟨hsv, hmv, hsl, hml, hsb, htie⟩ hne F5 N5
    dsimp only [fmap] at F5 N5 hsv hmv hsl hml hsb htie hne ⊢
    rw [Int.zero_add] at F5
    k_steps
    rename Fr _ _ _ _ => F6
    rename News _ _ _ _ => N6
    refine Held.out (LCg.Assign_ListComp_U (F₀ := F6) (by rfl) (by with_unfolding_all rfl) (by with_unfolding_all rfl) (by decide) (by rfl) (by decide) (by rfl) (by rfl) (by rfl) ?_)
    k_steps
    refine Held.out ?_
    rename Fr _ _ _ _ => F7
    rename News _ _ _ _ => N7
    rename IsRange _ _ _ _ _ _ _ _ => R7
    refine LCg.CompSrc.range (n := ws.length - (i + 1)) rfl F7 N7 R7 (small_one (by omega) (by omega) (by rw [hwl]; omega) (by rw [hwl]; omega)) (by rw [hwl]; exact range_size2 _ _) (by rw [PySem.sizeLine_eq]; omega) ?_
    intro g7
    refine comp_rest (fun j ys nw => ∃ tl, nw = (Dm, listOf mv.toArray me) :: (Ds, listOf sv.toArray se) :: (L1 + 1, oC) :: (l, listOf us.toArray n) :: (led ++ (J, oJ) :: tl) ∧ Prs tl ys ((List.range j).map fun q => (-((sn.getD (i + 1 + q) 0 : Nat) : Int), ((i + 1 + q : Nat) : Int))) ∧ ∀ p ∈ tl, Dm < p.1 ∧ Ds < p.1 ∧ L1 + 1 < p.1) ⟨[], rfl, .nil, fun _ h => nomatch h⟩ ?cturn ?cfin
    case cturn =>
      rintro j v ys nw I oI C oC2 D m₂ h tk E' hj ⟨tv, rfl⟩ ⟨tl, rfl, hP, hlt⟩ hNs hmx F8 N8 off8 ne8
      k_steps
      refine Held.out ?_
      rename Fr _ _ _ _ => F9
      rename News _ _ _ _ => N9
      rename _ ∧ _ => l9
      rename_i _ Tq _
      have hidx : (i : Int) + 1 + (j : Int) = ((i + 1 + j : Nat) : Int) := by omega
      simp only [hidx, Int.toNat_natCast, getD_ofNat] at N9
      refine LCg.CompEnd.intro F9 N9 ((Dm, listOf mv.toArray me) :: (Ds, listOf sv.toArray se) :: (L1 + 1, oC) :: (l, listOf us.toArray n) :: (led ++ (J, oJ) :: (Tq, tup2 (-((sn.getD (i + 1 + j) 0 : Nat) : Int)) ((i + 1 + j : Nat) : Int) tk tv 0) :: tl)) ?sub ?off True.intro ⟨(Tq, tup2 (-((sn.getD (i + 1 + j) 0 : Nat) : Int)) ((i + 1 + j : Nat) : Int) tk tv 0) :: tl, rfl, ?pr, ?lt⟩
      case sub =>
        intro p hp
        simp only [List.mem_cons, List.mem_append] at hp ⊢
        rcases hp with h | h | h | h | h | h | h | h | h | h | h <;> first | (exact .inl h) | simp [h]
      case off => 
        refine LCg.Off3.of fun p hp => ?_
        have off8m := off8.mem
        simp only [List.mem_cons, List.mem_append] at hp
        rcases hp with h | h | h | h | h | h | h | h
        · exact off8m p (by simp [h])
        · exact off8m p (by simp [h])
        · exact off8m p (by simp [h])
        · exact off8m p (by simp [h])
        · exact off8m p (by simp [h])
        · exact off8m p (by simp [h])
        · rw [h]
          exact ⟨Nat.ne_of_gt l9.1, Nat.ne_of_gt l9.2.1, Nat.ne_of_gt l9.2.2.1⟩
        · exact off8m p (by simp [h])
      case pr => 
        rw [List.range_succ, List.map_append]
        exact Prs.append (Prs.mono hP fun p hp => .tail _ hp) (.cons (.head _) .nil)
      case lt =>
        intro p hp
        rcases List.mem_cons.mp hp with rfl | hp
        · exact ⟨l9.2.2.2.1, l9.2.2.2.2.1, l9.2.2.2.2.2.1⟩
        · exact hlt p hp
    case cfin =>
      rintro ys nw ⟨tl, rfl, hP, hlt⟩
      k_steps
      refine Held.out ?_
      rename Fr _ _ _ _ => F9
      rename News _ _ _ _ => N9
      rename _ ∧ _ => o9
      rename_i Dh _ _
      have hap9 : ∀ p ∈ (Dm, listOf mv.toArray me) :: (Ds, listOf sv.toArray se) :: (L1 + 1, oC) :: (l, listOf us.toArray n) :: (led ++ (J, oJ) :: tl), p.1 ≠ Dh := by
        intro p hp
        rcases List.mem_cons.mp hp with rfl | hp
        · exact o9.1
        rcases List.mem_cons.mp hp with rfl | hp
        · exact o9.2.1
        rcases List.mem_cons.mp hp with rfl | hp
        · exact o9.2.2.1
        rcases List.mem_cons.mp hp with rfl | hp
        · exact o9.2.2.2.1
        · exact off1_mem o9.2.2.2.2 p hp
      refine Spec.use (heapify_c w tl _ Dh ys _ ys.length hap9 ?_ hP ?_) (by assumption) F9 (by assumption) N9 (by assumption) rfl (by ktr_room) (by ktr_units) ?_
      · intro p hp
        simp [hp]
      · simp; omega
      rintro v led' h' tk' F10 N10 ⟨rfl, hs0, ps0, rfl, hP0, hH0, hperm0⟩
      k_steps
      refine Held.out ?_
      rename Fr _ _ _ _ => F11
      rename News _ _ _ _ => N11
      rename IsRange _ _ _ _ _ _ _ _ => R11
      rw [Int.toNat_natCast, getD_ofNat] at R11
      have hK : sn.getD i 0 < 10 := by
        rw [List.getD_eq_getElem?_getD, List.getElem?_eq_getElem (by omega)]
        exact hsb _ (List.getElem_mem _)
      refine for_range (n := sn.getD i 0) (σ := (List Value × List (Int × Int) × List Nat × Nat) × (List Value × List Nat × Nat) × List Value × List Nat × Nat)
        (fun c => (Dh, listOf c.1.1.toArray c.1.2.2.2) :: (Dm, listOf c.2.2.1.toArray c.2.2.2.2) :: (Ds, listOf c.2.1.1.toArray c.2.1.2.2) :: (L1 + 1, oC) :: (l, listOf us.toArray n) :: (led ++ (J, oJ) :: tl))
        (fun c => [(Str.ofString "heap", .ref Dh), (Str.ofString "one", .int (i : Int) t), (Str.ofString "modes", .ref Dm), (Str.ofString "many", .int ((ws.map Int.ofNat).length : Int) _)])
        (fun tn c => (Prs tl c.1.1 c.1.2.1 ∧ HeapFrom 0 c.1.2.1 ∧ c.1.2.1.Perm (c.1.2.2.1.map (hf c.2.1.2.1)) ∧ c.1.2.2.1.Pairwise (· < ·) ∧ (∀ q ∈ c.1.2.2.1, i < q ∧ q < ws.length)) ∧ IntsAre c.2.1.1 (c.2.1.2.1.map Int.ofNat) ∧ IntsAre c.2.2.1 (c.2.2.2.1.map Int.ofNat) ∧ c.2.1.2.1.length = ws.length ∧ c.2.2.2.1.length = ws.length ∧ (∀ x ∈ c.2.1.2.1, x < 10) ∧ tieIn i (sn.getD i 0 - tn) c.1.2.2.1 (c.2.1.2.1, c.2.2.2.1) = tieIn i (sn.getD i 0) (behind ws.length i) (sn, mn))
        (fun c => IntsAre c.2.1.1 (c.2.1.2.1.map Int.ofNat) ∧ IntsAre c.2.2.1 (c.2.2.2.1.map Int.ofNat) ∧ c.2.1.2.1.length = ws.length ∧ c.2.2.2.1.length = ws.length ∧ (∀ x ∈ c.2.1.2.1, x < 10) ∧ tieIn i (sn.getD i 0) (behind ws.length i) (sn, mn) = some (c.2.1.2.1, c.2.2.2.1)) ((hs0, ps0, behind ws.length i, ys.length), (sv, sn, se), mv, mn, me) rfl R11 (small_one (by decide) (by decide) (by omega) (by omega)) (range_size _) F11 N11 ⟨⟨hP0, hH0, ?pm, ?pw, ?rg⟩, hsv, hmv, hsl, hml, hsb, rfl⟩ (by kst_all) ?turn2 ?els2 ?done2 rfl rfl (by with_unfolding_all passes_own)
      case pm =>
        rw [← behind_eq]
        exact hperm0
      case pw => exact behind_pw _ _
      case rg => exact fun q hq => behind_mem hq
      case turn2 =>
        rintro tn tt ⟨⟨hs, ps, av, hk⟩, ⟨sv, sn', se⟩, mv, mn', me⟩ u h tk J2 oJ2 htn ⟨⟨hP, hH, hpm, hpw, hrg⟩, hsv, hmv, hsl, hml, hsb, htie2⟩ hne2 F12 N12
        dsimp only [fmap] at F12 N12 hP hH hpm hpw hrg hsv hmv hsl hml hsb htie2 hne2 ⊢
        have hvl := hP.length
        have hJD : J2 ≠ Dh := (hne2 _ (.head _)).symm
        k_steps
        refine Held.out ?_
        rename Fr _ _ _ _ => F13
        rename News _ _ _ _ => N13
        rename_i De _ _
        cases hs with
        | nil =>
          refine cmp_ofEq (ke_eq_ints (ns := []) (ms := []) (PySem.IsL.isList (n := hk) (N13 _ (.tail _ (.head _))).1) (PySem.IsL.isList (n := 0) (N13 _ (.head _)).1) .nil .nil (by ktr_units) ?_)
          have hps : ps = [] := List.eq_nil_of_length_eq_zero hvl.symm
          have hav : av = [] := by
            have := hpm.length_eq
            rw [hps, List.length_map] at this
            exact List.eq_nil_of_length_eq_zero this.symm
          have hnone : tied ws = none := tied_none hin htie (by rw [← htie2]; exact tieIn_none (by omega) (.inl (by rw [hav]; rfl)))
          k_steps
          dsimp only [FTEnd]
          k_steps
          refine hret _ _ _ _ (by assumption) ?_ ⟨_, [], [], 0, rfl, rfl, ?fr, .nil, by rw [hnone]; rfl⟩
          case fr =>
            rename _ ∧ AllLt _ _ => lE
            intro p hp
            exact allLt_mem lE.2 p (by simp only [List.mem_cons, List.mem_append] at hp ⊢; rcases hp with hp | hp <;> simp [hp])
          intro p hp
          refine (by assumption : News _ _ _ _) p ?_
          simp only [List.mem_cons, List.mem_append] at hp ⊢
          rcases hp with hp | hp | hp
          · exact .inl hp
          · simp [hp]
          · simp [hp]
        | cons v0 hr =>
          refine cmp_ofEq (PySem.SeqAt.eq_list_lengthsAt (PySem.IsL.isList (n := hk) (N13 _ (.tail _ (.head _))).1) (PySem.IsL.isList (n := 0) (N13 _ (.head _)).1) (by simp) (by ktr_units) ?_)
          have hpos : 0 < ps.length := by rw [← hvl]; exact Nat.succ_pos _
          obtain ⟨a0, ti0, tj0, n0, hv0, hm0⟩ := hP.get hpos
          have ev : v0 = .ref a0 := Option.some.inj hv0
          subst ev
          k_steps
          rename News _ _ _ _ => N14
          obtain ⟨ab, habm, hab, hbest⟩ := root_best hH hpos hpm hpw
          have hG0 : ps.getD 0 (0, 0) = hf sn' ab := hab
          rw [hG0] at hm0
          refine item_tupleT (l := [.int (hf sn' ab).1 ti0, .int (hf sn' ab).2 tj0]) (News.isTup (n := n0) (d := none) (sl := #[]) N14 ?hmem) (by decide) (by decide) rfl rfl ?_ (by with_unfolding_all rfl)
          case hmem =>
            simp only [List.mem_cons, List.mem_append]
            have : (a0, tup2 (hf sn' ab).1 (hf sn' ab).2 ti0 tj0 n0) ∈ tl := hm0
            unfold tup2 at this
            simp only [this, or_true, true_or]
          k_steps
          · rename (hf sn' ab).1 = 0 => hz
            have hnone : tied ws = none := tied_none hin htie (by rw [← htie2]; exact tieIn_none (by omega) (.inr ⟨ab, hbest, by unfold hf at hz; omega⟩))
            dsimp only [FTEnd]
            k_steps
            refine hret _ _ _ _ (by assumption) ?_ ⟨_, [], [], 0, rfl, rfl, ?fr, .nil, by rw [hnone]; rfl⟩
            case fr =>
              rename _ ∧ AllLt _ _ => lE
              intro p hp
              exact allLt_mem lE.2 p (by simp only [List.mem_cons, List.mem_append] at hp ⊢; rcases hp with hp | hp <;> simp [hp])
            intro p hp
            refine (by assumption : News _ _ _ _) p ?_
            simp only [List.mem_cons, List.mem_append] at hp ⊢
            rcases hp with hp | hp | hp
            · exact .inl hp
            · simp [hp]
            · simp [hp]
          · rename (hf sn' ab).1 ≠ 0 => hz
            refine Held.out ?_
            rename Fr _ _ _ _ => F15
            rename News _ _ _ _ => N15
            have hapD : ∀ p ∈ (Dm, listOf mv.toArray me) :: (Ds, listOf sv.toArray se) :: (L1 + 1, oC) :: (l, listOf us.toArray n) :: (led ++ (J, oJ) :: tl) ++ [(J2, oJ2)], p.1 ≠ Dh := by
              intro p hp
              rcases List.mem_append.mp hp with hp | hp
              · exact (hne2 p (.tail _ hp) |> fun _ => by
                  rcases List.mem_cons.mp hp with rfl | hp
                  · exact o9.1
                  rcases List.mem_cons.mp hp with rfl | hp
                  · exact o9.2.1
                  exact hap9 p (.tail _ (.tail _ hp)))
              · rw [List.mem_singleton.mp hp]
                exact hJD
            refine Spec.use (heappop_c w tl ((Dm, listOf mv.toArray me) :: (Ds, listOf sv.toArray se) :: (L1 + 1, oC) :: (l, listOf us.toArray n) :: (led ++ (J, oJ) :: tl) ++ [(J2, oJ2)]) Dh (.ref a0 :: hr) ps hk hapD ?_ hP hH (by intro e; rw [e] at hpos; exact absurd hpos (Nat.lt_irrefl _)) ?_) (by assumption) F15 (by assumption) (fun p hp => N15 p (.tail _ hp)) (by assumption) rfl (by ktr_room) (by ktr_units) ?_
            · intro p hp
              simp [hp]
            · have h1 := hpm.length_eq
              rw [List.length_map] at h1
              have h2 := pw_len (lo := 0) hpw fun q hq => ⟨Nat.zero_le _, (hrg q hq).2⟩
              omega
            rintro v led' h' tk' F16 N16 ⟨a2, ti2, tj2, k2, rfl, hm2, hs3, ps3, n3, rfl, hP3, hH3, hperm3⟩
            rw [hab] at hm2 hperm3
            k_steps
            rename News _ _ _ _ => N17
            refine item_tupleT (l := [.int (-((sn'.getD ab 0 : Nat) : Int)) ti2, .int (ab : Int) tj2]) (News.isTup (n := k2) (d := none) (sl := #[]) N17 ?hmem2) (by decide) (by decide) rfl rfl ?_ (by with_unfolding_all rfl)
            case hmem2 =>
              simp only [List.mem_cons, List.mem_append]
              have : (a2, tup2 (-((sn'.getD ab 0 : Nat) : Int)) (ab : Int) ti2 tj2 k2) ∈ tl := hm2
              unfold tup2 at this
              simp only [this, or_true, true_or]
            have habr := hrg ab habm
            have habs : ab < sn'.length := by omega
            have hz2 : sn'.getD ab 0 ≠ 0 := by unfold hf at hz; omega
            k_steps
            refine Held.out ?_
            rename Fr _ _ _ _ => F18
            rename News _ _ _ _ => N18
            refine getItem_intsK (PySem.IsL.isList (n := se) (N18 _ (.tail _ (.tail _ (.head _)))).1) hsv (by omega) (by rw [List.length_map]; omega) (by omega) fun tg => ?_
            rw [Int.toNat_natCast, getD_ofNat]
            k_steps
            refine Held.out ?_
            rename Fr _ _ _ _ => F19
            rename News _ _ _ _ => N19
            have hJm : J ≠ Dm := (hne _ (.head _)).symm
            have hJs : J ≠ Ds := (hne _ (.tail _ (.head _))).symm
            have hJ2m : J2 ≠ Dm := (hne2 _ (.tail _ (.head _))).symm
            have hJ2s : J2 ≠ Ds := (hne2 _ (.tail _ (.tail _ (.head _)))).symm
            have hapS : ∀ p ∈ (L1 + 1, oC) :: (l, listOf us.toArray n) :: (led ++ (J, oJ) :: tl) ++ [(J2, oJ2)], p.1 ≠ Ds := by
              intro p hp
              simp only [List.mem_cons, List.mem_append, List.cons_append, List.not_mem_nil, or_false] at hp
              rcases hp with rfl | rfl | (hp | rfl | hp) | rfl
              · exact Nat.ne_of_lt l2.1
              · exact Nat.ne_of_lt l2.2.1
              · exact Nat.ne_of_lt (allLt_mem l2.2.2 p hp)
              · exact hJs
              · exact Nat.ne_of_gt (hlt p hp).2.1
              · exact hJ2s
            have hapM : ∀ o, ∀ p ∈ (Ds, o) :: (L1 + 1, oC) :: (l, listOf us.toArray n) :: (led ++ (J, oJ) :: tl) ++ [(J2, oJ2)], p.1 ≠ Dm := by
              intro o p hp
              simp only [List.mem_cons, List.mem_append, List.cons_append, List.not_mem_nil, or_false] at hp
              rcases hp with rfl | rfl | rfl | (hp | rfl | hp) | rfl
              · exact Nat.ne_of_lt lD.2.1
              · exact Nat.ne_of_lt lD.2.2.1
              · exact Nat.ne_of_lt lD.2.2.2.1
              · exact Nat.ne_of_lt (allLt_mem lD.2.2.2.2 p hp)
              · exact hJm
              · exact Nat.ne_of_gt (hlt p hp).1
              · exact hJ2m
            have hDms : Dm ≠ Ds := Nat.ne_of_gt lD.2.1
            have hDhm : Dh ≠ Dm := Ne.symm o9.1
            have hDhs : Dh ≠ Ds := Ne.symm o9.2.1
            have hsvl := hsv.length
            have hmvl := hmv.length
            rw [List.length_map] at hsvl hmvl
            refine set_int F19 N19 (.tail hDhs (.tail hDms (.head hapS))) hsv (by omega) (by rw [Int.toNat_natCast]; omega) (by omega) fun h20 sv2 hsv2 F20 N20 => ?_
            rw [Int.toNat_natCast] at hsv2
            k_steps
            refine Held.out ?_
            rename Fr _ _ _ _ => F21
            rename News _ _ _ _ => N21
            refine getItem_intsK (PySem.IsL.isList (n := me) (N21 _ (.tail _ (.head _))).1) hmv (by omega) (by rw [List.length_map]; omega) (by omega) fun tg2 => ?_
            rw [Int.toNat_natCast, getD_ofNat]
            k_steps
            refine Held.out ?_
            rename Fr _ _ _ _ => F22
            rename News _ _ _ _ => N22
            refine set_int F22 N22 (.tail hDhm (.head (hapM _))) hmv (by omega) (by rw [Int.toNat_natCast]; omega) (by omega) fun h23 mv2 hmv2 F23 N23 => ?_
            rw [Int.toNat_natCast] at hmv2
            have hmvl2 := hmv2.length
            rw [List.length_set, List.length_map] at hmvl2
            k_steps
            refine Held.out ?_
            rename Fr _ _ _ _ => F24
            rename News _ _ _ _ => N24
            refine getItem_intsK (PySem.IsL.isList (n := me) (N24 _ (.tail _ (.head _))).1) hmv2 (by omega) (by rw [List.length_set, List.length_map]; omega) (by omega) fun tg3 => ?_
            have hg3 : ∀ x : Int, ((mn'.map Int.ofNat).set i x).getD ((ab : Nat) : Int).toNat 0 = ((mn'.getD ab 0 : Nat) : Int) := by
              intro x
              rw [Int.toNat_natCast, ← getD_ofNat, List.getD_eq_getElem?_getD, List.getD_eq_getElem?_getD, List.getElem?_set_ne (by omega)]
            rw [hg3]
            k_steps
            refine Held.out ?_
            rename Fr _ _ _ _ => F25
            rename News _ _ _ _ => N25
            refine set_int F25 N25 (.tail hDhm (.head (hapM _))) hmv2 (by omega) (by rw [Int.toNat_natCast]; omega) (by omega) fun h26 mv3 hmv3 F26 N26 => ?_
            rw [Int.toNat_natCast] at hmv3
            k_steps
            dsimp only [FTEnd]
            refine FEnd.intro ((hs3, ps3, av.erase ab, n3), (sv2, sn'.set ab (sn'.getD ab 0 - 1), se), mv3, (mn'.set i (mn'.getD i 0 + 2 ^ ab)).set ab (mn'.getD ab 0 + 2 ^ i), me) F26 N26 ⟨⟨hP3, hH3, perm_rest habm hpw hperm3 hpm, hpw.sublist (List.erase_sublist), fun q hq => hrg q (List.mem_of_mem_erase hq)⟩, ?p1, ?p2, by rw [List.length_set]; omega, by rw [List.length_set, List.length_set]; omega, ?p3, ?p4⟩ (by simp) (fun p hp => ?_) (fun p hp => ?_) (by kst_all)
            case p1 =>
              have e1 : ((sn'.getD ab 0 : Nat) : Int) - 1 = Int.ofNat (sn'.getD ab 0 - 1) := by
                show _ = ((sn'.getD ab 0 - 1 : Nat) : Int)
                omega
              rw [e1, ← List.map_set] at hsv2
              exact hsv2
            case p2 =>
              rw [← shl_nat, ← shl_nat2, ← List.map_set, ← List.map_set] at hmv3
              exact hmv3
            case p3 =>
              intro x hx
              rcases List.mem_or_eq_of_mem_set hx with h | h
              · exact hsb x h
              · have : sn'.getD ab 0 < 10 := by
                  rw [List.getD_eq_getElem?_getD, List.getElem?_eq_getElem habs]
                  exact hsb _ (List.getElem_mem _)
                omega
            case p4 =>
              rw [← htie2, tieIn_some (by omega) hbest hz2]
              rfl
            · simp only [List.mem_cons, List.mem_append] at hp ⊢
              rcases hp with hp | hp | hp | hp | hp | hp | hp | hp <;> simp [hp]
            · rcases List.mem_cons.mp hp with rfl | hp
              · exact hJD.symm
              rcases List.mem_cons.mp hp with rfl | hp
              · exact hJ2m.symm
              rcases List.mem_cons.mp hp with rfl | hp
              · exact hJ2s.symm
              · exact hne2 p (.tail _ (.tail _ (.tail _ hp)))
      case els2 =>
        rintro ⟨⟨hs, ps, av, hk⟩, ⟨sv, sn', se⟩, mv, mn', me⟩ u h tk ⟨⟨hP, hH, hpm, hpw, hrg⟩, hsv, hmv, hsl, hml, hsb, htie2⟩ F12 N12
        refine els_nil ⟨hsv, hmv, hsl, hml, hsb, ?_⟩ F12 N12 (by kst_all)
        rw [Nat.sub_self] at htie2
        exact htie2.symm
      case done2 =>
        rintro ⟨⟨hs, ps, av, hk⟩, ⟨sv, sn', se⟩, mv, mn', me⟩ u h tk ⟨hsv, hmv, hsl, hml, hsb, htie2⟩ F12 N12
        dsimp only [fmap] at F12 N12 hsv hmv hsl hml hsb htie2 ⊢
        k_steps
        dsimp only [FTEnd]
        refine FEnd.intro ((sv, sn', se), mv, mn', me) F12 N12 ⟨hsv, hmv, hsl, hml, hsb, tied_next hin htie htie2⟩ (by simp) (fun p hp => ?_) (fun p hp => ?_) (by kst_all)
        · simp only [List.mem_cons, List.mem_append] at hp ⊢
          rcases hp with hp | hp | hp | hp | hp <;> simp [hp]
        · rcases List.mem_cons.mp hp with rfl | hp
          · exact (hne _ (.head _)).symm.symm
          rcases List.mem_cons.mp hp with rfl | hp
          · exact (hne _ (.tail _ (.head _))).symm.symm
          · exact hne p (.tail _ (.tail _ hp))
  case els =>
    rintro ⟨⟨sv, sn, se⟩, mv, mn, me⟩ u h tk ⟨hsv, hmv, hsl, hml, hsb, htie⟩ F5 N5
    refine els_nil ⟨hmv, ?_⟩ F5 N5 (by kst_all)
    rw [Nat.sub_self] at htie
    exact htie.symm
  case done =>
    rintro ⟨⟨sv, sn, se⟩, mv, mn, me⟩ u h tk ⟨hmv, htie⟩ F5 N5
    dsimp only [fmap] at F5 N5 hmv htie ⊢
    k_steps
    exact hret _ _ _ _ (by assumption) (fun p hp => (by assumption : News _ _ _ _) p (by simp only [List.mem_cons] at hp ⊢; rcases hp with hp | hp | hp <;> simp [hp])) ⟨Dm, mv, mn, me, rfl, rfl, (fun p hp => (List.mem_cons.mp hp).elim (fun e => e ▸ lD.2.2.2.1) (fun hp => allLt_mem lD.2.2.2.2 p hp)), hmv, by rw [htie]; rfl⟩
  · intro p hp
    refine N4 p ?_
    simp only [List.mem_cons] at hp ⊢
    rcases hp with hp | hp | hp | hp | hp
    · simp [hp]
    · simp [hp]
    · simp [hp]
    · simp [hp]
    · simp [hp]
end Mine
end

section
open PySem PySem.W PySem.Spec PySem.Calls PyProof.Rows
set_option maxRecDepth 100000
set_option maxHeartbeats 8000000
namespace Mine
local macro_rules | `(tactic| walk_at "Mine pad") => `(tactic| skip)
local macro_rules | `(tactic| walk_at "Mine pad") => `(tactic| skip)
local macro_rules | `(tactic| walk_at "Mine pad") => `(tactic| skip)
local macro_rules | `(tactic| walk_at "Mine pad") => `(tactic| skip)
local macro_rules | `(tactic| walk_at "Mine pad") => `(tactic| skip)
local macro_rules | `(tactic| walk_at "Mine pad") => `(tactic| skip)
local macro_rules | `(tactic| walk_at "Mine pad") => `(tactic| skip)
local macro_rules | `(tactic| walk_at "Mine pad") => `(tactic| skip)
local macro_rules | `(tactic| walk_at "Mine pad") => `(tactic| skip)
local macro_rules | `(tactic| walk_at "Mine pad") => `(tactic| skip)
theorem begin_L1K : True := by
  w_top off
  exact True.intro
local macro_rules | `(tactic| walk_at "exec For Name Call cons nil") => `(tactic| (k_dflt (refine Mine.for_held ?_ (by intro _; rfl))))
local macro_rules | `(tactic| walk_at "storeName") => `(tactic| ((with_reducible show wpAny _ _ (storeName _ (Str.ofString "k") _) _ _ _); (refine Mine.Held.mk ?_)))

/-- Erdős and Gallai's word for the K greatest -/
def egI (K : Int) (fs : List Int) : Prop := (fs.take K.toNat).sum ≤ K * (K - 1) + ((fs.drop K.toNat).map fun k' => if k' < K then k' else K).sum
theorem range_size1 (n : Nat) : Builtin.Range.rangeSize 1 ((n : Int) + 1) 1 = (n : Int) := by
  unfold Builtin.Range.rangeSize
  simp only [show (1 : Int) > 0 from by decide, if_true]
  split <;> omega

theorem fits_c (w : World) (led : List (Addr × Obj)) (l : Addr) (us : List Value) (ws : List Nat) (n : Nat) (hus : IntsAre us (ws.map Int.ofNat)) (hap : ∀ p ∈ led, p.1 ≠ l) (hlen : ws.length ≤ 9) (hsmall : ∀ x ∈ ws, x < 10) :
    Spec w 121 2 ((l, listOf us.toArray n) :: led) [.ref l]
      (fun v led' => ∃ fs : List Int, fs.Perm (ws.map Int.ofNat) ∧ fs.Pairwise (fun x y => y ≤ x) ∧ ∃ b, v = .bool b ∧ (b = true ↔ (ws.map Int.ofNat).sum.fmod 2 = 0 ∧ ∀ j < ws.length, egI (1 + (j : Int) * 1) fs) ∧ led' = (l, listOf us.toArray n) :: led) := by
  unfold Spec
  k_fill
  intro mean mg mb dp un gd cn cs a ccd cl outer A₀ base h₀ L m s Q E B F X N T hk' hd hu hret
  refine wpAny_call ?_
  k_dflt ((refine' code_defC ?k1 ?k2 ?k3 ?k4 ?k5 ?kA ?kF ?kK ?k6 ?k7 ?k8 ?k9 ?kB ?kD ?_ ?c2 ?c3 ?c4; (case kA => exact rfl); (case kF => exact rfl); (case kK => first | assumption | exact rfl); (case k1 => k_asm); (case k2 => k_asm); (case k3 => k_asm); (case k4 => k_asm); (case k5 => k_asm); (case k6 => k_is); (case k7 => k_is); (case k8 => ktr_room); (case k9 => exact BindsTo.of_eq rfl); (case kB => exact rfl); (case kD => decide +kernel); (case c2 => exact rfl); (case c3 => exact rfl); (case c4 => exact rfl); k_whole; intro g1 L1 h1 _ _ FG1 F1 N1 Y' B1 X1 T1 l1; (have hY := CellsAre.one Y'; obtain ⟨oC0, hE', d1⟩ := hY; subst hE'; clear Y'); (try simp only [List.cons_append, List.nil_append] at N1); (try dsimp only); (try k_lift B1)))
  k_steps
  · rename List.Perm _ _ => hperm
    rename List.Pairwise _ _ => hsort
    rename Int.fmod _ _ ≠ 0 => hodd
    exact hret _ _ _ _ (by assumption) (fun p hp => (by assumption : News _ _ _ _) p (by simp only [List.mem_cons, List.mem_append] at hp ⊢; rcases hp with hp | hp <;> simp [hp])) ⟨_, hperm, hsort, false, rfl, ⟨fun h => absurd h (by decide), fun h => absurd h.1 hodd⟩, rfl⟩
  · refine Held.out ?_
    rename Fr _ _ _ _ => F4
    rename News _ _ _ _ => N4
    rename IsRange _ _ _ _ _ _ _ _ => R4
    rename IntsAre _ _ => hfs
    rename List.Perm _ _ => hperm
    rename List.Pairwise _ _ => hsort
    rename _ ∧ _ => lD
    rename Int.fmod _ _ = 0 => heven
    rename_i D fv fs fc _ _ _ _ _ _ _ _ _ _ _ _ _ _ _ _ _ _
    have hwl : (ws.map Int.ofNat).length = ws.length := List.length_map _
    refine wpAny_pyIter_range R4 (small_one (by decide) (by decide) (by omega) (by omega)) ?_
    refine forG (n := ws.length) (σ := Obj × Unit)
      (fun c => (D, listOf fv.toArray fc) :: (L1 + 1, c.1) :: (l, listOf us.toArray n) :: led)
      (fun c => [(Str.ofString "falling", .ref D)])
      (fun i c => (∃ v₀, c.1.data = .cell v₀) ∧ ∀ j < i, egI (1 + (j : Int) * 1) fs)
      (fun c => (∃ v₀, c.1.data = .cell v₀) ∧ ∀ j < ws.length, egI (1 + (j : Int) * 1) fs) (oC0, ()) (Walks.range rfl _ 1 1 ws.length) ?st0 (next_is_new F4) (Nat.ne_of_gt F4.ns.lt) (fun i h st => ⟨_, st⟩) (fun b hb => .inl (List.mem_singleton.mp hb))
      (fun p hp e => absurd (Heap.lt_size (N4 p hp).1) (e ▸ Nat.lt_irrefl _)) (F4.push _) (fun p hp => ⟨Heap.get?_push_of_some _ (N4 p hp).1, (N4 p hp).2⟩) ⟨⟨_, d1⟩, fun j h => absurd h (Nat.not_lt_zero _)⟩ (by kst_all) ?turn ?els ?done (fun _ => rfl) (by with_unfolding_all passes_own)
    case st0 => 
      show IsRangeIter _ _ _ _ _
      rw [hwl, range_size1]
      simpa using Heap.get?_push_size _ rfl
    case turn =>
      rintro i v ⟨oK, _⟩ u h tk oJ hin ⟨tv, rfl⟩ ⟨⟨v₀, dK⟩, hok⟩ hne F5 N5
      dsimp only [fmap] at F5 N5 hok hne dK ⊢
      refine wpAny_assign_Name ?_
      refine storeX_C F5 N5 rfl (.tail (Nat.ne_of_gt lD.1) (.head ?hapC)) dK ?_ rfl rfl
      case hapC =>
        intro p hp
        rcases List.mem_append.mp hp with hp | hp
        · exact Nat.ne_of_lt (Nat.lt_succ_of_lt (l1 p hp))
        · rw [List.mem_singleton.mp hp]
          exact (hne _ (.tail _ (.head _))).symm
      intro h6 oK2 F6 N6 dK2
      k_steps
      · rename _ < List.sum _ => hbad
        dsimp only [FTEnd]
        k_steps
        exact hret _ _ _ _ (by assumption) (fun p hp => (by assumption : News _ _ _ _) p (by simp only [List.mem_cons, List.mem_append] at hp ⊢; rcases hp with hp | hp <;> simp [hp])) ⟨fs, hperm, hsort, false, rfl, ⟨fun h => absurd h (by decide), fun h => absurd (h.2 i hin) (Int.not_le.mpr hbad)⟩, rfl⟩
      · rename ¬ (_ < List.sum _) => hgood
        rename Fr _ _ _ _ => F7
        rename News _ _ _ _ => N7
        dsimp only [FTEnd]
        refine FEnd.intro (oK2, ()) F7 N7 ⟨⟨_, dK2⟩, fun j hj => ?_⟩ (by simp) (fun p hp => ?_) (fun p hp => ?_) (by kst_all)
        · rcases Nat.lt_succ_iff_lt_or_eq.mp hj with h | rfl
          · exact hok j h
          · exact Int.not_lt.mp hgood
        · simp only [List.mem_cons, List.mem_append] at hp ⊢
          rcases hp with hp | hp | hp | hp <;> simp [hp]
        · rcases List.mem_cons.mp hp with rfl | hp
          · exact (hne _ (.head _)).symm.symm
          rcases List.mem_cons.mp hp with rfl | hp
          · exact (hne _ (.tail _ (.head _))).symm.symm
          · exact hne p (.tail _ (.tail _ hp))
    case els =>
      rintro ⟨oK, _⟩ u h tk ⟨hd, hok⟩ F5 N5
      exact els_nil ⟨hd, hok⟩ F5 N5 (by kst_all)
    case done =>
      rintro ⟨oK, _⟩ u h tk ⟨hd, hok⟩ F5 N5
      dsimp only [fmap] at F5 N5 hok ⊢
      k_steps
      exact hret _ _ _ _ (by assumption) (fun p hp => (by assumption : News _ _ _ _) p (by simp only [List.mem_cons, List.mem_append] at hp ⊢; rcases hp with hp | hp <;> simp [hp])) ⟨fs, hperm, hsort, true, rfl, ⟨fun _ => ⟨heven, hok⟩, fun _ => rfl⟩, rfl⟩
end Mine
end

section
open PySem PySem.W PySem.Spec PySem.Calls PyProof.Rows
set_option maxRecDepth 100000
namespace Mine
section
variable {prog : Program} {w : World} {A : Around} {E : Value → Shared → Prop} {Q : Flow → Shared → Prop} {s : Shared} {env : Env} {h₀ : Heap} {L : Addr}
/-- over a list that stands -/
theorem for_list {σ : Type} {x : Str} {px : Pos} {body orelse : List Stmt} {ax : Addr} {vs : List Value} {e : Nat} {m₀ : Str → Option Value}
    (Led : σ → List (Addr × Obj)) (ps : σ → List (Str × Value)) (Inv : Nat → σ → Prop) (Fin : σ → Prop) (c₀ : σ)
    (hh : A.handled = none) (hled : ∀ i c, Inv i c → (ax, listOf vs.toArray e) ∈ Led c)
    (F : Fr h₀ env.locals s.heap m₀) (N : News h₀ env.locals s.heap (Led c₀)) (hi : Inv 0 c₀) (hk : ∀ p ∈ ps c₀, m₀ p.1 = some p.2)
    (turn : ∀ i v (c : σ) (u : Str → Option Value) h tk I oI, i < vs.length → vs[i]? = some v → Inv i c → (∀ p ∈ Led c, p.1 ≠ I) → Fr h₀ env.locals h (fun y => if y = x then some v else fmap u (ps c) y) → News h₀ env.locals h (Led c ++ [(I, oI)]) →
      wpAny (model prog w) A (execs body env) (FTEnd h₀ env.locals s Led ps (I, oI) (Inv (i + 1)) Fin Q) E { s with heap := h, toks := tk })
    (els : ∀ (c : σ) (u : Str → Option Value) h tk, Inv vs.length c → Fr h₀ env.locals h (fmap u (ps c)) → News h₀ env.locals h (Led c) → wpAny (model prog w) A (execs orelse env) (ElseEnd h₀ env.locals s Led ps Fin Q) E { s with heap := h, toks := tk })
    (done : ∀ (c : σ) (u : Str → Option Value) h tk, Fin c → Fr h₀ env.locals h (fmap u (ps c)) → News h₀ env.locals h (Led c) → Q .next { s with heap := h, toks := tk })
    (hx : env.kindOf x = some .local) (hp : (env.scope.kind == .class || (env.scope.kind == .module && env.locals != env.globals)) = false) (hE : PassesOwn (model prog w) A env E) :
    wpAny (model prog w) A (pyIter (.ref ax)) (fun it s₂ => LoopHere prog w A E env (.Name x px) body orelse Q it s₂) E s := by
  have hm := N _ (hled 0 c₀ hi)
  have hl : s.heap.IsList ax vs.toArray := PySem.IsL.isList (n := e) hm.1
  have hlt := Heap.lt_size hm.1
  refine wpAny_pyIter_list hl ?_
  have hI : h₀.get? s.heap.objs.size = none := next_is_new F
  have W := Walks.list (prog := prog) (w := w) hh s.heap.objs.size ax (Nat.ne_of_lt hlt) vs.toArray
  rw [List.size_toArray] at W
  refine forN Led ps Inv Fin c₀ (n := vs.length) W ⟨⟨_, Heap.get?_push_size _ rfl, rfl, rfl⟩, hl.push _⟩ hI
    (Nat.ne_of_gt F.ns.lt) (fun i h st => by obtain ⟨o, e, _⟩ := st.1; exact ⟨o, e⟩) (fun b hb => by
      rcases List.mem_cons.mp hb with rfl | hb
      · exact .inl rfl
      · rw [List.mem_singleton.mp hb]
        exact .inr (.inr ⟨_, hled⟩))
    (fun p hp e => absurd (Heap.lt_size (N p hp).1) (e ▸ Nat.lt_irrefl _)) (F.push _) (fun p hp => ⟨Heap.get?_push_of_some _ (N p hp).1, (N p hp).2⟩) hi hk ?_ els done hx hp hE
  rintro i v c u h tk oI hin hP hi' hne F' N'
  exact turn i v c u h tk _ oI hin (by simpa using hP) hi' hne F' N'
end
end Mine
end

section
open PySem
namespace Mine
/-- a number's octets: noughts ahead, then the digit -/
def oct (k : Int → Nat) (m : Int) (v : Int) : List Int := (List.replicate (k v) [(64 : Int)]).flatten ++ [v.fmod m]
theorem oct_eq (k : Int → Nat) (m v : Int) : oct k m v = List.replicate (k v) 64 ++ [v.fmod m] := by
  unfold oct
  congr 1
  induction k v with
  | zero => rfl
  | succ n ih => rw [List.replicate_succ, List.flatten_cons, ih]; rfl
theorem oct_len (k : Int → Nat) (m v : Int) : (oct k m v).length = k v + 1 := by rw [oct_eq]; simp
theorem oct_pos (k : Int → Nat) (m v : Int) (j : Nat) (h : j < k v) : (oct k m v)[j]? = some 64 := by
  rw [oct_eq, List.getElem?_append_left (by simpa using h), List.getElem?_replicate, if_pos h]
theorem oct_last (k : Int → Nat) (m v : Int) : (oct k m v)[k v]? = some (v.fmod m) := by
  rw [oct_eq, List.getElem?_append_right (by simp)]
  simp
theorem flat_len {k : Int → Nat} {m : Int} (hk : ∀ v, k v ≤ 2) : ∀ l : List Int, (l.flatMap (oct k m)).length ≤ 3 * l.length
  | [] => Nat.zero_le _
  | a :: r => by
    have := flat_len (m := m) hk r
    have := hk a
    rw [List.flatMap_cons, List.length_append, oct_len, List.length_cons]
    omega
theorem pv_oct {os : List Int} {i n : Nat} {x : Int} (h : ∀ j < n, os.getD (i + j) 0 = 64) (hx : os.getD (i + n) 0 = x) (h0 : 0 ≤ x) (h1 : x < 64) (hn : n ≤ 2) : pv os i (n + 1) = x := by
  have hm : x % 64 = x := Int.emod_eq_of_lt h0 h1
  match n, hn with
  | 0, _ => show os.getD i 0 % 64 = x; rw [← hm]; exact congrArg (· % 64) hx
  | 1, _ =>
    show os.getD i 0 % 64 * 64 + os.getD (i + 1) 0 % 64 = x
    have e0 : os.getD i 0 = 64 := h 0 (by decide)
    rw [e0, hx, hm]
    omega
  | 2, _ =>
    show (os.getD i 0 % 64 * 64 + os.getD (i + 1) 0 % 64) * 64 + os.getD (i + 2) 0 % 64 = x
    have e0 : os.getD i 0 = 64 := h 0 (by decide)
    have e1 : os.getD (i + 1) 0 = 64 := h 1 (by decide)
    rw [e0, e1, hx, hm]
    omega
theorem groups_of {k : Int → Nat} {m : Int} (hm : 0 < m) (hm2 : m ≤ 64) (hk : ∀ v, k v ≤ 2) {os : List Int} : ∀ (l : List Int) (i : Nat), os.drop i = l.flatMap (oct k m) → i ≤ os.length →
    Groups os i (l.map fun v => k v + 1) ∧ vals os i (l.map fun v => k v + 1) = l.map fun v => v.fmod m
  | [], i, h, hi => by
    have : i = os.length := by
      have := congrArg List.length h
      simp at this
      omega
    subst this
    exact ⟨.nil, rfl⟩
  | a :: r, i, h, hi => by
    rw [List.flatMap_cons] at h
    have hl : (os.drop i).length = (oct k m a).length + (r.flatMap (oct k m)).length := by rw [h, List.length_append]
    rw [oct_len, List.length_drop] at hl
    have hka := hk a
    have hnn : 0 ≤ a.fmod m := Int.fmod_nonneg_of_pos a hm
    have hlt : a.fmod m < m := Int.fmod_lt_of_pos a hm
    have hat : ∀ j, j < k a + 1 → os[i + j]? = (oct k m a)[j]? := fun j hj => by
      rw [← List.getElem?_drop, h, List.getElem?_append_left (by rw [oct_len]; exact hj)]
    have h1 : ∀ j < k a, os.getD (i + j) 0 = 64 := fun j hj => by rw [List.getD_eq_getElem?_getD, hat j (by omega), oct_pos k m a j hj]; rfl
    have h2 : os.getD (i + k a) 0 = a.fmod m := by rw [List.getD_eq_getElem?_getD, hat _ (by omega), oct_last]; rfl
    have hd : os.drop (i + (k a + 1)) = r.flatMap (oct k m) := by
      rw [← List.drop_drop, h, List.drop_append_of_le_length (by rw [oct_len]; omega), List.drop_eq_nil_of_le (by rw [oct_len]; omega), List.nil_append]
    obtain ⟨g1, g2⟩ := groups_of hm hm2 hk r (i + (k a + 1)) hd (by omega)
    simp only [List.map_cons]
    refine ⟨.cons (by omega) (by omega) (by omega) (fun j hj => ?_) ?_ g1, ?_⟩
    · rw [h1 j (by omega)]
      decide
    · rw [show k a + 1 - 1 = k a by omega, h2, bitAnd64 hnn (by omega), if_pos (by omega)]
    · show pv os i (k a + 1) :: vals os (i + (k a + 1)) _ = _ :: _
      rw [g2, pv_oct h1 h2 hnn (by omega) hka]
end Mine
end

section
namespace Mine
/-- how many below n -/
def dg (n : Nat) (f : Nat → Bool) : Nat := (List.range n).countP f
theorem dg_zero (f : Nat → Bool) : dg 0 f = 0 := rfl
theorem dg_succ (n : Nat) (f : Nat → Bool) : dg (n + 1) f = dg n f + (f n).toNat := by
  unfold dg
  rw [List.range_succ, List.countP_append]
  cases h : f n <;> simp [h]
def up (f : Nat → Bool) (x : Nat) (b : Bool) : Nat → Bool := fun y => if y = x then b else f y
theorem dg_congr {f g : Nat → Bool} : ∀ {n : Nat}, (∀ i < n, f i = g i) → dg n f = dg n g
  | 0, _ => rfl
  | n + 1, h => by rw [dg_succ, dg_succ, dg_congr (n := n) fun i hi => h i (Nat.lt_succ_of_lt hi), h n (Nat.lt_succ_self n)]
theorem dg_up {f : Nat → Bool} {x : Nat} {b : Bool} : ∀ {n : Nat}, x < n → dg n (up f x b) + (f x).toNat = dg n f + b.toNat
  | 0, h => absurd h (Nat.not_lt_zero _)
  | n + 1, h => by
    rw [dg_succ, dg_succ]
    by_cases e : x = n
    · subst e
      have h1 : dg x (up f x b) = dg x f := dg_congr fun i hi => by unfold up; rw [if_neg (by omega)]
      have h2 : up f x b x = b := by unfold up; rw [if_pos rfl]
      rw [h1, h2]
      omega
    · have h1 := dg_up (f := f) (b := b) (n := n) (show x < n by omega)
      have h2 : up f x b n = f n := by unfold up; rw [if_neg (by omega)]
      rw [h2]
      omega
theorem dg_le {f g : Nat → Bool} : ∀ {n : Nat}, (∀ i < n, f i = true → g i = true) → dg n f ≤ dg n g
  | 0, _ => Nat.le_refl _
  | n + 1, h => by
    rw [dg_succ, dg_succ]
    have := dg_le (n := n) fun i hi => h i (Nat.lt_succ_of_lt hi)
    have h2 := h n (Nat.lt_succ_self n)
    cases hf : f n <;> cases hg : g n <;> simp_all <;> omega
theorem dg_lt {f g : Nat → Bool} {n v : Nat} (h : ∀ i < n, f i = true → g i = true) (hv : v < n) (hf : f v = false) (hg : g v = true) : dg n f < dg n g := by
  have h1 := dg_up (f := f) (b := true) hv
  have h2 : dg n (up f v true) ≤ dg n g := dg_le fun i hi hu => by
    unfold up at hu
    by_cases e : i = v
    · rw [e]; exact hg
    · rw [if_neg e] at hu
      exact h i hi hu
  rw [hf] at h1
  simp only [Bool.toNat_false, Bool.toNat_true] at h1
  omega
/-- the fourth corner -/
theorem corner {R : Nat → Nat → Bool} {n v a b : Nat} (hs : ∀ i j, R i j = R j i) (hi : ∀ i, R i i = false) (hv : v < n) (ha : a < n) (hb : b < n) (hva : R a v = false) (hvb : R b v = true) (hav : a ≠ v)
    (hd : dg n (R b) ≤ dg n (R a)) : ∃ c, c < n ∧ R a c = true ∧ R b c = false ∧ c ≠ b := by
  by_cases hc : ∃ c, c < n ∧ R a c = true ∧ R b c = false ∧ c ≠ b
  · exact hc
  · exfalso
    have h1 := dg_up (f := R a) (b := false) hb
    have h2 := dg_up (f := R b) (b := false) ha
    have h3 : dg n (up (R a) b false) < dg n (up (R b) a false) := by
      refine dg_lt (v := v) (fun i hin hu => ?_) hv ?_ ?_
      · unfold up at hu ⊢
        by_cases e : i = b
        · rw [if_pos e] at hu; cases hu
        · rw [if_neg e] at hu
          by_cases e2 : i = a
          · rw [e2, hi a] at hu; cases hu
          · rw [if_neg e2]
            cases hb2 : R b i with
            | true => rfl
            | false => exact absurd ⟨i, hin, hu, hb2, e⟩ hc
      · unfold up
        split
        · rfl
        · exact hva
      · unfold up
        rw [if_neg (Ne.symm hav)]
        exact hvb
    rw [hs b a] at h2
    omega
/-- one edge set or taken -/
def ed (R : Nat → Nat → Bool) (i j : Nat) (b : Bool) : Nat → Nat → Bool := fun x y => if (x = i ∧ y = j) ∨ (x = j ∧ y = i) then b else R x y
theorem ed_sym {R : Nat → Nat → Bool} {i j : Nat} {b : Bool} (hs : ∀ x y, R x y = R y x) : ∀ x y, ed R i j b x y = ed R i j b y x := by
  intro x y
  unfold ed
  rw [hs x y]
  by_cases h : (x = i ∧ y = j) ∨ (x = j ∧ y = i)
  · rw [if_pos h, if_pos (by omega)]
  · rw [if_neg h, if_neg (by omega)]
theorem ed_irr {R : Nat → Nat → Bool} {i j : Nat} {b : Bool} (hi : ∀ x, R x x = false) (hij : i ≠ j) : ∀ x, ed R i j b x x = false := by
  intro x
  unfold ed
  rw [if_neg (by omega), hi]
theorem ed_dg {R : Nat → Nat → Bool} {i j n : Nat} {b : Bool} (hij : i ≠ j) (hi : i < n) (hj : j < n) (hs : ∀ x y, R x y = R y x) (x : Nat) :
    dg n (ed R i j b x) + (if x = i ∨ x = j then (R i j).toNat else 0) = dg n (R x) + (if x = i ∨ x = j then b.toNat else 0) := by
  by_cases h1 : x = i
  · subst h1
    have e : ed R x j b x = up (R x) j b := by
      funext y
      unfold ed up
      by_cases h : y = j
      · rw [if_pos (.inl ⟨rfl, h⟩), if_pos h]
      · rw [if_neg (by omega), if_neg h]
    rw [e, if_pos (.inl rfl), if_pos (.inl rfl)]
    exact dg_up hj
  · by_cases h2 : x = j
    · subst h2
      have e : ed R i x b x = up (R x) i b := by
        funext y
        unfold ed up
        by_cases h : y = i
        · rw [if_pos (.inr ⟨rfl, h⟩), if_pos h]
        · rw [if_neg (by omega), if_neg h]
      rw [e, if_pos (.inr rfl), if_pos (.inr rfl), hs i x]
      exact dg_up hi
    · have e : ed R i j b x = R x := by
        funext y
        unfold ed
        rw [if_neg (by omega)]
      rw [e, if_neg (by omega), if_neg (by omega)]
/-- the step: the popped one is a neighbour, or is made one -/
theorem step1 {R : Nat → Nat → Bool} {n v a : Nat} (hs : ∀ x y, R x y = R y x) (hi : ∀ x, R x x = false) (hv : v < n) (ha : a < n) (hav : a ≠ v)
    (hb : R v a = true ∨ ∃ b, b < n ∧ R v b = true ∧ b ≠ a ∧ dg n (R b) ≤ dg n (R a)) :
    ∃ R' : Nat → Nat → Bool, (∀ x y, R' x y = R' y x) ∧ (∀ x, R' x x = false) ∧ (∀ x, dg n (R' x) + (if x = v ∨ x = a then 1 else 0) = dg n (R x)) ∧ (∀ x, R' v x = true → R v x = true ∧ x ≠ a) ∧ (∀ x y, R' x y = true → ∃ z, R x z = true) := by
  by_cases h : R v a = true
  · refine ⟨ed R v a false, ed_sym hs, ed_irr hi (Ne.symm hav), fun x => ?_, fun x hx => ?_, fun x y hx => ?_⟩
    · have := ed_dg (R := R) (b := false) (Ne.symm hav) hv ha hs x
      rw [h] at this
      simp only [Bool.toNat_true, Bool.toNat_false] at this
      split <;> simp_all
    · unfold ed at hx
      split at hx
      · cases hx
      · exact ⟨hx, by omega⟩
    · unfold ed at hx
      split at hx
      · cases hx
      · exact ⟨y, hx⟩
  · have hva : R v a = false := by simpa using h
    obtain ⟨b, hbn, hvb, hba, hdl⟩ := hb.resolve_left h
    have hav0 : R a v = false := by rw [hs]; exact hva
    obtain ⟨c, hcn, hac, hbc, hcb⟩ := corner hs hi hv ha hbn hav0 (by rw [hs]; exact hvb) hav hdl
    have hcv : c ≠ v := by rintro rfl; rw [hav0] at hac; cases hac
    have hca : c ≠ a := by rintro rfl; rw [hi] at hac; cases hac
    have hbv : b ≠ v := by rintro rfl; rw [hi] at hvb; cases hvb
    have hs1 := ed_sym (i := v) (j := b) (b := false) hs
    have hs2 := ed_sym (i := a) (j := c) (b := false) hs1
    have h1 : ed R v b false a c = true := by unfold ed; rw [if_neg (by omega)]; exact hac
    have h2 : ed (ed R v b false) a c false b c = false := by unfold ed; rw [if_neg (by omega), if_neg (by omega)]; exact hbc
    refine ⟨ed (ed (ed R v b false) a c false) b c true, ed_sym hs2, ed_irr (ed_irr (ed_irr hi (Ne.symm hbv)) (Ne.symm hca)) (Ne.symm hcb), fun x => ?_, fun x hx => ?_, fun x y hx => ?_⟩
    · have e1 := ed_dg (b := false) (Ne.symm hbv) hv hbn hs x
      have e2 := ed_dg (b := false) (Ne.symm hca) ha hcn hs1 x
      have e3 := ed_dg (b := true) (Ne.symm hcb) hbn hcn hs2 x
      rw [hvb] at e1
      rw [h1] at e2
      rw [h2] at e3
      simp only [Bool.toNat_true, Bool.toNat_false] at e1 e2 e3
      by_cases x1 : x = v
      · simp [x1, hbv.symm, hav.symm, hcv.symm] at e1 e2 e3 ⊢; omega
      by_cases x2 : x = a
      · simp [x2, hba.symm, hav, hca.symm] at e1 e2 e3 ⊢; omega
      by_cases x3 : x = b
      · simp [x3, hba, hbv, hcb.symm] at e1 e2 e3 ⊢; omega
      by_cases x4 : x = c
      · simp [x4, hcb, hcv, hca] at e1 e2 e3 ⊢; omega
      · simp [x1, x2, x3, x4] at e1 e2 e3 ⊢; omega
    · unfold ed at hx
      rw [if_neg (by omega), if_neg (by omega)] at hx
      split at hx
      · cases hx
      · exact ⟨hx, by rintro rfl; rw [hva] at hx; cases hx⟩
    · unfold ed at hx
      split at hx
      · rename_i hq
        rcases hq with ⟨rfl, _⟩ | ⟨rfl, _⟩
        · exact ⟨v, by rw [hs]; exact hvb⟩
        · exact ⟨a, by rw [hs]; exact hac⟩
      · split at hx
        · cases hx
        · split at hx
          · cases hx
          · exact ⟨y, hx⟩
end Mine
end

section
set_option maxHeartbeats 8000000
set_option maxHeartbeats 8000000
namespace Mine
def srt : List Nat → List Nat
  | [] => []
  | a :: r => ins a (srt r)
where ins (a : Nat) : List Nat → List Nat
  | [] => [a]
  | b :: r => if b ≤ a then a :: b :: r else b :: ins a r
def egN (fs : List Nat) (k : Nat) : Bool := decide ((fs.take k).sum ≤ k * (k - 1) + ((fs.drop k).map (min k)).sum)
def eg (fs : List Nat) : Bool := decide (fs.sum % 2 = 0) && (List.range fs.length).all fun j => egN fs (j + 1)
def chk (l : List Nat) : Bool := (tied (l ++ [2, 3, 3, 2])).isSome == eg (srt (l ++ [2, 3, 3, 2]))

/-! the same without names, quick to reckon: each file behind is its open wish and whether it is free -/
def bst : List (Nat × Bool) → Nat
  | [] => 0
  | (a, f) :: r => bif f then (bif Nat.ble (bst r) a then a else bst r) else bst r
def tkn (v : Nat) : List (Nat × Bool) → List (Nat × Bool)
  | [] => []
  | (a, f) :: r => bif f && Nat.beq a v then (a - 1, false) :: r else (a, f) :: tkn v r
def srv : Nat → List (Nat × Bool) → Option (List (Nat × Bool))
  | 0, l => some l
  | k + 1, l => match bst l with
    | 0 => none
    | v + 1 => srv k (tkn (v + 1) l)
def allS : Nat → List Nat → Bool
  | 0, _ => true
  | _, [] => true
  | f + 1, a :: r => match srv a (r.map fun x => (x, true)) with
    | none => false
    | some l => allS f (l.map Prod.fst)
/-- the files of ps, their wishes in s, free by f -/
def vw (s : List Nat) (f : Nat → Bool) (ps : List Nat) : List (Nat × Bool) := ps.map fun p => (s.getD p 0, f p)

theorem bst_vw (s : List Nat) (f : Nat → Bool) : ∀ ps, match best s (ps.filter f) with | none => bst (vw s f ps) = 0 | some b => bst (vw s f ps) = s.getD b 0
  | [] => rfl
  | p :: r => by
    have ih := bst_vw s f r
    unfold vw at ih ⊢
    rw [List.map_cons]
    unfold bst
    rw [List.filter_cons]
    cases hf : f p with
    | false =>
      simp only [cond_false, Bool.false_eq_true, if_false]
      exact ih
    | true =>
      simp only [cond_true, if_true]
      rw [best]
      cases hb : best s (r.filter f) with
      | none =>
        rw [hb] at ih
        dsimp only at ih ⊢
        rw [ih]
        rfl
      | some b =>
        rw [hb] at ih
        dsimp only at ih ⊢
        rw [ih]
        by_cases hlt : s.getD p 0 < s.getD b 0
        · rw [if_pos hlt]
          have : Nat.ble (s.getD b 0) (s.getD p 0) = false := by
            rw [Bool.eq_false_iff, ne_eq, Nat.ble_eq]
            omega
          rw [this]
          rfl
        · rw [if_neg hlt]
          have : Nat.ble (s.getD b 0) (s.getD p 0) = true := by
            rw [Nat.ble_eq]
            omega
          rw [this]
          rfl
theorem gset_ne {s : List Nat} {a p x : Nat} (h : p ≠ a) : (s.set a x).getD p 0 = s.getD p 0 := by
  simp only [List.getD_eq_getElem?_getD, List.getElem?_set_ne (Ne.symm h)]
theorem vw_other {s : List Nat} {f : Nat → Bool} {a x : Nat} : ∀ {ps : List Nat}, a ∉ ps → vw (s.set a x) (fun p => f p && !(p == a)) ps = vw s f ps
  | [], _ => rfl
  | p :: r, h => by
    have hp : p ≠ a := fun e => h (e ▸ .head _)
    have ih := vw_other (s := s) (f := f) (x := x) (ps := r) fun hm => h (.tail _ hm)
    unfold vw at ih ⊢
    rw [List.map_cons, List.map_cons, ih]
    have e1 : (s.set a x).getD p 0 = s.getD p 0 := gset_ne hp
    have e2 : (p == a) = false := by simpa using hp
    have e3 : ((s.set a x).getD p 0, f p && !(p == a)) = (s.getD p 0, f p) := by rw [e1, e2, Bool.not_false, Bool.and_true]
    exact congrArg (· :: _) e3
theorem tkn_vw {s : List Nat} {f : Nat → Bool} {a : Nat} : ∀ {ps : List Nat}, ps.Nodup → (∀ p ∈ ps, p < s.length) → best s (ps.filter f) = some a →
    tkn (s.getD a 0) (vw s f ps) = vw (s.set a (s.getD a 0 - 1)) (fun p => f p && !(p == a)) ps
  | [], _, _, h => nomatch h
  | p :: r, hn, hl, h => by
    have hnr := (List.nodup_cons.mp hn).2
    have hpr := (List.nodup_cons.mp hn).1
    have hlr : ∀ q ∈ r, q < s.length := fun q hq => hl q (.tail _ hq)
    have hv : vw s f (p :: r) = (s.getD p 0, f p) :: vw s f r := rfl
    have hv2 : ∀ s' f', vw s' f' (p :: r) = (s'.getD p 0, f' p) :: vw s' f' r := fun _ _ => rfl
    rw [hv, hv2]
    unfold tkn
    rw [List.filter_cons] at h
    cases hf : f p with
    | false =>
      rw [hf] at h
      simp only [Bool.false_eq_true, if_false] at h
      have hpa : p ≠ a := by
        rintro rfl
        have := (best_mem h).1
        rw [List.mem_filter, hf] at this
        exact absurd this.2 (by simp)
      simp only [Bool.false_and, cond_false]
      rw [tkn_vw hnr hlr h]
      have e1 : (s.set a (s.getD a 0 - 1)).getD p 0 = s.getD p 0 := gset_ne hpa
      rw [e1]
    | true =>
      rw [hf] at h
      simp only [if_true] at h
      rw [best] at h
      have here : a = p → (bif true && Nat.beq (s.getD p 0) (s.getD a 0) then (s.getD p 0 - 1, false) :: vw s f r else (s.getD p 0, true) :: tkn (s.getD a 0) (vw s f r)) = ((s.set a (s.getD a 0 - 1)).getD p 0, true && !(p == a)) :: vw (s.set a (s.getD a 0 - 1)) (fun p => f p && !(p == a)) r := by
        rintro rfl
        rw [vw_other hpr]
        have e0 : Nat.beq (s.getD a 0) (s.getD a 0) = true := by rw [Nat.beq_eq]
        have e1 : (s.set a (s.getD a 0 - 1)).getD a 0 = s.getD a 0 - 1 := by
          rw [List.getD_eq_getElem?_getD, List.getElem?_set_self (hl a (.head _))]
          rfl
        rw [e0, e1]
        simp
      cases hb : best s (r.filter f) with
      | none =>
        rw [hb] at h
        simp only [Option.some.injEq] at h
        exact here h.symm
      | some b =>
        rw [hb] at h
        dsimp only at h
        by_cases hlt : s.getD p 0 < s.getD b 0
        · rw [if_pos hlt] at h
          simp only [Option.some.injEq] at h
          subst h
          have hpa : p ≠ b := by rintro rfl; exact absurd hlt (Nat.lt_irrefl _)
          have e0 : Nat.beq (s.getD p 0) (s.getD b 0) = false := by
            rw [Bool.eq_false_iff, ne_eq, Nat.beq_eq]
            omega
          rw [e0]
          simp only [Bool.and_false, cond_false]
          rw [tkn_vw hnr hlr hb]
          have e1 : (s.set b (s.getD b 0 - 1)).getD p 0 = s.getD p 0 := gset_ne hpa
          rw [e1]
          have e2 : (p == b) = false := by simpa using hpa
          rw [e2]
          rfl
        · rw [if_neg hlt] at h
          simp only [Option.some.injEq] at h
          exact here h.symm
theorem filter_out {f : Nat → Bool} {a : Nat} : ∀ {ps : List Nat}, ps.Nodup → (ps.filter f).erase a = ps.filter fun p => f p && !(p == a) := by
  intro ps hn
  rw [List.Nodup.erase_eq_filter (hn.filter _), List.filter_filter]
  refine List.filter_congr fun p _ => ?_
  rw [Bool.and_comm]
  rfl
theorem srv_tieIn (one : Nat) {ps : List Nat} (hn : ps.Nodup) : ∀ (k : Nat) (s m : List Nat) (f : Nat → Bool), (∀ p ∈ ps, p < s.length) →
    (srv k (vw s f ps)).map (List.map Prod.fst) = (tieIn one k (ps.filter f) (s, m)).map (fun y => ps.map fun p => y.1.getD p 0) ∧ ∀ y, tieIn one k (ps.filter f) (s, m) = some y → y.1.length = s.length
  | 0, s, m, f, _ => by
    refine ⟨?_, fun y h => ?_⟩
    · show some ((vw s f ps).map Prod.fst) = some _
      unfold vw
      rw [List.map_map]
      rfl
    · cases h
      rfl
  | k + 1, s, m, f, hl => by
    have hb := bst_vw s f ps
    unfold srv tieIn
    cases h : best s (ps.filter f) with
    | none =>
      rw [h] at hb
      dsimp only at hb ⊢
      rw [hb]
      exact ⟨rfl, fun y e => nomatch e⟩
    | some a =>
      rw [h] at hb
      dsimp only at hb ⊢
      by_cases hz : s.getD a 0 = 0
      · rw [if_pos hz, hb, hz]
        exact ⟨rfl, fun y e => nomatch e⟩
      · rw [if_neg hz, hb]
        obtain ⟨v, hv⟩ : ∃ v, s.getD a 0 = v + 1 := ⟨s.getD a 0 - 1, by omega⟩
        have ht := tkn_vw hn hl h
        rw [hv] at ht ⊢
        dsimp only
        rw [ht, filter_out hn]
        have := srv_tieIn one hn k (s.set a (v + 1 - 1)) ((m.set one (m.getD one 0 + 2 ^ a)).set a (m.getD a 0 + 2 ^ one)) (fun p => f p && !(p == a)) (fun p hp => by rw [List.length_set]; exact hl p hp)
        rw [List.length_set] at this
        exact this
theorem allS_tieOut (n : Nat) : ∀ (k one : Nat) (s m : List Nat) (fuel : Nat), one + k = n → s.length = n → k ≤ fuel → allS fuel ((List.range' one k).map fun p => s.getD p 0) = (tieOut n k one (s, m)).isSome
  | 0, one, s, m, fuel, _, _, _ => by
    cases fuel <;> rfl
  | k + 1, one, s, m, 0, _, _, h => absurd h (Nat.not_succ_le_zero _)
  | k + 1, one, s, m, fuel + 1, hk, hs, hf => by
    have hbe : behind n one = List.range' (one + 1) k := by
      unfold behind
      rw [show n - (one + 1) = k by omega]
    have hnd : (List.range' (one + 1) k).Nodup := List.nodup_range'
    have hlt : ∀ p ∈ List.range' (one + 1) k, p < s.length := fun p hp => by
      have := List.mem_range'_1.mp hp
      omega
    obtain ⟨h1, h2⟩ := srv_tieIn one hnd (s.getD one 0) s m (fun _ => true) hlt
    have hft : (List.range' (one + 1) k).filter (fun _ => true) = List.range' (one + 1) k := List.filter_eq_self.mpr fun _ _ => rfl
    have hvw : vw s (fun _ => true) (List.range' (one + 1) k) = ((List.range' (one + 1) k).map fun p => s.getD p 0).map fun x => (x, true) := by
      unfold vw
      rw [List.map_map]
      rfl
    rw [hft, hvw] at h1
    rw [hft] at h2
    rw [List.range'_succ, List.map_cons]
    unfold allS tieOut
    rw [hbe]
    cases ht : tieIn one (s.getD one 0) (List.range' (one + 1) k) (s, m) with
    | none =>
      rw [ht] at h1
      cases hsv : srv (s.getD one 0) (((List.range' (one + 1) k).map fun p => s.getD p 0).map fun x => (x, true)) with
      | none => rfl
      | some l => rw [hsv] at h1; cases h1
    | some y =>
      rw [ht] at h1
      cases hsv : srv (s.getD one 0) (((List.range' (one + 1) k).map fun p => s.getD p 0).map fun x => (x, true)) with
      | none => rw [hsv] at h1; cases h1
      | some l =>
        rw [hsv] at h1
        simp only [Option.map_some, Option.some.injEq] at h1
        dsimp only
        rw [h1]
        exact allS_tieOut n k (one + 1) y.1 y.2 fuel (by omega) (by rw [h2 y ht, hs]) (by omega)
theorem map_range'_getD : ∀ (l : List Nat) (pre : List Nat), (List.range' pre.length l.length).map (fun p => (pre ++ l).getD p 0) = l
  | [], _ => rfl
  | a :: r, pre => by
    rw [List.length_cons, List.range'_succ, List.map_cons]
    have h := map_range'_getD r (pre ++ [a])
    rw [List.length_append, List.length_singleton, List.append_assoc] at h
    rw [show pre ++ a :: r = pre ++ ([a] ++ r) from rfl, h]
    congr 1
    rw [List.getD_eq_getElem?_getD, List.getElem?_append_right (Nat.le_refl _), Nat.sub_self]
    rfl
theorem tied_allS (w : List Nat) : (tied w).isSome = allS w.length w := by
  unfold tied
  rw [← allS_tieOut w.length w.length 0 w _ w.length (Nat.zero_add _) rfl (Nat.le_refl _)]
  have := map_range'_getD w []
  rw [List.length_nil, List.nil_append] at this
  rw [this]
def chkS (l : List Nat) : Bool := allS (l ++ [2, 3, 3, 2]).length (l ++ [2, 3, 3, 2]) == eg (srt (l ++ [2, 3, 3, 2]))
theorem chkS_eq (l : List Nat) : chk l = chkS l := by unfold chk chkS; rw [tied_allS]
theorem lt_succ_all {P : Nat → Prop} {n : Nat} (h : ∀ a < n, P a) (h1 : P n) : ∀ a < n + 1, P a := fun a ha => (Nat.lt_succ_iff_lt_or_eq.mp ha).elim (h a) fun e => e ▸ h1
theorem chkS1 : ∀ a < 5, chkS [a] = true := by decide +kernel
theorem chkS3 : ∀ a < 7, ∀ b < a + 1, ∀ c < b + 1, chkS [a, b, c] = true := by decide +kernel
theorem chkS0 : chkS [] = true := by decide +kernel
theorem chkS2 : ∀ a < 6, ∀ b < a + 1, chkS [a, b] = true := by decide +kernel
theorem chkS4_7 : ∀ b < 8, ∀ c < b + 1, ∀ d < c + 1, chkS [7, b, c, d] = true := by decide +kernel
theorem chkS4 : ∀ a < 7, ∀ b < a + 1, ∀ c < b + 1, ∀ d < c + 1, chkS [a, b, c, d] = true := by decide +kernel
theorem chkS5_8_8 : ∀ c < 9, ∀ d < c + 1, ∀ e < d + 1, chkS [8, 8, c, d, e] = true := by decide +kernel
theorem chkS5_8_7 : ∀ c < 8, ∀ d < c + 1, ∀ e < d + 1, chkS [8, 7, c, d, e] = true := by decide +kernel
theorem chkS5_8 : ∀ b < 7, ∀ c < b + 1, ∀ d < c + 1, ∀ e < d + 1, chkS [8, b, c, d, e] = true := by decide +kernel
theorem chkS5_7_7 : ∀ c < 8, ∀ d < c + 1, ∀ e < d + 1, chkS [7, 7, c, d, e] = true := by decide +kernel
theorem chkS5_7 : ∀ b < 7, ∀ c < b + 1, ∀ d < c + 1, ∀ e < d + 1, chkS [7, b, c, d, e] = true := by decide +kernel
theorem chkS5_6 : ∀ b < 7, ∀ c < b + 1, ∀ d < c + 1, ∀ e < d + 1, chkS [6, b, c, d, e] = true := by decide +kernel
theorem chkS5 : ∀ a < 6, ∀ b < a + 1, ∀ c < b + 1, ∀ d < c + 1, ∀ e < d + 1, chkS [a, b, c, d, e] = true := by decide +kernel
theorem chk1 : ∀ a < 5, chk [a] = true := fun a ha => by rw [chkS_eq]; exact chkS1 a ha
theorem chk3 : ∀ a < 7, ∀ b < a + 1, ∀ c < b + 1, chk [a, b, c] = true := fun a ha b hb c hc => by rw [chkS_eq]; exact chkS3 a ha b hb c hc
theorem chk0 : chk [] = true := by rw [chkS_eq]; exact chkS0
theorem chk2 : ∀ a < 6, ∀ b < a + 1, chk [a, b] = true := fun a ha b hb => by rw [chkS_eq]; exact chkS2 a ha b hb
theorem chk4 : ∀ a < 8, ∀ b < a + 1, ∀ c < b + 1, ∀ d < c + 1, chk [a, b, c, d] = true := fun a ha b hb c hc d hd => by
  rw [chkS_eq]
  exact lt_succ_all (P := fun a => ∀ b < a + 1, ∀ c < b + 1, ∀ d < c + 1, chkS [a, b, c, d] = true) chkS4 chkS4_7 a ha b hb c hc d hd
theorem chk5 : ∀ a < 9, ∀ b < a + 1, ∀ c < b + 1, ∀ d < c + 1, ∀ e < d + 1, chk [a, b, c, d, e] = true := fun a ha b hb c hc d hd e he => by
  rw [chkS_eq]
  exact lt_succ_all (P := fun a => ∀ b < a + 1, ∀ c < b + 1, ∀ d < c + 1, ∀ e < d + 1, chkS [a, b, c, d, e] = true)
    (lt_succ_all (P := fun a => ∀ b < a + 1, ∀ c < b + 1, ∀ d < c + 1, ∀ e < d + 1, chkS [a, b, c, d, e] = true)
      (lt_succ_all (P := fun a => ∀ b < a + 1, ∀ c < b + 1, ∀ d < c + 1, ∀ e < d + 1, chkS [a, b, c, d, e] = true) chkS5 chkS5_6)
      (lt_succ_all (P := fun b => ∀ c < b + 1, ∀ d < c + 1, ∀ e < d + 1, chkS [7, b, c, d, e] = true) chkS5_7 chkS5_7_7))
    (lt_succ_all (P := fun b => ∀ c < b + 1, ∀ d < c + 1, ∀ e < d + 1, chkS [8, b, c, d, e] = true)
      (lt_succ_all (P := fun b => ∀ c < b + 1, ∀ d < c + 1, ∀ e < d + 1, chkS [8, b, c, d, e] = true) chkS5_8 chkS5_8_7) chkS5_8_8) a ha b hb c hc d hd e he
end Mine
end

section
namespace Mine
/-- some graph has these degrees -/
def Gr (w : List Nat) : Prop := ∃ R : Nat → Nat → Bool, (∀ x y, R x y = R y x) ∧ (∀ x, R x x = false) ∧ ∀ x < w.length, dg w.length (R x) = w.getD x 0
theorem dg_pos {n : Nat} {f : Nat → Bool} (h : 0 < dg n f) : ∃ b, b < n ∧ f b = true := by
  unfold dg at h
  obtain ⟨b, hb, hf⟩ := List.countP_pos_iff.mp h
  exact ⟨b, List.mem_range.mp hb, hf⟩
theorem dg_of {n : Nat} {f : Nat → Bool} {b : Nat} (hb : b < n) (hf : f b = true) : 0 < dg n f := by
  unfold dg
  exact List.countP_pos_iff.mpr ⟨b, List.mem_range.mpr hb, hf⟩
theorem getD_set_self {l : List Nat} {a x : Nat} (h : a < l.length) : (l.set a x).getD a 0 = x := by
  rw [List.getD_eq_getElem?_getD, List.getElem?_set_self h]
  rfl
theorem getD_set_ne {l : List Nat} {a b x : Nat} (h : a ≠ b) : (l.set a x).getD b 0 = l.getD b 0 := by
  rw [List.getD_eq_getElem?_getD, List.getElem?_set_ne h, ← List.getD_eq_getElem?_getD]
/-- what of a graph is left -/
def Rest (n one k : Nat) (av s : List Nat) : Prop :=
  ∃ R : Nat → Nat → Bool, (∀ x y, R x y = R y x) ∧ (∀ x, R x x = false) ∧ (∀ x y, R x y = true → one ≤ x ∧ x < n) ∧ (∀ y, R one y = true → y ∈ av) ∧ dg n (R one) = k ∧ ∀ x, one < x → x < n → dg n (R x) = s.getD x 0
theorem tieIn_ex {n one : Nat} (h1 : one < n) : ∀ (k : Nat) (av s m : List Nat), s.length = n → av.Nodup → (∀ q ∈ av, one < q ∧ q < n) → Rest n one k av s → ∃ s' m', tieIn one k av (s, m) = some (s', m') ∧ s'.length = n ∧ ∃ av', Rest n one 0 av' s'
  | 0, av, s, m, hs, _, _, hR => ⟨s, m, rfl, hs, av, hR⟩
  | k + 1, av, s, m, hsl, hnd, hav, ⟨R, hs, hi, hsup, hone, hk, hd⟩ => by
    obtain ⟨b, hb, hRb⟩ := dg_pos (n := n) (f := R one) (by omega)
    have hbav := hone b hRb
    cases hbest : best s av with
    | none => rw [best_none hbest] at hbav; exact absurd hbav (by simp)
    | some a =>
      obtain ⟨ha, hmax⟩ := best_mem hbest
      have har := hav a ha
      have hbr := hav b hbav
      have h3 := hmax b hbav
      have h4 := hd b hbr.1 hbr.2
      have h5 := hd a har.1 har.2
      have h6 : 0 < dg n (R b) := dg_of (b := one) h1 (by rw [hs]; exact hRb)
      have hcase : R one a = true ∨ ∃ b, b < n ∧ R one b = true ∧ b ≠ a ∧ dg n (R b) ≤ dg n (R a) := by
        by_cases e : b = a
        · subst e; exact .inl hRb
        · exact .inr ⟨b, hb, hRb, e, by omega⟩
      obtain ⟨R', hs', hi', hd', hone', hsup'⟩ := step1 hs hi h1 har.2 (by omega) hcase
      have hbk : tieIn one (k + 1) av (s, m) = tieIn one k (av.erase a) (s.set a (s.getD a 0 - 1), (m.set one (m.getD one 0 + 2 ^ a)).set a (m.getD a 0 + 2 ^ one)) := by
        rw [tieIn_some (Nat.succ_pos k) hbest (by omega)]
        rfl
      rw [hbk]
      refine tieIn_ex h1 k _ _ _ (by rw [List.length_set]; exact hsl) (hnd.erase a) (fun q hq => hav q (List.mem_of_mem_erase hq)) ⟨R', hs', hi', fun x y hx => ?_, fun y hy => ?_, ?_, fun x hx hxn => ?_⟩
      · obtain ⟨z, hz⟩ := hsup' x y hx
        exact hsup x z hz
      · obtain ⟨hy1, hy2⟩ := hone' y hy
        exact (List.mem_erase_of_ne hy2).mpr (hone y hy1)
      · have := hd' one
        rw [if_pos (.inl rfl)] at this
        omega
      · have := hd' x
        have h7 := hd x hx hxn
        by_cases e : x = a
        · subst e
          rw [if_pos (.inr rfl)] at this
          rw [getD_set_self (by omega)]
          omega
        · rw [if_neg (by omega)] at this
          rw [getD_set_ne (Ne.symm e)]
          omega
def RestO (n one : Nat) (s : List Nat) : Prop :=
  ∃ R : Nat → Nat → Bool, (∀ x y, R x y = R y x) ∧ (∀ x, R x x = false) ∧ (∀ x y, R x y = true → one ≤ x ∧ x < n) ∧ ∀ x, one ≤ x → x < n → dg n (R x) = s.getD x 0
theorem behind_mem_of {n i q : Nat} (h : i < q) (h2 : q < n) : q ∈ behind n i := by
  unfold behind
  rw [List.mem_range'_1]
  omega
theorem tieOut_ex {n : Nat} : ∀ (k one : Nat) (s m : List Nat), k + one = n → s.length = n → RestO n one s → ∃ r, tieOut n k one (s, m) = some r
  | 0, _, _, m, _, _, _ => ⟨m, rfl⟩
  | k + 1, one, s, m, hk, hsl, ⟨R, hs, hi, hsup, hd⟩ => by
    have hone : ∀ y, R one y = true → y ∈ behind n one := by
      intro y hy
      have h1 := hsup y one (by rw [hs]; exact hy)
      refine behind_mem_of ?_ h1.2
      rcases Nat.lt_or_ge one y with h | h
      · exact h
      · have e : y = one := by omega
        exact absurd hy (by rw [e, hi]; exact Bool.false_ne_true)
    obtain ⟨s', m', he, hl', av', R', hs', hi', hsup', _, hk', hd'⟩ := tieIn_ex (n := n) (one := one) (by omega) (s.getD one 0) (behind n one) s m hsl ((behind_pw n one).imp fun h => Nat.ne_of_lt h) (fun q hq => behind_mem hq)
      ⟨R, hs, hi, hsup, hone, hd one (Nat.le_refl _) (by omega), fun x hx hxn => hd x (by omega) hxn⟩
    unfold tieOut
    dsimp only
    rw [he]
    dsimp only
    refine tieOut_ex k (one + 1) s' m' (by omega) hl' ⟨R', hs', hi', fun x y hx => ?_, fun x hx hxn => hd' x (by omega) hxn⟩
    have h1 := hsup' x y hx
    have h2 := hsup' y x (by rw [hs']; exact hx)
    refine ⟨?_, h1.2⟩
    rcases Nat.lt_or_ge one x with h | h
    · exact h
    · have : x = one := by omega
      subst this
      have := dg_of (n := n) h2.2 hx
      omega
theorem tied_ex {w : List Nat} (h : Gr w) : (tied w).isSome = true := by
  obtain ⟨R, hs, hi, hd⟩ := h
  obtain ⟨r, hr⟩ := tieOut_ex (n := w.length) w.length 0 w (List.replicate w.length 0) rfl rfl
    ⟨fun x y => R x y && (decide (x < w.length) && decide (y < w.length)), fun x y => by dsimp only; rw [hs x y, Bool.and_comm (decide (x < w.length))], fun x => by simp [hi], fun x y hx => by simp only [Bool.and_eq_true, decide_eq_true_eq] at hx; exact ⟨Nat.zero_le _, hx.2.1⟩, fun x _ hx => by
      rw [← hd x hx]
      exact dg_congr fun i hin => by simp [hx, hin]⟩
  unfold tied
  rw [hr]
  rfl
/-- the graph of the modes -/
def MR (m : List Nat) (x y : Nat) : Bool := (m.getD x 0).testBit y
theorem bit_add : ∀ m < 512, ∀ a < 9, m.testBit a = false → m + 2 ^ a = m ||| 2 ^ a ∧ m + 2 ^ a < 512 := by decide +kernel
theorem bit_add_at {m a : Nat} (hm : m < 512) (ha : a < 9) (h : m.testBit a = false) (y : Nat) : (m + 2 ^ a).testBit y = if y = a then true else m.testBit y := by
  rw [(bit_add m hm a ha h).1, Nat.testBit_or, Nat.testBit_two_pow]
  by_cases e : y = a
  · subst e; simp
  · rw [if_neg e, decide_eq_false (Ne.symm e), Bool.or_false]
/-- the modes so far -/
structure Md (n : Nat) (m : List Nat) : Prop where
  len : m.length = n
  lt : ∀ x, m.getD x 0 < 512
  sym : ∀ x y, MR m x y = MR m y x
  irr : ∀ x, MR m x x = false
  sup : ∀ x y, MR m x y = true → x < n
theorem MR_step {n one a : Nat} {m : List Nat} (h : Md n m) (hn : n ≤ 9) (h1 : one < n) (ha : a < n) (hne : a ≠ one) (h0 : MR m one a = false) :
    MR ((m.set one (m.getD one 0 + 2 ^ a)).set a (m.getD a 0 + 2 ^ one)) = ed (MR m) one a true := by
  funext x y
  have h0' : MR m a one = false := by rw [h.sym]; exact h0
  have hl := h.len
  by_cases e1 : x = a
  · subst e1
    have : MR ((m.set one (m.getD one 0 + 2 ^ x)).set x (m.getD x 0 + 2 ^ one)) x y = (m.getD x 0 + 2 ^ one).testBit y := by
      unfold MR
      rw [getD_set_self (by rw [List.length_set]; omega)]
    rw [this, bit_add_at (h.lt x) (by omega) h0']
    unfold ed MR
    by_cases e : y = one
    · rw [if_pos e, if_pos (.inr ⟨rfl, e⟩)]
    · rw [if_neg e, if_neg (by omega)]
  · by_cases e2 : x = one
    · subst e2
      have : MR ((m.set x (m.getD x 0 + 2 ^ a)).set a (m.getD a 0 + 2 ^ x)) x y = (m.getD x 0 + 2 ^ a).testBit y := by
        unfold MR
        rw [getD_set_ne hne, getD_set_self (by omega)]
      rw [this, bit_add_at (h.lt x) (by omega) h0]
      unfold ed MR
      by_cases e : y = a
      · rw [if_pos e, if_pos (.inl ⟨rfl, e⟩)]
      · rw [if_neg e, if_neg (by omega)]
    · unfold MR ed
      rw [getD_set_ne (Ne.symm e1), getD_set_ne (Ne.symm e2), if_neg (by omega)]
theorem Md.step {n one a : Nat} {m : List Nat} (h : Md n m) (hn : n ≤ 9) (h1 : one < n) (ha : a < n) (hne : a ≠ one) (h0 : MR m one a = false) : Md n ((m.set one (m.getD one 0 + 2 ^ a)).set a (m.getD a 0 + 2 ^ one)) := by
  have he := MR_step h hn h1 ha hne h0
  have h0' : MR m a one = false := by rw [h.sym]; exact h0
  have hl := h.len
  refine ⟨by rw [List.length_set, List.length_set]; exact hl, fun x => ?_, ?_, ?_, fun x y hx => ?_⟩
  · by_cases e1 : x = a
    · subst e1
      rw [getD_set_self (by rw [List.length_set]; omega)]
      exact (bit_add _ (h.lt x) one (by omega) h0').2
    · rw [getD_set_ne (Ne.symm e1)]
      by_cases e2 : x = one
      · subst e2
        rw [getD_set_self (by omega)]
        exact (bit_add _ (h.lt x) a (by omega) h0).2
      · rw [getD_set_ne (Ne.symm e2)]
        exact h.lt x
  · rw [he]; exact ed_sym h.sym
  · rw [he]; exact ed_irr h.irr (Ne.symm hne)
  · rw [he] at hx
    unfold ed at hx
    split at hx
    · omega
    · exact h.sup x y hx
theorem Md.dg {n one a : Nat} {m : List Nat} (h : Md n m) (hn : n ≤ 9) (h1 : one < n) (ha : a < n) (hne : a ≠ one) (h0 : MR m one a = false) (x : Nat) :
    dg n (MR ((m.set one (m.getD one 0 + 2 ^ a)).set a (m.getD a 0 + 2 ^ one)) x) = Mine.dg n (MR m x) + (if x = one ∨ x = a then 1 else 0) := by
  rw [MR_step h hn h1 ha hne h0]
  have := ed_dg (b := true) (Ne.symm hne) h1 ha h.sym x
  rw [h0] at this
  simpa using this
theorem tieIn_md {n one : Nat} {w : List Nat} (hn : n ≤ 9) (h1 : one < n) : ∀ (k : Nat) (av s m s' m' : List Nat), s.length = n → av.Nodup → (∀ q ∈ av, one < q ∧ q < n) → Md n m →
    (∀ q ∈ av, MR m one q = false) → (∀ x y, one < x → one < y → MR m x y = false) → (∀ x, x < n → Mine.dg n (MR m x) + (if x < one then 0 else if x = one then k else s.getD x 0) = w.getD x 0) →
    tieIn one k av (s, m) = some (s', m') → s'.length = n ∧ Md n m' ∧ (∀ x y, one < x → one < y → MR m' x y = false) ∧ (∀ x, x < n → Mine.dg n (MR m' x) + (if x < one + 1 then 0 else s'.getD x 0) = w.getD x 0)
  | 0, av, s, m, s', m', hsl, _, _, hm, _, hxy, hd, he => by
    unfold tieIn at he
    cases he
    refine ⟨hsl, hm, hxy, fun x hx => ?_⟩
    have := hd x hx
    by_cases e : x < one + 1
    · rw [if_pos e]
      by_cases e2 : x < one
      · rw [if_pos e2] at this; exact this
      · rw [if_neg e2, if_pos (by omega)] at this; exact this
    · rw [if_neg e]
      rw [if_neg (by omega), if_neg (by omega)] at this
      exact this
  | k + 1, av, s, m, s', m', hsl, hnd, hav, hm, hq, hxy, hd, he => by
    cases hbest : best s av with
    | none => rw [tieIn_none (Nat.succ_pos k) (.inl hbest)] at he; cases he
    | some a =>
      obtain ⟨ha, hmax⟩ := best_mem hbest
      have har := hav a ha
      by_cases hz : s.getD a 0 = 0
      · rw [tieIn_none (Nat.succ_pos k) (.inr ⟨a, hbest, hz⟩)] at he; cases he
      · rw [tieIn_some (Nat.succ_pos k) hbest hz] at he
        have hne : a ≠ one := by omega
        have h0 := hq a ha
        refine tieIn_md hn h1 k _ _ _ s' m' (by rw [List.length_set]; exact hsl) (hnd.erase a) (fun q hq => hav q (List.mem_of_mem_erase hq)) (hm.step hn h1 har.2 hne h0) ?_ ?_ ?_ he
        · intro q hq'
          have hqa : q ≠ a := by
            rintro rfl
            exact hnd.not_mem_erase hq'
          rw [MR_step hm hn h1 har.2 hne h0]
          have := hav q (List.mem_of_mem_erase hq')
          unfold ed
          rw [if_neg (by omega)]
          exact hq q (List.mem_of_mem_erase hq')
        · intro x y hx hy
          rw [MR_step hm hn h1 har.2 hne h0]
          unfold ed
          rw [if_neg (by omega)]
          exact hxy x y hx hy
        · intro x hx
          rw [hm.dg hn h1 har.2 hne h0 x]
          have := hd x hx
          by_cases e1 : x = one
          · subst e1
            simp at this ⊢
            omega
          · by_cases e2 : x = a
            · subst e2
              rw [getD_set_self (by omega)]
              rw [if_pos (.inr rfl), if_neg (by omega), if_neg (by omega)]
              rw [if_neg (by omega), if_neg (by omega)] at this
              omega
            · rw [getD_set_ne (Ne.symm e2), if_neg (show ¬ (x = one ∨ x = a) by omega), Nat.add_zero, if_neg e1]
              rw [if_neg e1] at this
              exact this
theorem tieOut_md {n : Nat} {w : List Nat} (hn : n ≤ 9) : ∀ (k one : Nat) (s m r : List Nat), k + one = n → s.length = n → Md n m → (∀ x y, one ≤ x → one ≤ y → MR m x y = false) →
    (∀ x, x < n → Mine.dg n (MR m x) + (if x < one then 0 else s.getD x 0) = w.getD x 0) → tieOut n k one (s, m) = some r → Md n r ∧ ∀ x, x < n → Mine.dg n (MR r x) = w.getD x 0
  | 0, one, s, m, r, hk, hsl, hm, hxy, hd, he => by
    unfold tieOut at he
    cases he
    refine ⟨hm, fun x hx => ?_⟩
    have := hd x hx
    rw [if_pos (by omega)] at this
    exact this
  | k + 1, one, s, m, r, hk, hsl, hm, hxy, hd, he => by
    unfold tieOut at he
    dsimp only at he
    cases h : tieIn one (s.getD one 0) (behind n one) (s, m) with
    | none => rw [h] at he; cases he
    | some p =>
      obtain ⟨s', m'⟩ := p
      rw [h] at he
      dsimp only at he
      obtain ⟨a1, a2, a3, a4⟩ := tieIn_md (w := w) hn (by omega) _ _ _ _ _ _ hsl ((behind_pw n one).imp fun h => Nat.ne_of_lt h) (fun q hq => behind_mem hq) hm (fun q hq => hxy _ _ (Nat.le_refl _) (Nat.le_of_lt (behind_mem hq).1)) (fun x y hx hy => hxy x y (by omega) (by omega)) (fun x hx => by
        have := hd x hx
        by_cases e1 : x < one
        · rw [if_pos e1] at this ⊢; exact this
        · rw [if_neg e1] at this ⊢
          by_cases e2 : x = one
          · subst e2; rw [if_pos rfl]; exact this
          · rw [if_neg e2]; exact this) h
      exact tieOut_md hn k (one + 1) s' m' r (by omega) a1 a2 (fun x y hx hy => a3 x y (by omega) (by omega)) a4 he
theorem tied_md {w r : List Nat} (hn : w.length ≤ 9) (h : tied w = some r) : Md w.length r ∧ ∀ x, x < w.length → dg w.length (MR r x) = w.getD x 0 := by
  have h0 : ∀ x, (List.replicate w.length 0).getD x 0 = 0 := fun x => by
    rw [List.getD_eq_getElem?_getD, List.getElem?_replicate]
    split <;> rfl
  have hz : ∀ x y, MR (List.replicate w.length 0) x y = false := fun x y => by unfold MR; rw [h0]; exact Nat.zero_testBit y
  refine tieOut_md hn w.length 0 w _ r rfl rfl ⟨List.length_replicate, fun x => by rw [h0]; decide, fun x y => by rw [hz, hz], fun x => hz x x, fun x y hx => by rw [hz] at hx; cases hx⟩ (fun x y _ _ => hz x y) (fun x _ => ?_) h
  rw [if_neg (Nat.not_lt_zero x), show dg w.length (MR (List.replicate w.length 0) x) = 0 from ?_, Nat.zero_add]
  unfold dg
  exact List.countP_eq_zero.mpr fun y _ => by rw [hz]; exact Bool.false_ne_true
theorem tied_gr {w : List Nat} (hn : w.length ≤ 9) : (tied w).isSome = true ↔ Gr w := by
  constructor
  · intro h
    obtain ⟨r, hr⟩ := Option.isSome_iff_exists.mp h
    obtain ⟨hm, hd⟩ := tied_md hn hr
    exact ⟨MR r, hm.sym, hm.irr, hd⟩
  · exact tied_ex
end Mine
end

section
namespace Mine
theorem perm_map {α β : Type} (f : α → β) : ∀ {w w' : List β}, w.Perm w' → ∀ {L : List α}, w = L.map f → ∃ L' : List α, L'.Perm L ∧ w' = L'.map f := by
  intro w w' h
  induction h with
  | nil => intro L e; exact ⟨L, .refl L, e⟩
  | cons x _ ih =>
    intro L e
    cases L with
    | nil => cases e
    | cons a L =>
      simp only [List.map_cons, List.cons.injEq] at e
      obtain ⟨L', h1, h2⟩ := ih e.2
      exact ⟨a :: L', h1.cons a, by rw [List.map_cons, h2, e.1]⟩
  | swap x y l =>
    intro L e
    match L, e with
    | a :: b :: L, e =>
      simp only [List.map_cons, List.cons.injEq] at e
      exact ⟨b :: a :: L, .swap a b L, by rw [List.map_cons, List.map_cons, e.1, e.2.1, e.2.2]⟩
  | trans _ _ ih1 ih2 =>
    intro L e
    obtain ⟨L1, p1, e1⟩ := ih1 e
    obtain ⟨L2, p2, e2⟩ := ih2 e1
    exact ⟨L2, p2.trans p1, e2⟩
theorem map_range_getD (L : List Nat) : (List.range L.length).map (fun i => L.getD i 0) = L := by
  refine List.ext_getElem (by simp) fun i h1 h2 => ?_
  simp [List.getD_eq_getElem?_getD, h2]
theorem Gr.perm {w w' : List Nat} (hg : Gr w) (hp : w.Perm w') : Gr w' := by
  obtain ⟨R, hs, hi, hd⟩ := hg
  have e : w = (List.range w.length).map fun i => (List.range w.length).countP (R i) := by
    refine List.ext_getElem (by simp) fun i h1 h2 => ?_
    have := hd i h1
    unfold dg at this
    simp [this, List.getD_eq_getElem?_getD, h1]
  obtain ⟨L, hL, e2⟩ := perm_map _ hp e
  have hl : w'.length = L.length := by rw [e2, List.length_map]
  refine ⟨fun x y => R (L.getD x 0) (L.getD y 0), fun x y => hs _ _, fun x => hi _, fun x hx => ?_⟩
  unfold dg
  have h3 : w'.getD x 0 = L.countP (R (L.getD x 0)) := by
    have hx' : x < L.length := by omega
    rw [e2, List.getD_eq_getElem?_getD, List.getElem?_map, List.getD_eq_getElem?_getD, List.getElem?_eq_getElem hx']
    exact (hL.countP_eq _).symm
  rw [h3, hl]
  conv => rhs; rw [← map_range_getD L]
  rw [List.countP_map]
  rw [map_range_getD]
  rfl
theorem ins_perm (a : Nat) : ∀ l : List Nat, (srt.ins a l).Perm (a :: l)
  | [] => .refl _
  | b :: r => by
    unfold srt.ins
    split
    · exact .refl _
    · exact ((ins_perm a r).cons b).trans (.swap a b r)
theorem srt_perm : ∀ l : List Nat, (srt l).Perm l
  | [] => .refl _
  | a :: r => (ins_perm a (srt r)).trans ((srt_perm r).cons a)
theorem ins_pw (a : Nat) : ∀ l : List Nat, l.Pairwise (fun x y => y ≤ x) → (srt.ins a l).Pairwise (fun x y => y ≤ x)
  | [], _ => by unfold srt.ins; exact List.pairwise_singleton _ _
  | b :: r, h => by
    obtain ⟨h1, h2⟩ := List.pairwise_cons.mp h
    unfold srt.ins
    split
    · rename_i hba
      refine List.pairwise_cons.mpr ⟨fun c hc => ?_, h⟩
      rcases List.mem_cons.mp hc with rfl | hc
      · exact hba
      · exact Nat.le_trans (h1 c hc) hba
    · rename_i hba
      refine List.pairwise_cons.mpr ⟨fun c hc => ?_, ins_pw a r h2⟩
      rcases List.mem_cons.mp ((ins_perm a r).mem_iff.mp hc) with rfl | hc
      · omega
      · exact h1 c hc
theorem srt_pw : ∀ l : List Nat, (srt l).Pairwise (fun x y => y ≤ x)
  | [] => .nil
  | a :: r => ins_pw a _ (srt_pw r)
theorem sorted_eq : ∀ {a b : List Int}, a.Perm b → a.Pairwise (fun x y => y ≤ x) → b.Pairwise (fun x y => y ≤ x) → a = b
  | [], b, h, _, _ => (List.nil_perm.mp h).symm
  | x :: a, [], h, _, _ => absurd h.length_eq (by simp)
  | x :: a, y :: b, h, ha, hb => by
    obtain ⟨a1, a2⟩ := List.pairwise_cons.mp ha
    obtain ⟨b1, b2⟩ := List.pairwise_cons.mp hb
    have e : x = y := by
      have hx : x ∈ y :: b := h.mem_iff.mp (.head _)
      have hy : y ∈ x :: a := h.mem_iff.mpr (.head _)
      rcases List.mem_cons.mp hx with h1 | h1
      · exact h1
      rcases List.mem_cons.mp hy with h2 | h2
      · exact h2.symm
      have := a1 y h2
      have := b1 x h1
      omega
    subst e
    rw [sorted_eq (List.Perm.cons_inv h) a2 b2]
/-- a falling list's check -/
theorem chk_all : ∀ l : List Nat, l.length ≤ 5 → l.Pairwise (fun x y => y ≤ x) → (∀ x ∈ l, x < l.length + 4) → chk l = true
  | [], _, _, _ => chk0
  | [a], _, _, h => chk1 a (h a (.head _))
  | [a, b], _, hp, h => chk2 a (h a (.head _)) b (by simp at hp; omega)
  | [a, b, c], _, hp, h => chk3 a (h a (.head _)) b (by simp at hp; omega) c (by simp at hp; omega)
  | [a, b, c, d], _, hp, h => chk4 a (h a (.head _)) b (by simp at hp; omega) c (by simp at hp; omega) d (by simp at hp; omega)
  | [a, b, c, d, e], _, hp, h => chk5 a (h a (.head _)) b (by simp at hp; omega) c (by simp at hp; omega) d (by simp at hp; omega) e (by simp at hp; omega)
  | _ :: _ :: _ :: _ :: _ :: _ :: _, hl, _, _ => by simp only [List.length_cons] at hl; omega
theorem tied_eg {l : List Nat} (hl : l.length ≤ 5) (hs : ∀ x ∈ l, x < l.length + 4) : (tied (l ++ [2, 3, 3, 2])).isSome = eg (srt (l ++ [2, 3, 3, 2])) := by
  have hp := srt_perm l
  have h1 := chk_all (srt l) (by rw [hp.length_eq]; exact hl) (srt_pw l) fun x hx => by rw [hp.length_eq]; exact hs x (hp.mem_iff.mp hx)
  unfold chk at h1
  have hp2 : (srt l ++ [2, 3, 3, 2]).Perm (l ++ [2, 3, 3, 2]) := hp.append_right _
  have e1 : srt (srt l ++ [2, 3, 3, 2]) = srt (l ++ [2, 3, 3, 2]) := by
    have h2 : ((srt (srt l ++ [2, 3, 3, 2])).map Int.ofNat) = ((srt (l ++ [2, 3, 3, 2])).map Int.ofNat) := by
      refine sorted_eq ((((srt_perm _).trans hp2).trans (srt_perm _).symm).map _) ?_ ?_
      · exact (List.pairwise_map.mpr ((srt_pw _).imp fun h => Int.ofNat_le.mpr h))
      · exact (List.pairwise_map.mpr ((srt_pw _).imp fun h => Int.ofNat_le.mpr h))
    exact (List.map_inj_right (fun _ _ h => Int.ofNat.inj h)).mp h2
  have e2 : (tied (srt l ++ [2, 3, 3, 2])).isSome = (tied (l ++ [2, 3, 3, 2])).isSome := by
    have l1 : (srt l ++ [2, 3, 3, 2]).length ≤ 9 := by simp [hp.length_eq]; omega
    have l2 : (l ++ [2, 3, 3, 2]).length ≤ 9 := by simp; omega
    rw [Bool.eq_iff_iff, tied_gr l1, tied_gr l2]
    exact ⟨fun h => h.perm hp2, fun h => h.perm hp2.symm⟩
  rw [e1, e2] at h1
  exact eq_of_beq h1
end Mine
end

section
namespace Mine
theorem sum_ofNat : ∀ l : List Nat, (l.map Int.ofNat).sum = ((l.sum : Nat) : Int)
  | [] => rfl
  | a :: r => by
    rw [List.map_cons, List.sum_cons, List.sum_cons, sum_ofNat r]
    show (a : Int) + _ = _
    omega
theorem perm_sum {a b : List Nat} (h : a.Perm b) : a.sum = b.sum := by
  induction h with
  | nil => rfl
  | cons x _ ih => rw [List.sum_cons, List.sum_cons, ih]
  | swap x y l => simp only [List.sum_cons]; omega
  | trans _ _ i1 i2 => exact i1.trans i2
theorem eg_int (g : List Nat) (j : Nat) : egI (1 + (j : Int) * 1) (g.map Int.ofNat) ↔ egN g (j + 1) = true := by
  have e0 : (1 + (j : Int) * 1).toNat = j + 1 := by omega
  have e1 : (1 + (j : Int) * 1) = ((j + 1 : Nat) : Int) := by omega
  have e2 : (((g.drop (j + 1)).map Int.ofNat).map fun k' : Int => if k' < ((j + 1 : Nat) : Int) then k' else ((j + 1 : Nat) : Int)) = (((g.drop (j + 1)).map (min (j + 1))).map Int.ofNat) := by
    rw [List.map_map, List.map_map]
    refine List.map_congr_left fun x _ => ?_
    show (if (x : Int) < ((j + 1 : Nat) : Int) then (x : Int) else ((j + 1 : Nat) : Int)) = ((min (j + 1) x : Nat) : Int)
    split <;> omega
  unfold egI egN
  rw [e0, decide_eq_true_iff, ← List.map_take, ← List.map_drop, e1, e2, sum_ofNat, sum_ofNat, Nat.add_sub_cancel]
  have e3 : ((j + 1 : Nat) : Int) * (((j + 1 : Nat) : Int) - 1) = (((j + 1) * j : Nat) : Int) := by
    rw [show ((j + 1 : Nat) : Int) - 1 = (j : Int) by omega, Int.natCast_mul]
  rw [e3]
  omega
theorem law_way {l : List Nat} (hl : l.length ≤ 5) (hs : ∀ x ∈ l, x < l.length + 4) {fs : List Int} (hp : fs.Perm ((l ++ [2, 3, 3, 2]).map Int.ofNat)) (hso : fs.Pairwise (fun x y => y ≤ x)) :
    (((l ++ [2, 3, 3, 2]).map Int.ofNat).sum.fmod 2 = 0 ∧ ∀ j : Nat, j < (l ++ [2, 3, 3, 2]).length → egI (1 + (j : Int) * 1) fs) ↔ (tied (l ++ [2, 3, 3, 2])).isSome = true := by
  have hq := srt_perm (l ++ [2, 3, 3, 2])
  have e : fs = (srt (l ++ [2, 3, 3, 2])).map Int.ofNat := sorted_eq (hp.trans (hq.symm.map _)) hso (List.pairwise_map.mpr ((srt_pw _).imp fun h => Int.ofNat_le.mpr h))
  rw [tied_eg hl hs, e, sum_ofNat, ← perm_sum hq, ← hq.length_eq]
  unfold eg
  rw [Bool.and_eq_true, decide_eq_true_iff, List.all_eq_true]
  refine and_congr ?_ ?_
  · rw [Int.fmod_eq_emod_of_nonneg _ (by decide)]
    omega
  · simp only [List.mem_range, eg_int]
end Mine
end

section
open PySem PySem.W PySem.Spec PySem.Calls PyProof.Rows
set_option maxRecDepth 100000
namespace Mine
/-- where an element's turn ends; the ledger stays -/
def KEnd (h₀ : Heap) (L : Addr) (m : Str → Option Value) (s : Shared) (led : List (Addr × Obj)) (Post : Value → Prop) (y : Value) (s₂ : Shared) : Prop :=
  ∃ h tk led', s₂ = { s with heap := h, toks := tk } ∧ Fr h₀ L h m ∧ News h₀ L h led' ∧ (∀ p ∈ led, p ∈ led') ∧ Post y
theorem KEnd.intro {h₀ : Heap} {L : Addr} {m : Str → Option Value} {s : Shared} {led led' : List (Addr × Obj)} {Post : Value → Prop} {y : Value} {h : Heap} {tk : Nat} (F : Fr h₀ L h m) (N : News h₀ L h led') (sub : ∀ p ∈ led, p ∈ led') (hp : Post y) :
    KEnd h₀ L m s led Post y { s with heap := h, toks := tk } := ⟨h, tk, led', rfl, F, N, sub, hp⟩
/-- where an element's test ends -/
def KTst (prog : Program) (w : World) (A : Around) (E : Value → Shared → Prop) (elt : PySem.Expr) (env : Env) (h₀ : Heap) (L : Addr) (m : Str → Option Value) (s : Shared) (led : List (Addr × Obj)) (Yes : Value → Prop) (No : Prop) (ok : Bool) (s₂ : Shared) : Prop :=
  if ok = true then wpAny (model prog w) A (eval elt env) (KEnd h₀ L m s led Yes) E s₂ else KEnd h₀ L m s led (fun _ => No) Value.none s₂
section
variable {prog : Program} {w : World} {A : Around} {E : Value → Shared → Prop} {h₀ : Heap} {L : Addr} {m : Str → Option Value} {env : Env} {ct elt : PySem.Expr} {x : Str} {scope : Scope} {cl : List (Str × Addr)} {s : Shared} {S : List (Addr × Obj) → Prop} {P : Nat → Value → Prop} {Fin : List Value → List (Addr × Obj) → Prop} {news : List (Addr × Obj)}
theorem KTst.yes {led : List (Addr × Obj)} {Yes : Value → Prop} {No : Prop} {ok : Bool} {s₂ : Shared} (e : ok = true) (h : wpAny (model prog w) A (eval elt env) (KEnd h₀ L m s led Yes) E s₂) : KTst prog w A E elt env h₀ L m s led Yes No ok s₂ := by
  unfold KTst; rw [if_pos e]; exact h
theorem KTst.no {led led' : List (Addr × Obj)} {Yes : Value → Prop} {No : Prop} {ok : Bool} {h : Heap} {tk : Nat} (e : ok = false) (F : Fr h₀ L h m) (N : News h₀ L h led') (sub : ∀ p ∈ led, p ∈ led') (hp : No) :
    KTst prog w A E elt env h₀ L m s led Yes No ok { s with heap := h, toks := tk } := by
  unfold KTst; rw [if_neg (by rw [e]; exact Bool.false_ne_true)]; exact KEnd.intro F N sub hp
/-- a comprehension whose ledger stays -/
theorem comp_keep {n : Nat} (Inv : Nat → List Value → Prop) (hS : S news) (h0 : Inv 0 [])
    (turn : ∀ i v ys I oI C oC D m₂ h tk (E' : Value → Shared → Prop), i < n → P i v → Inv i ys → LCg.NsObj oC m₂ → m₂ x = some v → Fr h₀ L h m → News h₀ L h ((I, oI) :: (C, oC) :: (D, LCg.lst ys) :: news) →
      wpAny (model prog w) A (eval elt (compEnvC scope cl C env)) (KEnd h₀ L m { s with heap := h, toks := tk } ((I, oI) :: (C, oC) :: (D, LCg.lst ys) :: news) (fun y => Inv (i + 1) (ys ++ [y]))) E' { s with heap := h, toks := tk })
    (fin : ∀ ys, Inv n ys → Fin ys news) : LCg.CompRest prog w A h₀ L m env elt x scope cl s S P Fin n 0 [] news := by
  refine comp_rest (fun i ys nw => nw = news ∧ Inv i ys) ⟨rfl, h0⟩ ?_ fun ys nw hq => by obtain ⟨rfl, hq⟩ := hq; exact fin ys hq
  rintro i v ys nw I oI C oC D m₂ h tk E' hi hv ⟨rfl, hy⟩ hC hx F N off ne
  refine wpAny_mono (turn i v ys I oI C oC D m₂ h tk E' hi hv hy hC hx F N) (fun y s₂ hq => ?_) fun _ _ e => e
  obtain ⟨h', tk', led', rfl, F', N', sub, hp⟩ := hq
  exact ⟨h', tk', nw, rfl, F', fun p hp => N' p (sub p hp), off, hS, rfl, hp⟩
/-- the same with one test -/
theorem comp_keepT {n : Nat} (Inv : Nat → List Value → Prop) (hS : S news) (h0 : Inv 0 [])
    (turn : ∀ i v ys I oI C oC D m₂ h tk (E' : Value → Shared → Prop), i < n → P i v → Inv i ys → LCg.NsObj oC m₂ → m₂ x = some v → Fr h₀ L h m → News h₀ L h ((I, oI) :: (C, oC) :: (D, LCg.lst ys) :: news) →
      wpAny (model prog w) A (isTrue ct (compEnvC scope cl C env) (eval ct (compEnvC scope cl C env))) (KTst prog w A E' elt (compEnvC scope cl C env) h₀ L m { s with heap := h, toks := tk } ((I, oI) :: (C, oC) :: (D, LCg.lst ys) :: news) (fun y => Inv (i + 1) (ys ++ [y])) (Inv (i + 1) ys)) E' { s with heap := h, toks := tk })
    (fin : ∀ ys, Inv n ys → Fin ys news) : LCt.CompRestT prog w A h₀ L m env ct elt x scope cl s S P Fin n 0 [] news := by
  have key : ∀ (j i : Nat) (ys : List Value), i + j = n → Inv i ys → LCt.CompRestT prog w A h₀ L m env ct elt x scope cl s S P Fin j i ys news := by
    intro j
    induction j with
    | zero =>
      intro i ys hi hy
      have e : i = n := by omega
      subst e
      exact LCt.CompRestT.zero (fin ys hy)
    | succ j ih =>
      intro i ys hi hy
      refine LCt.CompRestT.succ ?_
      intro v I oI C oC D m₂ h tk E' hv hC hx F N off ne
      refine wpAny_mono (turn i v ys I oI C oC D m₂ h tk E' (by omega) hv hy hC hx F N) (fun ok s₂ hq => ?_) fun _ _ e => e
      unfold KTst at hq
      split at hq
      · rename_i e
        rw [if_pos e]
        refine wpAny_mono hq (fun y s₃ hz => ?_) fun _ _ e => e
        obtain ⟨h', tk', led', rfl, F', N', sub, hp⟩ := hz
        exact ⟨h', tk', news, rfl, F', fun p hp => N' p (sub p hp), off, hS, ih (i + 1) _ (by omega) hp⟩
      · rename_i e
        rw [if_neg e]
        obtain ⟨h', tk', led', rfl, F', N', sub, hp⟩ := hq
        exact ⟨h', tk', news, rfl, F', fun p hp => N' p (sub p hp), off, hS, ih (i + 1) _ (by omega) hp⟩
  exact key n 0 [] (by omega) h0
end
end Mine
end

section
open PySem PySem.W PySem.Spec PySem.Calls PySem.Builtin PySem.Builtin.Str PyProof.Rows
set_option maxRecDepth 100000
namespace Mine
/-- a text from its end -/
def revT (x : PySem.Str) : PySem.Str := ⟨((strSliceIndices none none (-1) x.length).filterMap (x.cps[·]?)).toArray⟩
theorem sliceMade_rev (x : PySem.Str) (t u : Tok) : sliceMade x t none none (some (-1, u)) = .str (revT x) := by
  unfold sliceMade
  rw [if_neg (by simp)]
  rfl
section
variable {prog : Program} {w : World} {A : Around} {E : Value → Shared → Prop} {s : Shared} {value slice : PySem.Expr} {x : PySem.Str} {t u : Tok} {h₀ : Heap} {L : Addr} {m : PySem.Str → Option Value} {news : List (Addr × Obj)} {Q : Value → Shared → Prop}
theorem slice_rev (hF : Fr h₀ L s.heap m) (hN : News h₀ L s.heap news) (hsz : (revT x).length ≤ sizeLine) (h : ∀ h' t' k, Fr h₀ L h' m → News h₀ L h' news → Q (.str (revT x) t') { s with heap := h', toks := k })
    (hs : subscripted slice false (.str x t) (.ref s.heap.objs.size) = operate [.ref s.heap.objs.size, .str x t] (getItem (.str x t) (.ref s.heap.objs.size)) := by with_unfolding_all rfl)
    (ht : ∀ r, letTemporaryGo value (.str x t) r = pure () := by intro _; with_unfolding_all rfl) :
    wpAny (model prog w) A (subscriptTail value slice (.str x t) (.ref s.heap.objs.size)) Q E { s with heap := s.heap.push { cls := .type "slice", data := .fields #[.none, .none, .int (-1) u] } } :=
  tail_of_ItemOn ⟨"str", _, F.slot_str_getitem.lookup, typeIs_str _ _ _, wpAny_getItem_str_slice (l := none) (u := none) (st := some (-1, u)) ⟨_, Heap.get?_push_size _ rfl, rfl, rfl⟩ rfl
    (by rw [sliceMade_rev]; exact ⟨hsz, h _ _ _ (Fr.pushS hF _) (hN.pushKeep _)⟩)⟩ hs ht
end
/-- what filemode shows, from its end -/
def rowS (f : Nat) : PySem.Str := revT (Txt.join (Str.ofString "") (modeCh f 10))
def ltr (k : Nat) : PySem.Str := (["x", "w", "r", "x", "w", "r", "x", "w", "r"].map Str.ofString).getD k (Str.ofString "")
def rowC (f k : Nat) : PySem.Str := if f.testBit k then ltr k else Str.ofString "-"
def cd (k : Nat) : Nat := [120, 119, 114, 120, 119, 114, 120, 119, 114].getD k 0
/-- the same, sign by sign -/
def rowA (f : Nat) : List Nat := (List.range 10).map fun k => if k < 9 ∧ f.testBit k then cd k else 45
def sc (i : Nat) : Nat := [63, 114, 119, 120, 114, 119, 120, 114, 119, 120].getD i 0
def chB (f i : Nat) : PySem.Str := ⟨#[if i = 0 then 45 else if f.testBit (9 - i) then sc i else 45]⟩
theorem dash_is : Str.ofString "-" = ⟨#[45]⟩ := by decide +kernel
theorem nil_is : Str.ofString "" = ⟨#[]⟩ := by decide +kernel
theorem sgn_is : ∀ i < 10, sgn i = ⟨#[sc i]⟩ := by decide +kernel
theorem chAt_B (f : Nat) (h : f < 512) (i : Nat) (hi : i < 10) : chAt f i = chB f i := by
  rw [chAt_is f h i hi, sgn_is i hi, dash_is]
  unfold chB
  by_cases h0 : i = 0
  · rw [if_pos h0, if_pos h0]
  · rw [if_neg h0, if_neg h0]
    split <;> rfl
theorem rowS_eq0 : ∀ f < 512, (revT (Txt.join ⟨#[]⟩ ((List.range 10).map (chB f)))).cps.toList = rowA f := by decide +kernel
theorem rowS_eq (f : Nat) (h : f < 512) : (rowS f).cps.toList = rowA f := by
  have e : modeCh f 10 = (List.range 10).map (chB f) := List.map_congr_left fun i hi => chAt_B f h i (List.mem_range.mp hi)
  unfold rowS
  rw [e, nil_is]
  exact rowS_eq0 f h
theorem rowS_is {f : Nat} (h : f < 512) : rowS f = ⟨(rowA f).toArray⟩ := by
  rw [← rowS_eq f h]
theorem rowS_len {f : Nat} (h : f < 512) : (rowS f).length = 10 := by
  rw [rowS_is h]
  show (rowA f).toArray.size = 10
  rw [List.size_toArray]
  unfold rowA
  rw [List.length_map, List.length_range]
theorem item_one (l : List Nat) (k : Nat) (x : Nat) (h : l[k]? = some x) : Txt.item ⟨l.toArray⟩ (k : Int) = ⟨#[x]⟩ := by
  have hk : k < l.length := by
    rcases Nat.lt_or_ge k l.length with h' | h'
    · exact h'
    · rw [List.getElem?_eq_none h'] at h; cases h
  have e : Txt.charAt ⟨l.toArray⟩ (k : Int) = some x := by
    unfold Txt.charAt
    show (seqIndex? (k : Int) l.toArray.size).bind _ = _
    have e2 : seqIndex? (k : Int) l.toArray.size = some k := by
      unfold seqIndex?
      simp
      omega
    rw [e2]
    simpa using h
  unfold Txt.item
  rw [e]
  rfl
def rowB (f k : Nat) : PySem.Str := ⟨#[if f.testBit k then cd k else 45]⟩
theorem ltr_is : ∀ k < 9, ltr k = ⟨#[cd k]⟩ := by decide +kernel
theorem rowC_B (f k : Nat) (h : k < 9) : rowC f k = rowB f k := by
  unfold rowC rowB
  rw [ltr_is k h, dash_is]
  split <;> rfl
theorem rowC_ne (f k : Nat) (h : k < 9) : rowC f k = Str.ofString "-" ↔ f.testBit k = false := by
  rw [rowC_B f k h, dash_is]
  unfold rowB
  have : ∀ k < 9, (⟨#[cd k]⟩ : PySem.Str) ≠ ⟨#[45]⟩ := by decide
  cases hb : f.testBit k
  · simp
  · simp only [if_true, Bool.true_eq_false, iff_false]
    exact this k h
theorem rowS_at {f : Nat} (h : f < 512) {k : Nat} (hk : k < 9) : Txt.item (rowS f) (k : Int) = rowC f k := by
  rw [rowS_is h, rowC_B f k hk, item_one (rowA f) k (if f.testBit k then cd k else 45) ?_]
  · rfl
  · unfold rowA
    rw [List.getElem?_map, List.getElem?_range (by omega)]
    simp [hk]
theorem rowA_join : ∀ f < 512, (⟨(rowA f).toArray⟩ : PySem.Str) = Txt.join ⟨#[]⟩ ((List.range 9).map (rowB f)) ++ (⟨#[45]⟩ : PySem.Str) := by decide +kernel
theorem rowS_join {f : Nat} (h : f < 512) : rowS f = Txt.join (Str.ofString "") ((List.range 9).map (rowC f)) ++ Str.ofString "-" := by
  have e : (List.range 9).map (rowC f) = (List.range 9).map (rowB f) := List.map_congr_left fun i hi => rowC_B f i (List.mem_range.mp hi)
  rw [e, nil_is, dash_is, rowS_is h]
  exact rowA_join f h
end Mine
end

section
open PySem PySem.W PySem.Spec PySem.Calls PyProof.Rows
set_option maxRecDepth 100000
set_option maxHeartbeats 8000000
namespace Mine
theorem begin_L1L : True := by
  w_top off
  exact True.intro
local macro_rules | `(tactic| walk_at "exec For Name Name cons nil") => `(tactic| (k_dflt (refine Mine.for_held ?_ (by intro _; rfl))))
local macro_rules | `(tactic| walk_at "exec For Name Call cons nil") => `(tactic| (k_dflt (refine Mine.for_held ?_ (by intro _; rfl))))
local macro_rules | `(tactic| walk_at "call ref") => `(tactic| (refine Mine.Held.mk ?_))
local macro_rules | `(tactic| walk_at "compareOp Eq ref ref") => `(tactic| (refine Mine.Held.mk ?_))
local macro_rules | `(tactic| walk_at "compareOp NotEq ref ref") => `(tactic| (refine Mine.Held.mk ?_))
local macro_rules | `(tactic| walk_at "call builtin:list.extend") => `(tactic| (refine Mine.Held.mk ?_))

local macro_rules | `(tactic| walk_at "eval ListComp") => `(tactic| ((first | (with_reducible show wpAny _ _ (eval (PySem.Expr.ListComp (PySem.Expr.Subscript _ _ _) _ _ _) _) _ _ _) | (with_reducible show wpAny _ _ (eval (PySem.Expr.ListComp (PySem.Expr.Name _ _) _ _ _) _) _ _ _) | (with_reducible show wpAny _ _ (eval (PySem.Expr.ListComp (PySem.Expr.IfExp _ _ _ _) _ _ _) _) _ _ _)); (refine Mine.Held.mk ?_)))

local macro_rules | `(tactic| walk_at "exec Assign cons ListComp") => `(tactic| (refine Mine.Held.mk ?_))
local macro_rules | `(tactic| walk_at "call builtin:len") => `(tactic| (refine Mine.Held.mk ?_))

local macro_rules | `(tactic| walk_at "CompSrc") => `(tactic| ((first | (with_reducible show LCg.CompSrc _ _ _ _ _ _ _ (PySem.Expr.Subscript _ _ _) _ _ _ _ _ _) | (with_reducible show LCg.CompSrc _ _ _ _ _ _ _ (PySem.Expr.IfExp _ _ _ _) _ _ _ _ _ _)); (refine Mine.Held.mk ?_)))
local macro_rules | `(tactic| walk_at "call builtin:str.join") => `(tactic| (refine Mine.Held.mk ?_))
local macro_rules | `(tactic| walk_at "eval Call Attribute") => `(tactic| ((with_reducible show wpAny _ _ (eval (PySem.Expr.Call (PySem.Expr.Attribute _ _ _) [PySem.Expr.ListComp _ _ _ _] [] _) _) _ _ _); (refine MethodCall_ ?_)))

local macro_rules | `(tactic| walk_at "CompSrcT") => `(tactic| (refine Mine.Held.mk ?_))

local macro_rules | `(tactic| walk_at "subscriptTail Name Name ref int") => `(tactic| (refine Mine.Held.mk ?_))
local macro_rules | `(tactic| walk_at "subscriptTail Name Name str int") => `(tactic| (refine Mine.Held.mk ?_))
local macro_rules | `(tactic| walk_at "subscriptTail Subscript Name str int") => `(tactic| (refine Mine.Held.mk ?_))
local macro_rules | `(tactic| walk_at "subscriptTail Constant Name str int") => `(tactic| (refine Mine.Held.mk ?_))

theorem filemode_cI (w : World) (led : List (Addr × Obj)) (f : Nat) (t0 : Tok) (hf : f < 512) {k : Int} (hk : k = ((32768 + f : Nat) : Int)) :
    Spec w 104 2 led [.int k t0] (fun v led' => ∃ t, v = .str (Txt.join (Str.ofString "") (modeCh f 10)) t ∧ led' = led) := by
  subst hk
  exact filemode_c w led f t0 hf
/-- the list of the names -/
def nmV (t : Tok) : List Value := [.str (Str.ofString "OPTIMIZED") (t), .str (Str.ofString "NEWLOCALS") (t + 1), .str (Str.ofString "VARARGS") (t + 1 + 1), .str (Str.ofString "VARKEYWORDS") (t + 1 + 1 + 1), .str (Str.ofString "NESTED") (t + 1 + 1 + 1 + 1), .str (Str.ofString "GENERATOR") (t + 1 + 1 + 1 + 1 + 1), .str (Str.ofString "NOFREE") (t + 1 + 1 + 1 + 1 + 1 + 1), .str (Str.ofString "COROUTINE") (t + 1 + 1 + 1 + 1 + 1 + 1 + 1), .str (Str.ofString "ITERABLE_COROUTINE") (t + 1 + 1 + 1 + 1 + 1 + 1 + 1 + 1)]

theorem len_cellM {prog : Program} {w : World} {A : Around} {E : Value → Shared → Prop} {s : Shared} {l : Addr} {vs : List Value} {n : Nat} {M : Int} {Q : Value → Shared → Prop} (ho : s.heap.get? l = some (listOf vs.toArray n)) (hM : (vs.length : Int) = M) (hfit : M < 2 ^ 63)
    (h : Q (.int M (s.toks + 1)) { s with toks := s.toks + 1 + 1 }) : wpAny (model prog w) A (call (.builtin "len") [.ref l]) Q E s := by
  subst hM
  exact len_cell ho hfit h

/-- the files with which one is tied -/
def tls (mn : List Nat) (i j : Nat) : List Nat := (List.range j).filter fun o => (mn.getD o 0).testBit i
theorem tls_succ (mn : List Nat) (i j : Nat) : tls mn i (j + 1) = tls mn i j ++ if (mn.getD j 0).testBit i then [j] else [] := by
  unfold tls
  rw [List.range_succ, List.filter_append]
  simp only [List.filter_cons, List.filter_nil]
theorem item_row {prog : Program} {w : World} {A : Around} {E : Value → Shared → Prop} {s : Shared} {value slice : PySem.Expr} {f i : Nat} {t u : Tok} {Q : Value → Shared → Prop} (hf : f < 512) (hi : i < 9) (h : Q (.str (rowC f i) s.toks) { s with toks := s.toks + 1 })
    (hs : subscripted slice false (.str (rowS f) t) (.int (i : Int) u) = operate [.str (rowS f) t, .int (i : Int) u] (getItem (.str (rowS f) t) (.int (i : Int) u)) := by with_unfolding_all rfl)
    (ht : ∀ r, letTemporaryGo value (.str (rowS f) t) r = pure () := by intro _; with_unfolding_all rfl) :
    wpAny (model prog w) A (subscriptTail value slice (.str (rowS f) t) (.int (i : Int) u)) Q E s := by
  refine KXi.item (n := 10) (rowS_len hf) (by omega) (by omega) (by decide) (fun _ => ?_) hs ht
  rw [rowS_at hf hi]
  exact h
theorem rowC_bne {f k : Nat} (h : k < 9) : (rowC f k != Str.ofString "-") = f.testBit k := by
  have := rowC_ne f k h
  cases hb : f.testBit k
  · rw [this.mpr hb]
    simp
  · have h2 : rowC f k ≠ Str.ofString "-" := fun e => by rw [this.mp e] at hb; cases hb
    simpa using h2
theorem tls_len {mn : List Nat} {n i : Nat} (h : Md n mn) : ∀ k, (tls mn i k).length = dg k (MR mn i) := by
  intro k
  unfold tls dg
  rw [← List.countP_eq_length_filter]
  exact List.countP_congr fun o _ => by
    show MR mn o i = true ↔ MR mn i o = true
    rw [h.sym]
theorem tls_mem {mn : List Nat} {i k o : Nat} : o ∈ tls mn i k ↔ o < k ∧ MR mn o i = true := by
  unfold tls
  rw [List.mem_filter, List.mem_range]
  rfl
theorem in_tls {mn : List Nat} {n i : Nat} (h : Md n mn) (j : Nat) : (((tls mn i n).map Int.ofNat).any fun x => x == (j : Int)) = (mn.getD i 0).testBit j := by
  rw [Bool.eq_iff_iff, List.any_eq_true]
  constructor
  · rintro ⟨x, hx, he⟩
    obtain ⟨o, ho, rfl⟩ := List.mem_map.mp hx
    have e : o = j := Int.ofNat.inj (eq_of_beq he)
    subst e
    have := (tls_mem.mp ho).2
    rw [h.sym] at this
    exact this
  · intro hb
    have hb' : MR mn j i = true := by rw [h.sym]; exact hb
    exact ⟨(j : Int), List.mem_map.mpr ⟨j, tls_mem.mpr ⟨h.sup _ _ hb', hb'⟩, rfl⟩, beq_self_eq_true _⟩
theorem item_ltr {prog : Program} {w : World} {A : Around} {E : Value → Shared → Prop} {s : Shared} {value slice : PySem.Expr} {i : Nat} {t u : Tok} {Q : Value → Shared → Prop} (hi : i < 9) (h : Q (.str (ltr i) s.toks) { s with toks := s.toks + 1 })
    (hs : subscripted slice false (.str (Str.ofString "xwrxwrxwr") t) (.int (i : Int) u) = operate [.str (Str.ofString "xwrxwrxwr") t, .int (i : Int) u] (getItem (.str (Str.ofString "xwrxwrxwr") t) (.int (i : Int) u)) := by with_unfolding_all rfl)
    (ht : ∀ r, letTemporaryGo value (.str (Str.ofString "xwrxwrxwr") t) r = pure () := by intro _; with_unfolding_all rfl) :
    wpAny (model prog w) A (subscriptTail value slice (.str (Str.ofString "xwrxwrxwr") t) (.int (i : Int) u)) Q E s := by
  refine KXi.item (n := 9) (by decide +kernel) (by omega) (by omega) (by decide) (fun _ => ?_) hs ht
  have e : ∀ i < 9, Txt.item (Str.ofString "xwrxwrxwr") ((i : Nat) : Int) = ltr i := by decide +kernel
  rw [e i hi]
  exact h
theorem item_xwr : ∀ i : Nat, i < 9 → Txt.item (Str.ofString "xwrxwrxwr") ((i : Nat) : Int) = ltr i := by decide +kernel
theorem rowC_sum (f : Nat) : (((List.range 9).map (rowC f)).map (·.length)).sum + ((List.range 9).map (rowC f)).length * 64 ≤ 16777216 := by
  have e : ((List.range 9).map (rowC f)).map (·.length) = (List.range 9).map fun _ => 1 := by
    rw [List.map_map]
    refine List.map_congr_left fun k hk => ?_
    show (rowC f k).length = 1
    rw [rowC_B f k (List.mem_range.mp hk)]
    rfl
  rw [e, List.length_map]
  decide
theorem add_row {prog : Program} {w : World} {A : Around} {E : Value → Shared → Prop} {s : Shared} {f : Nat} {t u : Tok} {Q : Value → Shared → Prop} (hf : f < 512) (h : ∀ t' tk, Q (.str (rowS f) t') { s with toks := tk }) :
    wpAny (model prog w) A (binaryOp .Add (.str (Txt.join (Str.ofString "") ((List.range 9).map (rowC f))) t) (.str (Str.ofString "-") u)) Q E s := by
  have hj := rowS_join hf
  have hl := rowS_len hf
  rw [hj] at hl
  refine PySem.SB.add (fun t' k => ?_) ?_
  · rw [← hj]; exact h t' k
  · have e : (Txt.join (Str.ofString "") ((List.range 9).map (rowC f)) ++ Str.ofString "-").length = (Txt.join (Str.ofString "") ((List.range 9).map (rowC f))).length + (Str.ofString "-").length := by
      show (_ ++ _ : Array _).size = _
      exact Array.size_append
    rw [← e, hl, sizeLine_eq]
    decide
theorem tls_fl {mn : List Nat} {n i : Nat} (h : Md n mn) (hn : n ≤ 9) : tls mn i n = fl (mn.getD i 0) 9 := by
  have e1 : ∀ k, n ≤ k → tls mn i k = tls mn i n := by
    intro k hk
    induction k with
    | zero => rw [show n = 0 by omega]
    | succ k ih =>
      rcases Nat.lt_or_ge k n with h1 | h1
      · rw [show k + 1 = n by omega]
      · rw [tls_succ, ih h1, if_neg, List.append_nil]
        intro hb
        have hb' : MR mn k i = true := hb
        have := h.sup _ _ hb'
        omega
  rw [← e1 9 hn]
  unfold tls fl
  refine List.filter_congr fun o _ => ?_
  exact h.sym o i
theorem nmV_at (t : Tok) : ∀ o < 9, ∃ t', (nmV t)[o]? = some (.str (NM.getD o (Str.ofString "")) t')
  | 0, _ => ⟨_, rfl⟩ | 1, _ => ⟨_, rfl⟩ | 2, _ => ⟨_, rfl⟩ | 3, _ => ⟨_, rfl⟩ | 4, _ => ⟨_, rfl⟩ | 5, _ => ⟨_, rfl⟩ | 6, _ => ⟨_, rfl⟩ | 7, _ => ⟨_, rfl⟩ | 8, _ => ⟨_, rfl⟩
theorem nms_len (f : Nat) (h : f < 512) : ((nms (fl f 9)).map (·.length)).sum + (nms (fl f 9)).length * 64 ≤ 16777216 := by
  by_cases h0 : f = 0
  · subst h0
    rw [fl_zero]
    decide
  · have := pfl_len f h
    unfold pfl at this
    rw [if_neg h0] at this
    omega
theorem fl_ne : ∀ f < 512, f ≠ 0 → fl f 9 ≠ [] := by decide +kernel
theorem NM_pos : ∀ o < 9, 0 < (NM.getD o (Str.ofString "")).length := by decide +kernel
theorem join_size (sep : PySem.Str) (l : List PySem.Str) : (Txt.join sep l).length = (l.map (·.length)).sum + (l.length - 1) * sep.length := size_glued sep l
theorem nms_pos {f : Nat} (h : f < 512) (h0 : f ≠ 0) : 0 < (Txt.join (Str.ofString ", ") (nms (fl f 9))).length := by
  rw [join_size]
  cases hl : fl f 9 with
  | nil => exact absurd hl (fl_ne f h h0)
  | cons o r =>
    have ho : o < 9 := by
      have : o ∈ fl f 9 := by rw [hl]; exact .head _
      unfold fl at this
      exact List.mem_range.mp (List.mem_filter.mp this).1
    have := NM_pos o ho
    show 0 < (((NM.getD o (Str.ofString "")) :: nms r).map (·.length)).sum + _
    rw [List.map_cons, List.sum_cons]
    omega
theorem truthy_nms {prog : Program} {w : World} {A : Around} {E : Value → Shared → Prop} {s : Shared} {f : Nat} {t : Tok} {Q : Bool → Shared → Prop} (hf : f < 512)
    (h0 : f = 0 → Q false { s with toks := s.toks + 1 + 1 }) (h1 : f ≠ 0 → Q true { s with toks := s.toks + 1 + 1 }) : wpAny (model prog w) A (truthy (.str (Txt.join (Str.ofString ", ") (nms (fl f 9))) t)) Q E s := by
  have hb := nms_len f hf
  have hs : (Str.ofString ", ").length = 2 := by decide +kernel
  have hz := join_size (Str.ofString ", ") (nms (fl f 9))
  rw [hs] at hz
  refine PySem.P.truthy_str (by omega) ?_
  by_cases e : f = 0
  · subst e
    have e0 : (((Txt.join (Str.ofString ", ") (nms (fl 0 9))).length : Int) != 0) = false := by rw [fl_zero]; decide +kernel
    rw [e0]
    exact h0 rfl
  · have hp := nms_pos hf e
    have : (((Txt.join (Str.ofString ", ") (nms (fl f 9))).length : Int) != 0) = true := by
      simp only [bne_iff_ne, ne_eq]
      omega
    rw [this]
    exact h1 e
theorem pfl_zero : Txt.join (Str.ofString ", ") (pfl 0) = Str.ofString "0x0" := by decide +kernel
theorem pfl_pos {f : Nat} (h : f ≠ 0) : pfl f = nms (fl f 9) := by unfold pfl; rw [if_neg h]
/-- how many noughts ahead -/
def kz (v : Int) : Nat := ((v.fdiv 9).fmod 3).toNat
theorem kz_le (v : Int) : kz v ≤ 2 := by
  have := Int.fmod_lt_of_pos (v.fdiv 9) (show (0 : Int) < 3 by decide)
  unfold kz
  omega
theorem take_flat {α β : Type} (f : α → List β) {l : List α} {i : Nat} {a : α} (h : l[i]? = some a) : (l.take (i + 1)).flatMap f = (l.take i).flatMap f ++ f a := by
  rw [List.take_add_one, h]
  simp

theorem law1 : PySem.Challenge.rw_un0013_01.Holds := hd (by
  k_go0
  rename World => w
  rename Shared => s1
  rename List Int => script
  k_steps
  refine Held.out ?_
  rename Fr _ _ _ _ => F0
  rename News _ _ _ _ => N0
  rename IntsAre _ _ => hns
  rename_i t0 oT oW oR _ _ hT hW hR _ _ X0 Nl _ l0 _ oN dN tk1 _ wn _ hwn _ _ l2 _ _ l3 Dn ns _ l4 _
  obtain ⟨l, hl⟩ : ∃ l, l = List.take 5 script := ⟨_, rfl⟩
  have hl5 : l.length ≤ 5 := by rw [hl, List.length_take]; omega
  rw [← hl] at hns
  obtain ⟨xs, hxs⟩ : ∃ xs, xs = l ++ [2, 3, 3, 2] := ⟨_, rfl⟩
  have hxl : xs.length = l.length + 4 := by rw [hxs, List.length_append]; rfl
  obtain ⟨M, hM⟩ : ∃ M : Int, M = ((xs.length : Nat) : Int) := ⟨_, rfl⟩
  rw [← hxs] at hns
  have hnsl := hns.length
  refine len_cellM (M := M) (N0 _ (.head _)).1 (by omega) (by omega) ?_
  k_steps
  refine Held.out ?_
  rename Fr _ _ _ _ => F1
  rename News _ _ _ _ => N1
  rename_i tk2 _ oM dM' O _ l5 _
  refine for_list (σ := List Value × List Int × Nat) (ax := Dn) (vs := ns) (e := 0)
    (fun c => (O, listOf c.1.toArray c.2.2) :: (Dn, listOf ns.toArray 0) :: (Nl, listOf (nmV t0).toArray 0) :: (s1.heap.objs.size + 1 + 1 + 1 + 1 + 1, oT) :: (s1.heap.objs.size + 1 + 1 + 1 + 1, oW) :: (s1.heap.objs.size + 1 + 1 + 1, oR) :: (s1.heap.objs.size + 1 + 1, oM) :: (s1.heap.objs.size + 1, oN) :: [])
    (fun c => [(Str.ofString "octets", .ref O), (Str.ofString "numbers", .ref Dn)])
    (fun i c => IntsAre c.1 c.2.1 ∧ c.2.1 = (xs.take i).flatMap (oct kz M))
    (fun c => IntsAre c.1 c.2.1 ∧ c.2.1 = xs.flatMap (oct kz M)) ([], [], 0) rfl (fun i c _ => .tail _ (.head _)) F1 ?n0 ⟨.nil, rfl⟩ (by kst_all) ?turn ?els ?done rfl rfl (by with_unfolding_all passes_own)
  case n0 =>
    intro p hp
    refine N1 p ?_
    simp only [List.mem_cons, List.not_mem_nil, or_false] at hp
    rcases hp with rfl | rfl | rfl | rfl | rfl | rfl | rfl | rfl
    · exact .head _
    · exact .tail _ (.head _)
    · exact .tail _ (.tail _ (.tail _ (.tail _ (.head _))))
    · exact .tail _ (.tail _ (.tail _ (.tail _ (.tail _ (.head _)))))
    · exact .tail _ (.tail _ (.tail _ (.tail _ (.tail _ (.tail _ (.head _))))))
    · exact .tail _ (.tail _ (.tail _ (.tail _ (.tail _ (.tail _ (.tail _ (.head _)))))))
    · exact .tail _ (.tail _ (.tail _ (.tail _ (.tail _ (.tail _ (.tail _ (.tail _ (.head _))))))))
    · exact .tail _ (.tail _ (.tail _ (.tail _ (.tail _ (.tail _ (.tail _ (.tail _ (.tail _ (.head _)))))))))
  case turn =>
    rintro i v ⟨us, zs, e⟩ u h tk I oI hin hv ⟨hus, hzs⟩ hne F2 N2
    dsimp only [fmap] at F2 N2 hus hne hzs ⊢
    obtain ⟨x, tv, rfl, hx⟩ := hns.at i v hv
    k_steps
    refine Held.out ?_
    rename Fr _ _ _ _ => F3
    rename News _ _ _ _ => N3
    rename IntsAre _ _ => hI3
    have hul := hus.length
    have h3l := hI3.length
    have hzl : zs.length ≤ 27 := by
      have := flat_len (m := M) kz_le (xs.take i)
      rw [← hzs, List.length_take] at this
      omega
    have ho : (List.replicate ((x.fdiv 9).fmod 3).toNat [(64 : Int)]).flatten ++ [x.fmod M] = oct kz M x := rfl
    rw [ho] at hI3 h3l
    rw [oct_len] at h3l
    have hkx := kz_le x
    have hne' : ∀ q : Addr × Obj, q ∈ (O, listOf us.toArray e) :: (Dn, listOf ns.toArray 0) :: (Nl, listOf (nmV t0).toArray 0) :: (s1.heap.objs.size + 1 + 1 + 1 + 1 + 1, oT) :: (s1.heap.objs.size + 1 + 1 + 1 + 1, oW) :: (s1.heap.objs.size + 1 + 1 + 1, oR) :: (s1.heap.objs.size + 1 + 1, oM) :: (s1.heap.objs.size + 1, oN) :: [] → q.1 ≠ I := hne
    rename_i q1 _ p1 q2 _ _ _ _ _ _ _ p2 q3 _ p3 q4 ws3 _ p4
    refine kl_extend F3 N3 (.head _) rfl (by show ws3.length ≠ 0; omega) (.tail ?a1 (.tail ?a2 (.tail ?a3 (.tail ?a4 (.head ?a5))))) ?b1 (by show us.length ≤ sizeLine; rw [sizeLine_eq]; omega) (by rw [List.size_toArray, List.size_toArray, sizeLine_eq]; omega) fun h4 F4 N4 => ?_
    case b1 =>
      intro h
      rw [Bool.and_eq_true] at h
      have h2 : decide (us.toArray.size + ws3.toArray.size > sizeLine) = true := h.2
      have h3 := of_decide_eq_true h2
      rw [List.size_toArray, List.size_toArray, sizeLine_eq] at h3
      omega
    case a1 => exact Nat.ne_of_gt p4.2.2.2.1
    case a2 => exact Nat.ne_of_gt p3.2.2.1
    case a3 => exact Nat.ne_of_gt p2.2.1
    case a4 => exact Nat.ne_of_gt (p1 _ (.head _))
    case a5 =>
      intro p hp
      replace hp : p ∈ (Dn, listOf ns.toArray 0) :: (Nl, listOf (nmV t0).toArray 0) :: (s1.heap.objs.size + 1 + 1 + 1 + 1 + 1, oT) :: (s1.heap.objs.size + 1 + 1 + 1 + 1, oW) :: (s1.heap.objs.size + 1 + 1 + 1, oR) :: (s1.heap.objs.size + 1 + 1, oM) :: (s1.heap.objs.size + 1, oN) :: [(I, oI)] := hp
      simp only [List.mem_cons, List.not_mem_nil, or_false] at hp
      rcases hp with rfl | rfl | rfl | rfl | rfl | rfl | rfl | rfl
      · exact Nat.ne_of_lt l5.1
      · exact Nat.ne_of_lt l5.2.2.2.1
      · exact Nat.ne_of_lt l5.2.2.2.2.1
      · exact Nat.ne_of_lt l5.2.2.2.2.2.1
      · exact Nat.ne_of_lt l5.2.2.2.2.2.2.1
      · exact Nat.ne_of_lt l5.2.2.2.2.2.2.2.1
      · exact Nat.ne_of_lt l5.2.2.2.2.2.2.2.2
      · exact (hne _ (.head _)).symm
    k_steps
    dsimp only [FTEnd]
    refine FEnd.intro (_, zs ++ oct kz M x, e + 1) F4 N4 ⟨hus.append hI3, ?_⟩ (by simp) (fun p hp => ?_) (fun p hp => ?_) (by kst_all)
    · rw [take_flat _ hx, ← hzs]
    · simp only [List.mem_cons, List.mem_append] at hp ⊢
      rcases hp with hp | hp | hp | hp | hp | hp | hp | hp | hp <;> simp [hp]
    · rcases List.mem_cons.mp hp with rfl | hp
      · exact (hne _ (.head _)).symm.symm
      · exact hne p (.tail _ hp)
  case els =>
    rintro ⟨us, zs, e⟩ u h tk ⟨hus, hzs⟩ F5 N5
    refine els_nil ⟨hus, ?_⟩ F5 N5 (by kst_all)
    rw [hnsl, List.take_length] at hzs
    exact hzs
  case done =>
    rintro ⟨us, zs, e⟩ u h tk ⟨hus, hzs⟩ F5 N5
    dsimp only [fmap] at F5 N5 hus hzs ⊢
    k_steps
    refine Held.out ?_
    rename Fr _ _ _ _ => F6
    rename News _ _ _ _ => N6
    have hzl := flat_len (m := M) kz_le xs
    rw [← hzs] at hzl
    obtain ⟨hg, hv⟩ := groups_of (m := M) (by omega) (by omega) kz_le xs 0 (os := zs) hzs (Nat.zero_le _)
    refine read_c w _ O us zs e _ (.head _) hus (by omega) hg _ _ _ _ _ _ _ _ _ _ _ _ _ _ _ _ _ _ (by assumption) F6 (by assumption) N6 (by assumption) rfl (by ktr_room) (by ktr_units) ?_
    rintro v led' h' tk' F7 N7 ⟨Wa, wv, we, rfl, rfl, hWlt, hw⟩
    rw [hv] at hw
    k_steps
    refine Held.out ?_
    rename Fr _ _ _ _ => F8
    rename News _ _ _ _ => N8
    rename List Value => ys
    rename IntsAre ys _ => hys
    refine cmp_ofNotEq (ke_ne_ints (PySem.IsL.isList (n := we) (N8 _ (.tail _ (.head _))).1) (PySem.IsL.isList (n := ys.length) (N8 _ (.head _)).1) hw hys (by ktr_units) ?_)
    rw [decide_eq_true rfl]
    k_steps
    refine Held.out ?_
    rename Fr _ _ _ _ => F9
    rename News _ _ _ _ => N9
    obtain ⟨ws, hws⟩ : ∃ ws : List Nat, ws = xs.map fun v => (v.fmod M).toNat := ⟨_, rfl⟩
    have hwsI : xs.map (fun v => v.fmod M) = ws.map Int.ofNat := by
      rw [hws, List.map_map]
      refine List.map_congr_left fun v _ => ?_
      have := Int.fmod_nonneg_of_pos v (b := M) (by omega)
      show _ = (((v.fmod M).toNat : Nat) : Int)
      omega
    have hwl : ws.length = xs.length := by rw [hws, List.length_map]
    have hsmall : ∀ x ∈ ws, x < 10 := by
      intro x hx
      rw [hws] at hx
      obtain ⟨v, _, rfl⟩ := List.mem_map.mp hx
      have := Int.fmod_lt_of_pos v (b := M) (by omega)
      omega
    have hwN := hw
    rw [hwsI] at hwN
    refine Spec.use (tied_c w [(O, listOf us.toArray e), (Dn, listOf ns.toArray 0), (Nl, listOf (nmV t0).toArray 0), (s1.heap.objs.size + 1 + 1 + 1 + 1 + 1, oT), (s1.heap.objs.size + 1 + 1 + 1 + 1, oW), (s1.heap.objs.size + 1 + 1 + 1, oR), (s1.heap.objs.size + 1 + 1, oM), (s1.heap.objs.size + 1, oN)] Wa wv ws we hwN (fun p hp => Nat.ne_of_lt (hWlt p hp)) (by omega) hsmall) (by assumption) F9 (by assumption) ?n9 (by assumption) rfl (by ktr_room) (by ktr_units) ?_
    case n9 =>
      intro p hp
      exact N9 p (.tail _ hp)
    rintro v led' h' tk' F10 N10 ⟨Ma, mv, mn, me, rfl, rfl, hMlt, hmv, hmn⟩
    k_steps
    refine Held.out ?_
    rename Fr _ _ _ _ => F11
    rename News _ _ _ _ => N11
    have hWlt2 : ∀ p ∈ [(Ma, listOf mv.toArray me), (O, listOf us.toArray e), (Dn, listOf ns.toArray 0), (Nl, listOf (nmV t0).toArray 0), (s1.heap.objs.size + 1 + 1 + 1 + 1 + 1, oT), (s1.heap.objs.size + 1 + 1 + 1 + 1, oW), (s1.heap.objs.size + 1 + 1 + 1, oR), (s1.heap.objs.size + 1 + 1, oM), (s1.heap.objs.size + 1, oN)], p.1 ≠ Wa := by
      intro p hp
      rcases List.mem_cons.mp hp with rfl | hp
      · exact (Nat.ne_of_lt (hMlt _ (.head _))).symm
      · exact Nat.ne_of_lt (hWlt p hp)
    refine Spec.use (fits_c w [(Ma, listOf mv.toArray me), (O, listOf us.toArray e), (Dn, listOf ns.toArray 0), (Nl, listOf (nmV t0).toArray 0), (s1.heap.objs.size + 1 + 1 + 1 + 1 + 1, oT), (s1.heap.objs.size + 1 + 1 + 1 + 1, oW), (s1.heap.objs.size + 1 + 1 + 1, oR), (s1.heap.objs.size + 1 + 1, oM), (s1.heap.objs.size + 1, oN)] Wa wv ws we hwN hWlt2 (by omega) hsmall) (by assumption) F11 (by assumption) (news_perm N11 (List.Perm.swap _ _ _)) (by assumption) rfl (by ktr_room) (by ktr_units) ?_
    rintro v led' h' tk' F12 N12 ⟨fs, hfp, hfs, b, rfl, hb, rfl⟩
    have hwse : ∃ l' : List Nat, l'.length ≤ 5 ∧ (∀ x ∈ l', x < l'.length + 4) ∧ ws = l' ++ [2, 3, 3, 2] := by
      refine ⟨l.map fun v => (v.fmod M).toNat, by rw [List.length_map]; exact hl5, fun x hx => ?_, ?_⟩
      · obtain ⟨v, _, rfl⟩ := List.mem_map.mp hx
        have := Int.fmod_lt_of_pos v (b := M) (by omega)
        rw [List.length_map]
        omega
      · rw [hws, hxs, List.map_append]
        congr 1
        have h2 : (2 : Int).fmod M = 2 := by rw [Int.fmod_eq_emod_of_nonneg _ (by omega)]; exact Int.emod_eq_of_lt (by omega) (by omega)
        have h3 : (3 : Int).fmod M = 3 := by rw [Int.fmod_eq_emod_of_nonneg _ (by omega)]; exact Int.emod_eq_of_lt (by omega) (by omega)
        simp [h2, h3]
    have hbt : b = true ↔ (tied ws).isSome = true := by
      obtain ⟨l', h1, h2, h3⟩ := hwse
      rw [hb, h3]
      rw [h3] at hfp
      exact law_way h1 h2 hfp hfs
    cases htd : tied ws with
    | none =>
      rw [htd] at hbt hmn
      have hbf : b = false := by simpa using hbt
      subst hbf
      subst hmn
      cases hmv
      k_steps
      refine Held.out ?_
      rename Fr _ _ _ _ => F13
      rename News _ _ _ _ => N13
      refine cmp_ofEq (ke_eq_ints (ns := []) (ms := []) (PySem.IsL.isList (n := me) (N13 _ (.tail _ (.tail _ (.head _)))).1) (PySem.IsL.isList (n := 0) (N13 _ (.head _)).1) .nil .nil (by ktr_units) ?_)
      rw [decide_eq_true rfl]
      k_steps
    | some mn' =>
      rw [htd] at hbt hmn
      have hbf : b = true := by simpa using hbt
      subst hbf
      subst hmn
      obtain ⟨hmd, hdg⟩ := tied_md (by omega) htd
      have hmd' : Md xs.length mn := hwl ▸ hmd
      have hmvl := hmv.length
      rw [List.length_map, hmd.len] at hmvl
      have hmvs : mv.length ≤ sizeLine := by rw [sizeLine_eq]; omega
      have hmvs2 : mv.toArray.size ≤ sizeLine := by rw [List.size_toArray]; exact hmvs
      k_steps
      refine Held.out ?_
      rename Fr _ _ _ _ => F13
      rename News _ _ _ _ => N13
      refine len_cellM (M := M) (N13 _ (.tail _ (.head _))).1 (by omega) (by omega) ?_
      k_steps
      refine Held.out (wpAny_Assign_Name ?_ (by with_unfolding_all rfl))
      refine LCg.ListComp_U (F₀ := F13) (by with_unfolding_all rfl) (by decide) (by rfl) (by decide) (by rfl) ?_
      k_steps
      refine Held.out ?_
      have hmM : (Ma, listOf mv.toArray me) ∈ (Wa, listOf wv.toArray we) :: [(Ma, listOf mv.toArray me), (O, listOf us.toArray e), (Dn, listOf ns.toArray 0), (Nl, listOf (nmV t0).toArray 0), (s1.heap.objs.size + 1 + 1 + 1 + 1 + 1, oT), (s1.heap.objs.size + 1 + 1 + 1 + 1, oW), (s1.heap.objs.size + 1 + 1 + 1, oR), (s1.heap.objs.size + 1 + 1, oM), (s1.heap.objs.size + 1, oN)] := .tail _ (.head _)
      refine LCg.CompSrc.ledger (its := mv.toArray) (k := me) rfl F13 N13 hmM (by rw [List.size_toArray, sizeLine_eq]; omega) ?_
      intro g15
      refine comp_keep (fun i ys => StrsAre ys ((mn.take i).map rowS)) (.inr ⟨_, hmM, rfl, _, rfl⟩) .nil ?cturn ?cfin
      case cturn =>
        rintro j v ys I oI C oC D m₂ h tk E' hj hv hys hNs hmx F16 N16
        obtain ⟨tv, hve⟩ := hmv.int_at j v (by simpa using hv)
        rw [getD_ofNat] at hve
        subst hve
        k_steps
        refine Held.out ?_
        refine Spec.use (filemode_cI w _ (mn.getD j 0) _ (hmd.lt j) (by omega)) (by assumption) F16 (by assumption) N16 (by assumption) rfl (by ktr_room) (by ktr_units) ?_
        rintro v led' h' tk' F17 N17 ⟨t, rfl, rfl⟩
        k_steps
        refine slice_rev (s := ⟨_, _, _, _, _⟩) F17 N17 (by show (rowS (mn.getD j 0)).length ≤ _; rw [rowS_len (hmd.lt j), sizeLine_eq]; decide) fun h18 t18 k18 F18 N18 => ?_
        show KEnd _ _ _ _ _ _ _ _
        refine KEnd.intro F18 N18 (fun p hp => hp) ?_
        have e : (mn.take (j + 1)).map rowS = (mn.take j).map rowS ++ [rowS (mn.getD j 0)] := by
          have hjl : j < mn.length := by rw [List.size_toArray] at hj; rw [hmd.len]; omega
          rw [List.take_add_one, List.getElem?_eq_getElem hjl, List.map_append, List.getD_eq_getElem?_getD, List.getElem?_eq_getElem hjl]
          rfl
        rw [e]
        exact kct_snoc hys
      case cfin =>
        intro ys hys
        rw [List.size_toArray, hmvl, ← hmd.len, List.take_length] at hys
        intro Rw h19 tk19 F19 N19 off19
        have o19 := off1_mem off19
        refine storeX_C F19 N19 rfl (.tail ?c1 (.tail ?c2 (.tail ?c3 (.tail ?c4 (.tail ?c5 (.tail ?c6 (.tail ?c7 (.tail ?c8 (.head ?c9))))))))) hR ?_ rfl rfl
        case c1 => exact (o19 (s1.heap.objs.size + 1 + 1 + 1, oR) (by simp)).symm
        case c2 => exact (Nat.ne_of_lt (hWlt (s1.heap.objs.size + 1 + 1 + 1, oR) (by simp))).symm
        case c3 => exact (Nat.ne_of_lt (hMlt (s1.heap.objs.size + 1 + 1 + 1, oR) (by simp))).symm
        case c4 => exact Nat.ne_of_gt l5.2.2.2.2.2.2.1
        case c5 => exact Nat.ne_of_gt l4.2.2.2.2.2.1
        case c6 => exact Nat.ne_of_gt l0.2.2.1
        case c7 => exact Nat.ne_of_gt (Nat.lt_succ_of_lt (Nat.lt_succ_self _))
        case c8 => exact Nat.ne_of_gt (Nat.lt_succ_self _)
        case c9 =>
          intro p hp
          replace hp : p ∈ [(s1.heap.objs.size + 1 + 1, oM), (s1.heap.objs.size + 1, oN)] := hp
          simp only [List.mem_cons, List.not_mem_nil, or_false] at hp
          rcases hp with rfl | rfl
          · exact Nat.ne_of_lt (Nat.lt_succ_self _)
          · exact Nat.ne_of_lt (Nat.lt_succ_of_lt (Nat.lt_succ_self _))
        intro h20 oR2 F20 N20 dR2
        k_steps
        refine Held.out ?_
        rename Fr _ _ _ _ => F21
        rename News _ _ _ _ => N21
        rename IsRange _ _ _ _ _ _ _ _ => R21
        have hML : ∀ p ∈ [(Wa, listOf wv.toArray we), (O, listOf us.toArray e), (Dn, listOf ns.toArray 0), (Nl, listOf (nmV t0).toArray 0), (s1.heap.objs.size + 1 + 1 + 1 + 1 + 1, oT), (s1.heap.objs.size + 1 + 1 + 1 + 1, oW), (s1.heap.objs.size + 1 + 1 + 1, oR), (s1.heap.objs.size + 1 + 1, oM), (s1.heap.objs.size + 1, oN)], p.1 < Ma := hMlt
        rename Heap => h21
        have N21' : News s1.heap s1.heap.objs.size h21 ((s1.heap.objs.size + 1 + 1 + 1 + 1 + 1, oT) :: (s1.heap.objs.size + 1 + 1 + 1 + 1, oW) :: (Rw, LCg.lst ys) :: (Wa, listOf wv.toArray we) :: (Ma, listOf mv.toArray me) :: (Nl, listOf (nmV t0).toArray 0) :: (s1.heap.objs.size + 1 + 1 + 1, oR2) :: (s1.heap.objs.size + 1 + 1, oM) :: (s1.heap.objs.size + 1, oN) :: []) := by
          intro p hp
          refine N21 p ?_
          simp only [List.mem_cons, List.not_mem_nil, or_false] at hp ⊢
          rcases hp with rfl | rfl | rfl | rfl | rfl | rfl | rfl | rfl | rfl <;> simp
        refine wpAny_pyIter_range R21 (small_one (by decide) (by decide) (by omega) (by omega)) ?_
        refine forG (n := xs.length) (σ := Obj × Obj)
          (fun c => (s1.heap.objs.size + 1 + 1 + 1 + 1 + 1, c.1) :: (s1.heap.objs.size + 1 + 1 + 1 + 1, c.2) :: (Rw, LCg.lst ys) :: (Wa, listOf wv.toArray we) :: (Ma, listOf mv.toArray me) :: (Nl, listOf (nmV t0).toArray 0) :: (s1.heap.objs.size + 1 + 1 + 1, oR2) :: (s1.heap.objs.size + 1 + 1, oM) :: (s1.heap.objs.size + 1, oN) :: [])
          (fun c => [(Str.ofString "modes", .ref Ma), (Str.ofString "wishes", .ref Wa)])
          (fun i c => (∃ v₀, c.1.data = .cell v₀) ∧ (∃ v₀, c.2.data = .cell v₀))
          (fun c => True) (oT, oW) (Walks.range rfl _ 0 1 xs.length) ?st0 (next_is_new F21) (Nat.ne_of_gt F21.ns.lt) (fun i h st => ⟨_, st⟩) (fun b hb => .inl (List.mem_singleton.mp hb))
          (fun p hp e => absurd (Heap.lt_size (N21' p hp).1) (e ▸ Nat.lt_irrefl _)) (F21.push _) (fun p hp => ⟨Heap.get?_push_of_some _ (N21' p hp).1, (N21' p hp).2⟩) ⟨⟨_, hT⟩, ⟨_, hW⟩⟩ (by kst_all) ?turn ?els ?done (fun _ => rfl) (by with_unfolding_all passes_own)
        case st0 =>
          show IsRangeIter _ _ _ _ _
          rw [hM, range_size]
          simpa using Heap.get?_push_size _ rfl
        case els =>
          rintro ⟨oT', oW'⟩ u h tk ⟨⟨vT, dT⟩, ⟨vW, dW⟩⟩ F5 N5
          exact els_nil trivial F5 N5 (by kst_all)
        case done =>
          rintro ⟨oT', oW'⟩ u h tk _ F5 N5
          dsimp only [fmap] at F5 N5 ⊢
          k_steps
        case turn =>
          rintro i v ⟨oT', oW'⟩ u h tk oJ hin ⟨tv, rfl⟩ ⟨⟨vT, dT⟩, ⟨vW, dW⟩⟩ hne F22 N22
          dsimp only [fmap] at F22 N22 hne dT dW ⊢
          refine wpAny_assign_Name ?_
          refine storeX_C F22 N22 rfl (.tail (Nat.ne_of_gt (Nat.lt_succ_self _)) (.head ?hapW)) dW ?_ rfl rfl
          case hapW =>
            intro p hp
            replace hp : p ∈ (Rw, LCg.lst ys) :: (Wa, listOf wv.toArray we) :: (Ma, listOf mv.toArray me) :: (Nl, listOf (nmV t0).toArray 0) :: (s1.heap.objs.size + 1 + 1 + 1, oR2) :: (s1.heap.objs.size + 1 + 1, oM) :: (s1.heap.objs.size + 1, oN) :: [(h21.objs.size, oJ)] := hp
            simp only [List.mem_cons, List.not_mem_nil, or_false] at hp
            rcases hp with rfl | rfl | rfl | rfl | rfl | rfl | rfl | rfl
            · exact (o19 (s1.heap.objs.size + 1 + 1 + 1 + 1, oW) (by simp)).symm
            · exact (Nat.ne_of_lt (hWlt (s1.heap.objs.size + 1 + 1 + 1 + 1, oW) (by simp))).symm
            · exact (Nat.ne_of_lt (hML (s1.heap.objs.size + 1 + 1 + 1 + 1, oW) (by simp))).symm
            · exact Nat.ne_of_gt l0.2.1
            · exact Nat.ne_of_lt (by omega)
            · exact Nat.ne_of_lt (by omega)
            · exact Nat.ne_of_lt (by omega)
            · exact (hne _ (.tail _ (.head _))).symm
          intro h23 oW2 F23 N23 dW2
          replace N23 : News s1.heap s1.heap.objs.size h23 ((s1.heap.objs.size + 1 + 1 + 1 + 1 + 1, oT') :: (s1.heap.objs.size + 1 + 1 + 1 + 1, oW2) :: (Rw, LCg.lst ys) :: (Wa, listOf wv.toArray we) :: (Ma, listOf mv.toArray me) :: (Nl, listOf (nmV t0).toArray 0) :: (s1.heap.objs.size + 1 + 1 + 1, oR2) :: (s1.heap.objs.size + 1 + 1, oM) :: (s1.heap.objs.size + 1, oN) :: [(h21.objs.size, oJ)]) := N23
          have e0 : (0 : Int) + (i : Int) * 1 = (i : Int) := by omega
          rw [e0] at dW2
          k_steps
          refine Held.out (wpAny_Assign_Name ?_ (by with_unfolding_all rfl))
          refine LCt.ListComp_T (F₀ := F23) (by with_unfolding_all rfl) (by decide) (by rfl) (by decide) (by rfl) ?_
          k_steps
          refine Held.out ?_
          rename Fr _ _ _ _ => F24
          rename News _ _ _ _ => N24
          rename IsRange _ _ _ _ _ _ _ _ => R24
          refine LCt.CompSrcT.range (n := xs.length) rfl F24 N24 R24 (small_one (by omega) (by omega) (by omega) (by omega)) (by rw [hM, range_size]) (by rw [sizeLine_eq]; omega) ?_
          intro g24
          refine comp_keepT (fun j zs => IntsAre zs ((tls mn i j).map Int.ofNat)) True.intro .nil ?tturn ?tfin
          case tturn =>
            rintro j v zs I oI C oC D m₂ h tk E' hj ⟨tw, rfl⟩ hzs hNs hmx F25 N25
            have hjm : j < mn.length := by rw [hmd.len]; omega
            obtain ⟨tr, hyr⟩ : ∃ t, ys[j]? = some (.str (rowS (mn.getD j 0)) t) := hys.at (by rw [List.getElem?_map, List.getD_eq_getElem?_getD, List.getElem?_eq_getElem hjm]; rfl)
            k_steps
            refine Held.out ?_
            refine item_cell (N25 (Rw, LCg.lst ys) (by simp)).1 (by omega) (by omega) (by rw [Int.zero_add, Int.toNat_natCast]; exact hyr) ?_
            k_steps
            refine Held.out ?_
            refine item_row (hmd.lt j) (by omega) ?_
            k_steps
            have hi9 : i < 9 := by omega
            have ez : (0 : Int) + (j : Int) = Int.ofNat j := Int.zero_add _
            cases hb : (mn.getD j 0).testBit i with
            | true =>
              refine KTst.yes (by rw [rowC_bne hi9]; exact hb) ?_
              k_steps
              refine KEnd.intro F25 N25 (fun p hp => hp) ?_
              rw [tls_succ, if_pos hb, List.map_append, ez]
              exact hzs.append (.cons _ _ .nil)
            | false =>
              refine KTst.no (by rw [rowC_bne hi9]; exact hb) F25 N25 (fun p hp => hp) ?_
              rw [tls_succ, hb, if_neg Bool.false_ne_true, List.append_nil]
              exact hzs
          case tfin =>
            intro zs hzs Td h26 tk26 F26 N26 off26
            have o26 := off1_mem off26
            refine storeX_C F26 N26 rfl (.tail ?d1 (.head ?d2)) dT ?_ rfl rfl
            case d1 => exact (o26 (s1.heap.objs.size + 1 + 1 + 1 + 1 + 1, oT') (by simp)).symm
            case d2 =>
              intro p hp
              replace hp : p ∈ (s1.heap.objs.size + 1 + 1 + 1 + 1, oW2) :: (Rw, LCg.lst ys) :: (Wa, listOf wv.toArray we) :: (Ma, listOf mv.toArray me) :: (Nl, listOf (nmV t0).toArray 0) :: (s1.heap.objs.size + 1 + 1 + 1, oR2) :: (s1.heap.objs.size + 1 + 1, oM) :: (s1.heap.objs.size + 1, oN) :: [(h21.objs.size, oJ)] := hp
              simp only [List.mem_cons, List.not_mem_nil, or_false] at hp
              rcases hp with rfl | rfl | rfl | rfl | rfl | rfl | rfl | rfl | rfl
              · exact Nat.ne_of_lt (by omega)
              · exact (o19 (s1.heap.objs.size + 1 + 1 + 1 + 1 + 1, oT) (by simp)).symm
              · exact (Nat.ne_of_lt (hWlt (s1.heap.objs.size + 1 + 1 + 1 + 1 + 1, oT) (by simp))).symm
              · exact (Nat.ne_of_lt (hML (s1.heap.objs.size + 1 + 1 + 1 + 1 + 1, oT) (by simp))).symm
              · exact Nat.ne_of_gt l0.1
              · exact Nat.ne_of_lt (by omega)
              · exact Nat.ne_of_lt (by omega)
              · exact Nat.ne_of_lt (by omega)
              · exact (hne _ (.head _)).symm
            intro h27 oT2 F27 N27 dT2
            k_steps
            refine Held.out ?_
            have htl : (zs.length : Int) = ((ws.getD i 0 : Nat) : Int) := by
              rw [hzs.length, List.length_map, tls_len hmd, ← hwl]
              exact congrArg Nat.cast (hdg i (by omega))
            have hwi : ws.getD i 0 < 10 := by
              have hiw : i < ws.length := by omega
              rw [List.getD_eq_getElem?_getD, List.getElem?_eq_getElem hiw]
              exact hsmall _ (List.getElem_mem hiw)
            obtain ⟨tq, hwq⟩ : ∃ t, wv[i]? = some (.int ((ws.getD i 0 : Nat) : Int) t) := hwN.get i _ (by
              have hiw : i < ws.length := by omega
              rw [List.getElem?_map, List.getD_eq_getElem?_getD, List.getElem?_eq_getElem hiw]
              rfl)
            refine len_cellM (M := ((ws.getD i 0 : Nat) : Int)) (N27 _ (.head _)).1 htl (by omega) ?_
            k_steps
            refine Held.out ?_
            refine item_cell (N27 (Wa, listOf wv.toArray we) (by simp)).1 (by omega) (by omega) (by rw [Int.toNat_natCast]; exact hwq) ?_
            k_steps
            · rename _ ≠ _ => hq
              exact absurd rfl hq
            · exfalso
              rename (List.any _ _) = true => hany
              rw [in_tls hmd'] at hany
              have := hmd.irr i
              rw [show MR mn i i = true from hany] at this
              cases this
            · refine Held.out ?_
              rename Fr _ _ _ _ => F28
              rename News _ _ _ _ => N28
              have him : i < mn.length := by rw [hmd.len]; omega
              obtain ⟨tr, hyr⟩ : ∃ t, ys[i]? = some (.str (rowS (mn.getD i 0)) t) := hys.at (by rw [List.getElem?_map, List.getD_eq_getElem?_getD, List.getElem?_eq_getElem him]; rfl)
              refine item_cell (N28 (Rw, LCg.lst ys) (by simp)).1 (by omega) (by omega) (by rw [Int.toNat_natCast]; exact hyr) ?_
              k_steps
              refine Held.out ?_
              refine LCg.ListComp_U (F₀ := F28) (by with_unfolding_all rfl) (by decide) (by rfl) (by decide) (by rfl) ?_
              k_steps
              refine Held.out ?_
              rename Fr _ _ _ _ => F29
              rename News _ _ _ _ => N29
              rename IsRange _ _ _ _ _ _ _ _ => R29
              refine LCg.CompSrc.range (n := 9) rfl F29 N29 R29 (by decide) (by decide) (by rw [sizeLine_eq]; omega) ?_
              intro g29
              refine comp_keep (fun j zs => StrsAre zs ((List.range j).map (rowC (mn.getD i 0)))) True.intro .nil ?uturn ?ufin
              case uturn =>
                rintro j v zs' I oI C oC D m₂ h tk E' hj ⟨tw, rfl⟩ hzs' hNs hmx F30 N30
                have ej : (0 : Int) + (j : Int) = (j : Int) := Int.zero_add _
                rw [ej] at hmx
                k_steps
                · rename (List.any _ _) = true => hb
                  rw [in_tls hmd'] at hb
                  refine KEnd.intro F30 N30 (fun p hp => hp) ?_
                  rw [List.range_succ, List.map_append]
                  have e : rowC (mn.getD i 0) j = Txt.item (Str.ofString "xwrxwrxwr") (j : Int) := by
                    unfold rowC
                    rw [if_pos hb, item_xwr j hj]
                  show StrsAre _ (_ ++ [rowC (mn.getD i 0) j])
                  rw [e]
                  exact kct_snoc hzs'
                · rename (List.any _ _) = false => hb
                  rw [in_tls hmd'] at hb
                  refine KEnd.intro F30 N30 (fun p hp => hp) ?_
                  rw [List.range_succ, List.map_append]
                  have e : rowC (mn.getD i 0) j = Str.ofString "-" := by
                    unfold rowC
                    rw [hb, if_neg Bool.false_ne_true]
                  show StrsAre _ (_ ++ [rowC (mn.getD i 0) j])
                  rw [e]
                  exact kct_snoc hzs'
              case ufin =>
                intro zs' hzs' Jd h31 tk31 F31 N31 off31
                k_steps
                refine Held.out (join_listC (PySem.IsL.isList (n := zs'.length) (N31 _ (.head _)).1) (by simpa using hzs') (by decide) (rowC_sum _) fun t9 k9 => ?_)
                k_steps
                refine add_row (hmd.lt i) fun t33 k33 => ?_
                k_steps
                · rename (_ != _) = true => hq
                  simp at hq
                · refine Held.out ?_
                  rename Fr _ _ _ _ => F34
                  rename News _ _ _ _ => N34
                  obtain ⟨tm, hmi⟩ : ∃ t, mv[i]? = some (.int ((mn.getD i 0 : Nat) : Int) t) := hmv.get i _ (by
                    rw [List.getElem?_map, List.getD_eq_getElem?_getD, List.getElem?_eq_getElem him]
                    rfl)
                  refine item_cell (N34 (Ma, listOf mv.toArray me) (by simp)).1 (by omega) (by omega) (by rw [Int.toNat_natCast]; exact hmi) ?_
                  k_steps
                  refine Held.out ?_
                  refine Spec.use (pretty_c w _ (mn.getD i 0) _ (hmd.lt i)) (by assumption) F34 (by assumption) N34 (by assumption) rfl (by ktr_room) (by ktr_units) ?_
                  rintro v led' h' tk' F35 N35 ⟨tp, rfl, rfl⟩
                  k_steps
                  refine Held.out ?_
                  refine LCg.ListComp_U (F₀ := F35) (by with_unfolding_all rfl) (by decide) (by rfl) (by decide) (by rfl) ?_
                  k_steps
                  refine Held.out ?_
                  have hzl : zs.length = (tls mn i xs.length).length := by rw [hzs.length, List.length_map]
                  have htl9 : (tls mn i xs.length).length ≤ 9 := by rw [tls_len hmd, ← hwl]; have := hdg i (by omega); omega
                  refine LCg.CompSrc.ledger (its := zs.toArray) (k := zs.length) rfl F35 N35 (show (Td, LCg.lst zs) ∈ _ from by simp) (by rw [List.size_toArray, sizeLine_eq]; omega) ?_
                  intro g35
                  refine comp_keep (fun j qs => StrsAre qs (((tls mn i xs.length).take j).map fun o => NM.getD o (Str.ofString ""))) (.inr ⟨_, (show (Td, LCg.lst zs) ∈ _ from by simp), rfl, _, rfl⟩) .nil ?pturn ?pfin
                  case pturn =>
                    rintro j v qs I oI C oC D m₂ h tk E' hj hv hqs hNs hmx F36 N36
                    obtain ⟨to, hve⟩ := hzs.int_at j v (by simpa using hv)
                    rw [getD_ofNat] at hve
                    subst hve
                    have hjt : j < (tls mn i xs.length).length := by rw [List.size_toArray] at hj; omega
                    have hot : (tls mn i xs.length)[j]? = some ((tls mn i xs.length).getD j 0) := by rw [List.getD_eq_getElem?_getD, List.getElem?_eq_getElem hjt]; rfl
                    have ho9 : (tls mn i xs.length).getD j 0 < 9 := by
                      have := (tls_mem.mp (List.mem_of_getElem? hot)).1
                      omega
                    obtain ⟨tn, hnv⟩ := nmV_at t0 _ ho9
                    k_steps
                    refine Held.out ?_
                    refine item_cell (N36 (Nl, listOf (nmV t0).toArray 0) (by simp)).1 (by omega) (by omega) (by rw [Int.toNat_natCast]; exact hnv) ?_
                    k_steps
                    show KEnd _ _ _ _ _ _ _ _
                    refine KEnd.intro F36 N36 (fun p hp => hp) ?_
                    rw [List.take_add_one, hot, List.map_append]
                    exact kct_snoc hqs
                  case pfin =>
                    intro qs hqs Pd h37 tk37 F37 N37 off37
                    have hqs' : StrsAre qs (nms (fl (mn.getD i 0) 9)) := by
                      rw [List.size_toArray, hzl, List.take_length, tls_fl hmd' (by omega)] at hqs
                      exact hqs
                    k_steps
                    refine Held.out (join_listC (PySem.IsL.isList (n := qs.length) (N37 _ (.head _)).1) (by simpa using hqs') (by decide) (nms_len _ (hmd.lt i)) fun t38 k38 => ?_)
                    k_steps
                    have hneC : ∀ p ∈ (s1.heap.objs.size + 1 + 1 + 1 + 1 + 1, oT2) :: (s1.heap.objs.size + 1 + 1 + 1 + 1, oW2) :: (Rw, LCg.lst ys) :: (Wa, listOf wv.toArray we) :: (Ma, listOf mv.toArray me) :: (Nl, listOf (nmV t0).toArray 0) :: (s1.heap.objs.size + 1 + 1 + 1, oR2) :: (s1.heap.objs.size + 1 + 1, oM) :: (s1.heap.objs.size + 1, oN) :: [], p.1 ≠ h21.objs.size := by
                      intro p hp
                      rcases List.mem_cons.mp hp with rfl | hp
                      · exact (hne _ (.head _)).symm.symm
                      rcases List.mem_cons.mp hp with rfl | hp
                      · exact (hne _ (.tail _ (.head _))).symm.symm
                      · exact hne p (.tail _ (.tail _ hp))
                    refine truthy_nms (hmd.lt i) (fun hf0 => ?_) (fun hf0 => ?_)
                    · k_steps
                      · rename (_ != _) = true => hq
                        rw [hf0, pfl_zero] at hq
                        simp at hq
                      · dsimp only [FTEnd]
                        refine FEnd.intro (oT2, oW2) F37 N37 ⟨⟨_, dT2⟩, ⟨_, dW2⟩⟩ (by simp) (fun p hp => ?_) hneC (by kst_all)
                        simp only [List.mem_cons, List.mem_append, List.not_mem_nil, or_false] at hp ⊢
                        rcases hp with hp | hp | hp | hp | hp | hp | hp | hp | hp <;> simp [hp]
                    · k_steps
                      · rename (_ != _) = true => hq
                        rw [pfl_pos hf0] at hq
                        simp at hq
                      · dsimp only [FTEnd]
                        refine FEnd.intro (oT2, oW2) F37 N37 ⟨⟨_, dT2⟩, ⟨_, dW2⟩⟩ (by simp) (fun p hp => ?_) hneC (by kst_all)
                        simp only [List.mem_cons, List.mem_append, List.not_mem_nil, or_false] at hp ⊢
                        rcases hp with hp | hp | hp | hp | hp | hp | hp | hp | hp <;> simp [hp])
end Mine
end

theorem PySem.Challenge.cw_un0013_01_holds : PySem.Challenge.rw_un0013_01.Holds :=
  Mine.law1
