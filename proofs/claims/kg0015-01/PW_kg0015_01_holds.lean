import PyProof.Rows.All
import Wide.All
import OpenK.AllK
import Wide.FinOn
import PySem.Challenge.RW_kg0015_01
set_option Elab.async false
section
open PySem PySem.W PyProof.Rows
namespace Mine
set_option maxRecDepth 100000 in
set_option maxHeartbeats 8000000 in
open_top hd for PySem.Challenge.rw_kg0015_01
end Mine
end
section
open PySem PySem.W PySem.Spec PySem.Calls PyProof.Rows
namespace Mine
theorem cut {M : Model} {A : Around} {E : Value → Shared → Prop} {s : Shared} {env : Env} {st : Stmt} {rest : List Stmt} {Q : Flow → Shared → Prop} (P : Shared → Prop)
    (h1 : wpAny M A (exec st env) (fun f s' => match f with | .next => P s' | f => Q f s') E s)
    (h2 : ∀ s', P s' → wpAny M A (execs rest env) Q E s') : wpAny M A (execs (st :: rest) env) Q E s := by
  refine wpAny_execs_cons (wpAny_mono h1 (fun f s' h => ?_) fun _ _ e => e)
  cases f with
  | next => exact h2 _ h
  | ret v => exact h
  | brk => exact h
  | cont => exact h
/-- the state at a cut: a heap, a clock, the frame's names that are still asked for, the ledger -/
def St (g : Heap) (L : Addr) (news : List (Addr × Obj)) (s : Shared) (ps : List (Str × Value)) (s' : Shared) : Prop :=
  ∃ (h' : Heap) (tk : Nat) (u : Str → Option Value), s' = { s with heap := h', toks := tk } ∧ Fr g L h' (kstB u ps) ∧ News g L h' news
theorem St.intro {g : Heap} {L : Addr} {news : List (Addr × Obj)} {s : Shared} {ps : List (Str × Value)} {h' : Heap} {tk : Nat} {m : Str → Option Value}
    (F : Fr g L h' m) (N : News g L h' news) (hk : ∀ p ∈ ps, m p.1 = some p.2) : St g L news s ps { s with heap := h', toks := tk } := by
  refine ⟨h', tk, m, rfl, ?_, N⟩
  have e : kstB m ps = m := by
    funext y
    exact kstB_eq hk fun _ => rfl
  rw [e]; exact F
/-- the same, with letters -/
def StX {σ : Type} (g : Heap) (L : Addr) (news : σ → List (Addr × Obj)) (s : Shared) (C : σ → Prop) (ps : σ → List (Str × Value)) (s' : Shared) : Prop :=
  ∃ c : σ, C c ∧ St g L (news c) s (ps c) s'
theorem StX.intro {σ : Type} {g : Heap} {L : Addr} {news : σ → List (Addr × Obj)} {s : Shared} {C : σ → Prop} {ps : σ → List (Str × Value)} {h' : Heap} {tk : Nat} {m : Str → Option Value} (c : σ)
    (F : Fr g L h' m) (N : News g L h' (news c)) (hk : ∀ p ∈ ps c, m p.1 = some p.2) (hc : C c) : StX g L news s C ps { s with heap := h', toks := tk } :=
  ⟨c, hc, St.intro F N hk⟩
theorem apart {D : Addr} {o o' : Obj} {news own own2 : List (Addr × Obj)} (hD : ∀ p ∈ news, p.1 < D) (h1 : OwnOff own (((D, o) :: news).map (·.1))) (h2 : OwnOff own2 (((D, o') :: (news ++ own)).map (·.1))) : ∀ p ∈ news ++ own ++ own2, p.1 ≠ D := by
  intro p hp
  rcases List.mem_append.mp hp with hp | hp
  · rcases List.mem_append.mp hp with hp | hp
    · exact Nat.ne_of_lt (hD p hp)
    · exact h1 p hp D (List.mem_cons_self ..)
  · exact h2 p hp D (List.mem_cons_self ..)
theorem ite_bne_pos {k : Int} {a b : Prop} (h : ¬ k = 0) (q : a) : if (k != 0) = true then a else b := by
  have : (k != 0) = true := by simpa using h
  rw [if_pos this]; exact q
end Mine
end
section
open PySem PySem.W PySem.Spec PySem.Calls PyProof.Rows
namespace Mine
section
variable {α : Type} (s : α → α → Nat)
/-- the weighted edit distance: 2 for a sign put in or struck, s x y for x turned into y -/
def ed : List α → List α → Nat
  | [], b => 2 * b.length
  | x :: a, [] => 2 * (x :: a).length
  | x :: a, y :: b => min (min (ed a (y :: b) + 2) (ed (x :: a) b + 2)) (ed a b + s x y)
termination_by a b => a.length + b.length
/-- an alignment of cost n -/
inductive Al : List α → List α → Nat → Prop
  | nil : Al [] [] 0
  | del (x : α) {a b : List α} {n : Nat} : Al a b n → Al (x :: a) b (n + 2)
  | ins (y : α) {a b : List α} {n : Nat} : Al a b n → Al a (y :: b) (n + 2)
  | sub (x y : α) {a b : List α} {n : Nat} : Al a b n → Al (x :: a) (y :: b) (n + s x y)
theorem ed_nil_left (b : List α) : ed s [] b = 2 * b.length := by simp [ed]
theorem ed_nil_right (a : List α) : ed s a [] = 2 * a.length := by cases a <;> simp [ed]
theorem ed_cons_cons (x : α) (a : List α) (y : α) (b : List α) : ed s (x :: a) (y :: b) = min (min (ed s a (y :: b) + 2) (ed s (x :: a) b + 2)) (ed s a b + s x y) := by
  rw [ed]
variable {s}
theorem al_ed {a b : List α} {n : Nat} (h : Al s a b n) : ed s a b ≤ n := by
  induction h with
  | nil => simp [ed]
  | @del x a b n _ ih =>
    cases b with
    | nil => rw [ed_nil_right] at ih ⊢; simp only [List.length_cons]; omega
    | cons y b => rw [ed_cons_cons]; omega
  | @ins y a b n _ ih =>
    cases a with
    | nil => rw [ed_nil_left] at ih ⊢; simp only [List.length_cons]; omega
    | cons x a => rw [ed_cons_cons]; omega
  | @sub x y a b n _ ih => rw [ed_cons_cons]; omega
theorem al_left : ∀ b : List α, Al s [] b (2 * b.length)
  | [] => .nil
  | y :: b => by have := Al.ins (s := s) y (al_left b); simp only [List.length_cons]; rw [Nat.mul_add]; exact this
theorem al_right : ∀ a : List α, Al s a [] (2 * a.length)
  | [] => .nil
  | x :: a => by have := Al.del (s := s) x (al_right a); simp only [List.length_cons]; rw [Nat.mul_add]; exact this
theorem ed_al (a b : List α) : Al s a b (ed s a b) := by
  match a, b with
  | [], b => rw [ed_nil_left]; exact al_left b
  | x :: a, [] => rw [ed_nil_right]; exact al_right _
  | x :: a, y :: b =>
    have h1 := Al.del (s := s) x (ed_al a (y :: b))
    have h2 := Al.ins (s := s) y (ed_al (x :: a) b)
    have h3 := Al.sub (s := s) x y (ed_al a b)
    have e := ed_cons_cons s x a y b
    have : ed s (x :: a) (y :: b) = ed s a (y :: b) + 2 ∨ ed s (x :: a) (y :: b) = ed s (x :: a) b + 2 ∨ ed s (x :: a) (y :: b) = ed s a b + s x y := by omega
    rcases this with e | e | e <;> rw [e] <;> assumption
termination_by a.length + b.length
theorem al_symm (hs : ∀ x y, s x y = s y x) {a b : List α} {n : Nat} (h : Al s a b n) : Al s b a n := by
  induction h with
  | nil => exact .nil
  | del x _ ih => exact .ins x ih
  | ins y _ ih => exact .del y ih
  | sub x y _ ih => rw [hs]; exact .sub y x ih
theorem al_trans (ht : ∀ x y z, s x z ≤ s x y + s y z) {a b : List α} {n : Nat} (h : Al s a b n) : ∀ {c : List α} {m : Nat}, Al s b c m → ∃ k, k ≤ n + m ∧ Al s a c k := by
  induction h with
  | nil => intro c m h2; exact ⟨m, by omega, h2⟩
  | del x _ ih =>
    intro c m h2
    obtain ⟨k, hk, h⟩ := ih h2
    exact ⟨k + 2, by omega, .del x h⟩
  | @ins y a b n h1 ih =>
    intro c m h2
    generalize hb : y :: b = b' at h2
    induction h2 with
    | nil => cases hb
    | del y' h2 _ =>
      cases hb
      obtain ⟨k, hk, h⟩ := ih h2
      exact ⟨k, by omega, h⟩
    | ins z h2 ih2 =>
      obtain ⟨k, hk, h⟩ := ih2 hb
      exact ⟨k + 2, by omega, .ins z h⟩
    | sub y' z h2 _ =>
      cases hb
      obtain ⟨k, hk, h⟩ := ih h2
      exact ⟨k + 2, by omega, .ins z h⟩
  | @sub x y a b n h1 ih =>
    intro c m h2
    generalize hb : y :: b = b' at h2
    induction h2 with
    | nil => cases hb
    | del y' h2 _ =>
      cases hb
      obtain ⟨k, hk, h⟩ := ih h2
      exact ⟨k + 2, by omega, .del x h⟩
    | ins z h2 ih2 =>
      obtain ⟨k, hk, h⟩ := ih2 hb
      exact ⟨k + 2, by omega, .ins z h⟩
    | sub y' z h2 _ =>
      cases hb
      obtain ⟨k, hk, h⟩ := ih h2
      have := ht x y z
      exact ⟨k + s x z, by omega, .sub x z h⟩
theorem al_append {a b c d : List α} {n m : Nat} (h : Al s a b n) (h2 : Al s c d m) : Al s (a ++ c) (b ++ d) (n + m) := by
  induction h with
  | nil => simpa using h2
  | del x _ ih => have := Al.del (s := s) x ih; rw [show ∀ p : Nat, p + 2 + m = p + m + 2 from fun p => by omega]; exact this
  | ins y _ ih => have := Al.ins (s := s) y ih; rw [show ∀ p : Nat, p + 2 + m = p + m + 2 from fun p => by omega]; exact this
  | sub x y _ ih => have := Al.sub (s := s) x y ih; rw [show ∀ p : Nat, p + s x y + m = p + m + s x y from fun p => by omega]; exact this
theorem al_reverse {a b : List α} {n : Nat} (h : Al s a b n) : Al s a.reverse b.reverse n := by
  induction h with
  | nil => exact .nil
  | del x _ ih => rw [List.reverse_cons]; simpa using al_append ih (Al.del (s := s) x .nil)
  | ins y _ ih => rw [List.reverse_cons]; simpa using al_append ih (Al.ins (s := s) y .nil)
  | sub x y _ ih => rw [List.reverse_cons, List.reverse_cons]; simpa using al_append ih (Al.sub (s := s) x y .nil)
theorem ed_symm (hs : ∀ x y, s x y = s y x) (a b : List α) : ed s a b = ed s b a :=
  Nat.le_antisymm (al_ed (al_symm hs (ed_al b a))) (al_ed (al_symm hs (ed_al a b)))
theorem ed_tri (ht : ∀ x y z, s x z ≤ s x y + s y z) (a b c : List α) : ed s a c ≤ ed s a b + ed s b c := by
  obtain ⟨k, hk, h⟩ := al_trans ht (ed_al a b) (ed_al b c)
  exact Nat.le_trans (al_ed h) hk
theorem ed_reverse (a b : List α) : ed s a.reverse b.reverse = ed s a b := by
  refine Nat.le_antisymm (al_ed (al_reverse (ed_al a b))) ?_
  have := al_ed (al_reverse (ed_al a.reverse b.reverse (s := s)))
  simpa using this
theorem al_zero (h0 : ∀ x y, s x y = 0 → x = y) {a b : List α} {n : Nat} (h : Al s a b n) : n = 0 → a = b := by
  induction h with
  | nil => intro _; rfl
  | del x _ ih => intro e; omega
  | ins y _ ih => intro e; omega
  | sub x y _ ih => intro e; rw [ih (by omega), h0 x y (by omega)]
theorem al_refl (hr : ∀ x, s x x = 0) : ∀ a : List α, Al s a a 0
  | [] => .nil
  | x :: a => by have := Al.sub (s := s) x x (al_refl hr a); rw [hr] at this; exact this
theorem ed_self (hr : ∀ x, s x x = 0) (a : List α) : ed s a a = 0 := Nat.le_zero.mp (al_ed (al_refl hr a))
theorem ed_zero (hr : ∀ x, s x x = 0) (h0 : ∀ x y, s x y = 0 → x = y) (a b : List α) : ed s a b = 0 ↔ a = b :=
  ⟨fun e => al_zero h0 (ed_al a b) e, fun e => by subst e; exact ed_self hr a⟩
theorem ed_cancel (hr : ∀ x, s x x = 0) (ht : ∀ x y z, s x z ≤ s x y + s y z) (x : α) (a b : List α) : ed s (x :: a) (x :: b) = ed s a b := by
  have h1 := al_ed (Al.sub (s := s) x x (ed_al a b))
  rw [hr] at h1
  refine Nat.le_antisymm h1 ?_
  have h2 := al_ed (Al.ins (s := s) x (al_refl hr a))
  have h3 := al_ed (Al.del (s := s) x (al_refl hr b))
  have h4 := ed_tri ht a (x :: a) b
  have h5 := ed_tri ht a (x :: b) b
  have e := ed_cons_cons s x a x b
  have r := hr x
  omega
theorem ed_pre (hr : ∀ x, s x x = 0) (ht : ∀ x y z, s x z ≤ s x y + s y z) (a b : List α) : ∀ p : List α, ed s (p ++ a) (p ++ b) = ed s a b
  | [] => rfl
  | x :: p => by rw [List.cons_append, List.cons_append, ed_cancel hr ht]; exact ed_pre hr ht a b p
theorem ed_post (hr : ∀ x, s x x = 0) (ht : ∀ x y z, s x z ≤ s x y + s y z) (a b p : List α) : ed s (a ++ p) (b ++ p) = ed s a b := by
  rw [← ed_reverse, List.reverse_append, List.reverse_append, ed_pre hr ht, ed_reverse]
theorem ed_snoc (x : α) (a : List α) (y : α) (b : List α) : ed s (a ++ [x]) (b ++ [y]) = min (min (ed s a (b ++ [y]) + 2) (ed s (a ++ [x]) b + 2)) (ed s a b + s x y) := by
  rw [← ed_reverse (a ++ [x]) (b ++ [y]), ← ed_reverse a (b ++ [y]), ← ed_reverse (a ++ [x]) b, ← ed_reverse a b]
  simp only [List.reverse_append, List.reverse_cons, List.reverse_nil, List.nil_append, List.cons_append]
  exact ed_cons_cons s _ _ _ _
theorem ed_le (a b : List α) : ed s a b ≤ 2 * (a.length + b.length) := by
  have := al_ed (al_append (al_right (s := s) a) (al_left (s := s) b))
  simp only [List.append_nil, List.nil_append] at this
  omega
/-- one cell of the table, by the row above, the cell to the left, the cell across; at the left edge the cell to the left may be told as 2 * j -/
theorem dp_cell (h2 : ∀ x y, s x y ≤ 2) {a b : List α} {i j : Nat} {x y : α} (hx : a[i]? = some x) (hy : b[j]? = some y) {r : Int} (hr : r = if i = 0 then 2 * (j : Int) else (ed s (b.take (j + 1)) (a.take i) : Int)) :
    min (min r (ed s (b.take j) (a.take (i + 1)) : Int) + 2) ((ed s (b.take j) (a.take i) : Int) + s y x) = (ed s (b.take (j + 1)) (a.take (i + 1)) : Int) := by
  have ea : a.take (i + 1) = a.take i ++ [x] := by simp [List.take_add_one, hx]
  have eb : b.take (j + 1) = b.take j ++ [y] := by simp [List.take_add_one, hy]
  have hj : j < b.length := by have := List.getElem?_eq_some_iff.mp hy; exact this.1
  have hi : i < a.length := by have := List.getElem?_eq_some_iff.mp hx; exact this.1
  have key := ed_snoc (s := s) y (b.take j) x (a.take i)
  rw [← ea, ← eb] at key
  have hs := h2 y x
  by_cases h : i = 0
  · subst h
    rw [if_pos rfl] at hr
    have e1 : ed s (b.take j) (a.take 0) = 2 * j := by simp only [List.take_zero]; rw [ed_nil_right, List.length_take]; omega
    have e2 : ed s (b.take (j + 1)) (a.take 0) = 2 * (j + 1) := by simp only [List.take_zero]; rw [ed_nil_right, List.length_take]; omega
    rw [key, hr, e1, e2]
    omega
  · rw [if_neg h] at hr
    rw [key, hr]
    omega
end
end Mine
end
section
open PySem PySem.W PySem.Spec PySem.Calls PyProof.Rows
namespace Mine
def tcost (x y : Nat) : Nat := if x = y then 0 else if Txt.lower ⟨#[x]⟩ = Txt.lower ⟨#[y]⟩ then 1 else 2
theorem tcost_refl (x : Nat) : tcost x x = 0 := by simp [tcost]
theorem tcost_symm (x y : Nat) : tcost x y = tcost y x := by
  unfold tcost
  by_cases h : x = y
  · subst h; rfl
  · rw [if_neg h, if_neg (Ne.symm h)]
    by_cases h2 : Txt.lower ⟨#[x]⟩ = Txt.lower ⟨#[y]⟩
    · rw [if_pos h2, if_pos h2.symm]
    · rw [if_neg h2, if_neg (Ne.symm h2)]
theorem tcost_zero (x y : Nat) (h : tcost x y = 0) : x = y := by
  unfold tcost at h
  by_cases h1 : x = y
  · exact h1
  · rw [if_neg h1] at h
    split at h <;> cases h
theorem tcost_le (x y : Nat) : tcost x y ≤ 2 := by
  unfold tcost
  split
  · omega
  · split <;> omega
theorem tcost_tri (x y z : Nat) : tcost x z ≤ tcost x y + tcost y z := by
  by_cases h1 : x = y
  · subst h1; omega
  by_cases h2 : y = z
  · subst h2; omega
  have a1 : 1 ≤ tcost x y := by
    rcases Nat.eq_zero_or_pos (tcost x y) with h | h
    · exact absurd (tcost_zero _ _ h) h1
    · exact h
  have a2 : 1 ≤ tcost y z := by
    rcases Nat.eq_zero_or_pos (tcost y z) with h | h
    · exact absurd (tcost_zero _ _ h) h2
    · exact h
  have := tcost_le x z
  omega
def lev (a b : Str) : Int := (ed tcost a.cps.toList b.cps.toList : Int)
def scost (x y : Str) : Int := if x = y then 0 else if Txt.lower x = Txt.lower y then 1 else 2
theorem scost_one (x y : Nat) : scost ⟨#[x]⟩ ⟨#[y]⟩ = (tcost x y : Int) := by
  unfold scost tcost
  by_cases h : x = y
  · subst h; simp
  · have h' : ¬ (⟨#[x]⟩ : Str) = ⟨#[y]⟩ := by intro e; injection e with e; simp at e; exact h e
    rw [if_neg h, if_neg h']
    split <;> rfl
theorem str_len (x : Str) : x.cps.toList.length = x.length := rfl
theorem str_ext {x y : Str} (h : x.cps.toList = y.cps.toList) : x = y := by
  cases x; cases y; congr 1; exact Array.toList_inj.mp h
theorem item_pos {x : Str} {i : Int} (h0 : 0 ≤ i) (h1 : i < x.length) : ∃ c, x.cps.toList[i.toNat]? = some c ∧ Txt.item x i = ⟨#[c]⟩ := by
  have hlt : i.toNat < x.cps.toList.length := by rw [str_len]; omega
  refine ⟨x.cps.toList[i.toNat], List.getElem?_eq_getElem hlt, ?_⟩
  rw [eq_of_beq (item_closes ⟨h0, h1⟩)]
  congr 2
  have : i.toNat < x.cps.size := hlt
  simp [Array.getD, this]
theorem item_neg {x : Str} {i : Int} (h0 : i < 0) (h1 : -(x.length : Int) ≤ i) : ∃ c, x.cps.toList[(i + x.length).toNat]? = some c ∧ Txt.item x i = ⟨#[c]⟩ := by
  have hlt : (i + x.length).toNat < x.cps.toList.length := by rw [str_len]; omega
  refine ⟨x.cps.toList[(i + x.length).toNat], List.getElem?_eq_getElem hlt, ?_⟩
  rw [eq_of_beq (item_closes_neg h0 h1 rfl)]
  congr 2
  have : (i + x.length).toNat < x.cps.size := hlt
  simp [Array.getD, this]
theorem slice_from_list {x : Str} {i : Int} (h0 : 0 ≤ i) (h1 : i ≤ x.length) : (Txt.slice x (some i) none).cps.toList = x.cps.toList.drop i.toNat := by
  rw [slice_from_eq h0 h1 rfl]
  simp only
  rw [List.take_of_length_le]
  rw [List.length_drop, str_len]; omega
theorem slice_to_neg_list {x : Str} {k : Int} (h0 : k < 0) (h1 : -(x.length : Int) ≤ k) : (Txt.slice x none (some k)).cps.toList = x.cps.toList.take (x.length + k).toNat := by
  rw [eq_of_beq (slice_closes_to_neg h0 h1 rfl)]
  simp [Int.add_comm]
theorem slice_all (x : Str) : Txt.slice x none none = x := by
  unfold Txt.slice
  have : (Builtin.Str.strSliceIndices none none 1 x.length).length = x.length := by
    simp [Builtin.Str.strSliceIndices, sliceRange]
    split <;> omega
  rw [if_pos (by simp [this])]
theorem len_to_neg {x : Str} {k : Int} (h0 : k < 0) (h1 : -(x.length : Int) ≤ k) : ((Txt.slice x none (some k)).length : Int) = x.length + k := by
  have := congrArg List.length (slice_to_neg_list h0 h1)
  rw [str_len, List.length_take, str_len] at this
  omega
theorem item_eq_iff {c d : Nat} {x y : Str} {i j : Int} (hx : Txt.item x i = ⟨#[c]⟩) (hy : Txt.item y j = ⟨#[d]⟩) (h : (Txt.item x i == Txt.item y j) = true) : c = d := by
  have := eq_of_beq h
  rw [hx, hy] at this
  injection this with e
  simpa using e
/-- while 1 -/
def W1 (a b : Str) (i : Int) : Prop := 0 ≤ i ∧ i ≤ a.length ∧ i ≤ b.length ∧ a.cps.toList.take i.toNat = b.cps.toList.take i.toNat
theorem W1.start (a b : Str) : W1 a b 0 := ⟨by omega, by omega, by omega, by simp⟩
theorem W1.step {a b : Str} {i : Int} (h : W1 a b i) (ha : i < a.length) (hb : i < b.length) (he : (Txt.item a i == Txt.item b i) = true) : W1 a b (i + 1) := by
  obtain ⟨h0, h1, h2, h3⟩ := h
  obtain ⟨c, hc, ec⟩ := item_pos h0 ha
  obtain ⟨d, hd, ed⟩ := item_pos h0 hb
  have := item_eq_iff ec ed he
  subst this
  refine ⟨by omega, by omega, by omega, ?_⟩
  have e : (i + 1).toNat = i.toNat + 1 := by omega
  rw [e, List.take_add_one, List.take_add_one, h3, hc, hd]
theorem W1.done {a b : Str} {i : Int} (h : W1 a b i) : lev (Txt.slice a (some i) none) (Txt.slice b (some i) none) = lev a b := by
  obtain ⟨h0, h1, h2, h3⟩ := h
  unfold lev
  rw [slice_from_list h0 h1, slice_from_list h0 h2]
  congr 1
  have := ed_pre tcost_refl tcost_tri (a.cps.toList.drop i.toNat) (b.cps.toList.drop i.toNat) (a.cps.toList.take i.toNat)
  rw [List.take_append_drop, h3, List.take_append_drop] at this
  exact this.symm
/-- while 2 -/
def W2 (a b : Str) (k : Int) : Prop := k ≤ 0 ∧ -(a.length : Int) ≤ k ∧ -(b.length : Int) ≤ k ∧ a.cps.toList.drop (a.length + k).toNat = b.cps.toList.drop (b.length + k).toNat
theorem W2.start (a b : Str) : W2 a b 0 := ⟨by omega, by omega, by omega, by
  rw [List.drop_of_length_le (by rw [str_len]; omega), List.drop_of_length_le (by rw [str_len]; omega)]⟩
theorem W2.step {a b : Str} {k : Int} (h : W2 a b k) (ha : -(a.length : Int) < k) (hb : -(b.length : Int) < k) (he : (Txt.item a (k - 1) == Txt.item b (k - 1)) = true) : W2 a b (k - 1) := by
  obtain ⟨h0, h1, h2, h3⟩ := h
  obtain ⟨c, hc, ec⟩ := item_neg (x := a) (i := k - 1) (by omega) (by omega)
  obtain ⟨d, hd, ed⟩ := item_neg (x := b) (i := k - 1) (by omega) (by omega)
  have := item_eq_iff ec ed he
  subst this
  refine ⟨by omega, by omega, by omega, ?_⟩
  have e1 : (a.length + k).toNat = (k - 1 + a.length).toNat + 1 := by omega
  have e2 : (b.length + k).toNat = (k - 1 + b.length).toNat + 1 := by omega
  have e3 : (a.length + (k - 1)).toNat = (k - 1 + a.length).toNat := by omega
  have e4 : (b.length + (k - 1)).toNat = (k - 1 + b.length).toNat := by omega
  rw [e1, e2] at h3
  rw [e3, e4]
  obtain ⟨l1, g1⟩ := List.getElem?_eq_some_iff.mp hc
  obtain ⟨l2, g2⟩ := List.getElem?_eq_some_iff.mp hd
  rw [List.drop_eq_getElem_cons l1, List.drop_eq_getElem_cons l2, g1, g2, h3]
/-- the text that a[:post or None] gives -/
def cutAt (x : Str) (k : Int) : Str := if k = 0 then Txt.slice x none none else Txt.slice x none (some k)
theorem cutAt_list {x : Str} {k : Int} (h0 : k ≤ 0) (h1 : -(x.length : Int) ≤ k) : (cutAt x k).cps.toList = x.cps.toList.take (x.length + k).toNat := by
  unfold cutAt
  by_cases h : k = 0
  · rw [if_pos h, slice_all, List.take_of_length_le]; rw [str_len]; omega
  · rw [if_neg h, slice_to_neg_list (by omega) h1]
theorem cutAt_len {x : Str} {k : Int} (h0 : k ≤ 0) (h1 : -(x.length : Int) ≤ k) : ((cutAt x k).length : Int) = x.length + k := by
  have := congrArg List.length (cutAt_list h0 h1)
  rw [str_len, List.length_take, str_len] at this
  omega
theorem W2.done {a b : Str} {k : Int} (h : W2 a b k) : lev (cutAt a k) (cutAt b k) = lev a b := by
  obtain ⟨h0, h1, h2, h3⟩ := h
  unfold lev
  rw [cutAt_list h0 h1, cutAt_list h0 h2]
  congr 1
  have := ed_post tcost_refl tcost_tri (a.cps.toList.take (a.length + k).toNat) (b.cps.toList.take (b.length + k).toNat) (a.cps.toList.drop (a.length + k).toNat)
  rw [List.take_append_drop, h3, List.take_append_drop] at this
  exact this.symm
theorem lev_empty {a b : Str} (h : a.length = 0 ∨ b.length = 0) : lev a b = 2 * ((a.length : Int) + b.length) := by
  unfold lev
  rcases h with h | h
  · have e : a.cps.toList = [] := List.eq_nil_of_length_eq_zero h
    rw [e, ed_nil_left, str_len, h]; omega
  · have e : b.cps.toList = [] := List.eq_nil_of_length_eq_zero h
    rw [e, ed_nil_right, str_len, h]; omega
theorem lev_symm (a b : Str) : lev a b = lev b a := by unfold lev; rw [ed_symm tcost_symm]
theorem lev_self (a : Str) : lev a a = 0 := by unfold lev; rw [ed_self tcost_refl]; rfl
theorem lev_zero (a b : Str) : lev a b = 0 ↔ a = b := by
  unfold lev
  constructor
  · intro h
    exact str_ext ((ed_zero tcost_refl tcost_zero _ _).mp (by omega))
  · intro h; subst h; exact lev_self a
theorem lev_tri (a b c : Str) : lev a c ≤ lev a b + lev b c := by
  unfold lev
  have := ed_tri tcost_tri a.cps.toList b.cps.toList c.cps.toList
  omega
theorem lev_ahead (p a b : Str) : lev (p ++ a) (p ++ b) = lev a b := by
  unfold lev
  have e : ∀ x y : Str, (x ++ y).cps.toList = x.cps.toList ++ y.cps.toList := fun x y => by simp [Str.cps_append]
  rw [e, e, ed_pre tcost_refl tcost_tri]
theorem lev_behind (p a b : Str) : lev (a ++ p) (b ++ p) = lev a b := by
  unfold lev
  have e : ∀ x y : Str, (x ++ y).cps.toList = x.cps.toList ++ y.cps.toList := fun x y => by simp [Str.cps_append]
  rw [e, e, ed_post tcost_refl tcost_tri]
end Mine
end
section
open PySem PySem.W PySem.Spec PySem.Calls PyProof.Rows
namespace Mine
theorem ints_of {f : Nat → Int} : ∀ {us : List Value} {k : Nat}, (∀ (j : Nat) (v : Value), us[j]? = some v → ∃ t, v = Value.int (f (k + j)) t) → IntsAre us ((List.range us.length).map fun j => f (k + j))
  | [], _, _ => .nil
  | v :: us, k, h => by
    obtain ⟨t, rfl⟩ := h 0 v rfl
    have ih := ints_of (f := f) (us := us) (k := k + 1) fun j v hj => by
      obtain ⟨t, e⟩ := h (j + 1) v (by simpa using hj)
      exact ⟨t, by rw [e]; congr 2; omega⟩
    rw [List.length_cons, List.range_succ_eq_map, List.map_cons, List.map_map]
    have e : (fun j => f (k + j)) ∘ Nat.succ = fun j => f (k + 1 + j) := by
      funext j
      show f (k + (j + 1)) = f (k + 1 + j)
      congr 1; omega
    rw [e]
    exact .cons _ t ih
theorem small_two {n : Nat} (h : n ≤ 40) : Builtin.Range.small 2 (2 * ((n : Int) + 1)) 2 = true := by
  have : n = 0 ∨ n = 1 ∨ n = 2 ∨ n = 3 ∨ n = 4 ∨ n = 5 ∨ n = 6 ∨ n = 7 ∨ n = 8 ∨ n = 9 ∨ n = 10 ∨ n = 11 ∨ n = 12 ∨ n = 13 ∨ n = 14 ∨ n = 15 ∨ n = 16 ∨ n = 17 ∨ n = 18 ∨ n = 19 ∨ n = 20 ∨ n = 21 ∨ n = 22 ∨ n = 23 ∨ n = 24 ∨ n = 25 ∨ n = 26 ∨ n = 27 ∨ n = 28 ∨ n = 29 ∨ n = 30 ∨ n = 31 ∨ n = 32 ∨ n = 33 ∨ n = 34 ∨ n = 35 ∨ n = 36 ∨ n = 37 ∨ n = 38 ∨ n = 39 ∨ n = 40 := by omega
  rcases this with h | h | h | h | h | h | h | h | h | h | h | h | h | h | h | h | h | h | h | h | h | h | h | h | h | h | h | h | h | h | h | h | h | h | h | h | h | h | h | h | h <;> (subst h; decide +kernel)
theorem size_two (n : Nat) : Builtin.Range.rangeSize 2 (2 * ((n : Int) + 1)) 2 = (n : Int) := by
  unfold Builtin.Range.rangeSize
  rw [if_pos (by decide)]
  split
  · omega
  · omega
section
variable {prog : Program} {w : World} {A : Around} {E : Value → Shared → Prop} {s : Shared} {h₀ : Heap} {L r : Addr} {m : Str → Option Value} {news : List (Addr × Obj)} {t₀ u₀ v₀ : Tok} {n : Nat} {Q : Value → Shared → Prop}
theorem row_range (hh : A.handled = none) (F : Fr h₀ L s.heap m) (N : News h₀ L s.heap news) (hr : IsRange s.heap r 2 (2 * ((n : Int) + 1)) 2 t₀ u₀ v₀) (hz : n ≤ 40)
    (h : ∀ D us c h' tk, Fr h₀ L h' m → News h₀ L h' ((D, listOf (List.toArray us) c) :: news) → (∀ p ∈ news, p.1 < D) → IntsAre us ((List.range n).map fun (j : Nat) => 2 + (j : Int) * 2) → Q (.ref D) { s with heap := h', toks := tk }) :
    wpAny (model prog w) A (call (.type "list") [.ref r]) Q E s := by
  refine call_list_range hh hr (small_two hz) (size_two n) (by omega) fun h' tk acc c hk hD hI => ?_
  have hD' : h'.get? s.heap.objs.size = some (listOf (List.toArray acc.toList) c) := by
    rw [Array.toArray_toList]
    exact hD
  refine h _ acc.toList c h' tk (F.keeps hk) (news_pushed F N hk hD' rfl) (fun p hp => Heap.lt_size (N p hp).1) ?_
  have hl : acc.toList.length = n := by rw [Array.length_toList]; exact hI.1
  have := ints_of (f := fun (j : Nat) => 2 + (j : Int) * 2) (us := acc.toList) (k := 0) fun j v hj => by
    rw [Nat.zero_add]
    exact hI.2 j v (by rw [← hj, Array.getElem?_toList])
  rw [hl] at this
  simpa using this
end
/-- the table's cell -/
def cell (a b : Str) (j i : Nat) : Int := (ed tcost (b.cps.toList.take j) (a.cps.toList.take i) : Int)
/-- the row while the sign j of b is at work, i cells done -/
def rowL (a b : Str) (j i : Nat) : List Int := (List.range a.length).map fun k => cell a b (if k < i then j + 1 else j) (k + 1)
theorem rowL_len (a b : Str) (j i : Nat) : (rowL a b j i).length = a.length := by simp [rowL]
theorem rowL_start (a b : Str) : rowL a b 0 0 = (List.range a.length).map fun (j : Nat) => 2 + (j : Int) * 2 := by
  unfold rowL
  refine List.map_congr_left fun k hk => ?_
  have hk := List.mem_range.mp hk
  unfold cell
  simp only [Nat.not_lt_zero, if_false, List.take_zero]
  rw [ed_nil_left, List.length_take, str_len]
  omega
theorem rowL_next (a b : Str) (j : Nat) : rowL a b j a.length = rowL a b (j + 1) 0 := by
  unfold rowL
  refine List.map_congr_left fun k hk => ?_
  have hk := List.mem_range.mp hk
  simp [hk]
theorem rowL_get {a b : Str} {j i : Nat} (h : i < a.length) : (rowL a b j i).getD i 0 = cell a b j (i + 1) := by
  unfold rowL
  rw [List.getD_eq_getElem?_getD, List.getElem?_map, List.getElem?_range h]
  simp
theorem rowL_set {a b : Str} {j i : Nat} {v : Int} (hv : v = cell a b (j + 1) (i + 1)) : (rowL a b j i).set i v = rowL a b j (i + 1) := by
  subst hv
  apply List.ext_getElem
  · simp [rowL]
  · intro k h1 h2
    rw [List.getElem_set]
    simp only [rowL, List.getElem_map, List.getElem_range]
    by_cases hk : i = k
    · subst hk
      simp
    · rw [if_neg hk]
      congr 1
      by_cases h3 : k < i
      · rw [if_pos h3, if_pos (by omega)]
      · rw [if_neg h3, if_neg (by omega)]
/-- what result holds ahead of cell i -/
def resAt (a b : Str) (j i : Nat) : Int := if i = 0 then 2 * (j : Int) else cell a b (j + 1) i
theorem cell_step {a b : Str} {j i : Nat} {x y : Nat} (hx : a.cps.toList[i]? = some x) (hy : b.cps.toList[j]? = some y) :
    min (min (resAt a b j i) (cell a b j (i + 1)) + 2) (cell a b j i + (tcost y x : Int)) = cell a b (j + 1) (i + 1) := by
  unfold cell
  exact dp_cell tcost_le hx hy rfl
theorem cell_zero {a b : Str} {j : Nat} (h : j ≤ b.length) : cell a b j 0 = 2 * (j : Int) := by
  unfold cell
  rw [List.take_zero, ed_nil_right, List.length_take, str_len]
  omega
theorem cell_le (a b : Str) (j i : Nat) (ha : a.length ≤ 40) (hb : b.length ≤ 40) : cell a b j i ≤ 160 := by
  unfold cell
  have := ed_le (s := tcost) (b.cps.toList.take j) (a.cps.toList.take i)
  rw [List.length_take, List.length_take, str_len, str_len] at this
  omega
theorem cell_nonneg (a b : Str) (j i : Nat) : 0 ≤ cell a b j i := by unfold cell; omega
theorem cell_all (a b : Str) : cell a b b.length a.length = lev a b := by
  unfold cell
  rw [List.take_of_length_le (by rw [str_len]; omega), List.take_of_length_le (by rw [str_len]; omega)]
  exact lev_symm b a
/-- what the turn puts into cell i, as the walk tells it -/
def nv (x y : Str) (j i : Nat) (dis res : Int) : Int :=
  if dis + scost (Txt.item y (0 + (j : Int))) (Txt.item x (0 + (i : Int))) < (if (rowL x y j i).getD (0 + (i : Int)).toNat 0 < res then (rowL x y j i).getD (0 + (i : Int)).toNat 0 else res) + 2
  then dis + scost (Txt.item y (0 + (j : Int))) (Txt.item x (0 + (i : Int)))
  else (if (rowL x y j i).getD (0 + (i : Int)).toNat 0 < res then (rowL x y j i).getD (0 + (i : Int)).toNat 0 else res) + 2
theorem nat0 (i : Nat) : (0 + (i : Int)).toNat = i := by omega
theorem nv_eq {x y : Str} {j i : Nat} {dis res : Int} (hi : i < x.length) (hj : j < y.length) (hr : res = resAt x y j i) (hd : dis = cell x y j i) : nv x y j i dis res = cell x y (j + 1) (i + 1) := by
  obtain ⟨c, hc, ec⟩ := item_pos (x := x) (i := 0 + (i : Int)) (by omega) (by omega)
  obtain ⟨d, hd', ed⟩ := item_pos (x := y) (i := 0 + (j : Int)) (by omega) (by omega)
  rw [nat0] at hc hd'
  have key := cell_step (a := x) (b := y) hc hd'
  unfold nv
  rw [nat0, rowL_get hi, ec, ed, scost_one, hd, hr]
  rw [← key]
  omega
theorem turn_row {x y : Str} {j i : Nat} {dis res : Int} {us : List Value} (h : IntsAre us ((rowL x y j i).set (0 + (i : Int)).toNat (nv x y j i dis res))) (hi : i < x.length) (hj : j < y.length) (hr : res = resAt x y j i) (hd : dis = cell x y j i) : IntsAre us (rowL x y j (i + 1)) := by
  rw [nat0, rowL_set (nv_eq hi hj hr hd)] at h
  exact h
theorem turn_res {x y : Str} {j i : Nat} {dis res : Int} (hi : i < x.length) (hj : j < y.length) (hr : res = resAt x y j i) (hd : dis = cell x y j i) : nv x y j i dis res = resAt x y j (i + 1) := by
  rw [nv_eq hi hj hr hd]
  unfold resAt
  rw [if_neg (Nat.succ_ne_zero i)]
theorem turn_dis {x y : Str} {j i : Nat} (hi : i < x.length) : (rowL x y j i).getD (0 + (i : Int)).toNat 0 = cell x y j (i + 1) := by
  rw [nat0, rowL_get hi]
theorem turn_min {x y : Str} {j i : Nat} {dis res : Int} (hx : x.length ≤ 40) (hy : y.length ≤ 40) (hi : i < x.length) (hj : j < y.length) (hr : res = resAt x y j i) (hd : dis = cell x y j i) : nv x y j i dis res ≤ 1000 := by
  rw [nv_eq hi hj hr hd]
  have := cell_le x y (j + 1) (i + 1) hx hy
  omega
theorem sub_led {β : Type} {e : β} {news own own2 : List β} : ∀ p ∈ e :: (news ++ own), p ∈ e :: (news ++ own ++ own2) := by
  intro p hp
  rcases List.mem_cons.mp hp with rfl | hp
  · exact List.mem_cons_self ..
  · exact List.mem_cons_of_mem _ (List.mem_append_left _ hp)
theorem own_led {β : Type} {e : β} {l own2 : List β} : ∀ p ∈ own2, p ∈ e :: (l ++ own2) := fun _ hp => List.mem_cons_of_mem _ (List.mem_append_right _ hp)
theorem top_led {β : Type} {e : β} {l own2 : List β} : ∀ p ∈ e :: l, p ∈ e :: (l ++ own2) := by
  intro p hp
  rcases List.mem_cons.mp hp with rfl | hp
  · exact List.mem_cons_self ..
  · exact List.mem_cons_of_mem _ (List.mem_append_left _ hp)
theorem len_snoc {β : Type} (l : List β) (v : β) : (l ++ [v]).length = l.length + 1 := by simp
end Mine
end
section
open PySem PySem.W PyProof.Rows
namespace Mine
set_option maxRecDepth 100000 in
set_option maxHeartbeats 8000000 in
theorem cost_claim (w : World) (mean : ExcName → Option Value) (mg mb : Str → Option Value) (news : List (Addr × Obj)) (x y : Str) (tx ty : Tok) :
   CbClaim Challenge.rw_kg0015_01.row.prog w (Mine.hd.heap_39 w.params) Mine.hd.view_39 (looseW Mine.hd.view_39 []) mean mg mb 21 news [] (x.length = 1 ∧ y.length = 1) [.str x tx, .str y ty] (fun t => .int (scost x y) t) := by
   w_top off
   k_fill
   dsimp only [CbClaim, CbLists, CbRet]; intros; rename_i hret
   refine wpAny_call ?_
   k_dflt cell_enter
   k_steps
   all_goals (refine cb_retI hret ?_ (by assumption) (by assumption); unfold scost; simp_all)
end Mine
end
section
open PySem PySem.W PyProof.Rows
namespace Mine
local macro_rules | `(tactic| walk_at "subscriptTail Name Slice str ref") => `(tactic| ((with_reducible show wpAny _ _ (subscriptTail _ (Expr.Slice none (some (Expr.BoolOp _ _ _)) none _) _ _) _ _ _); (with_reducible rename Fr _ _ _ _ => F'); (with_reducible rename News _ _ _ _ => N'); refine slice_strN_nn_len (s := ⟨_, _, _, _, _⟩) F' N' ?_; intro _ _ _ _ _ _))
local macro_rules | `(tactic| walk_at "KswEnd") => `(tactic| refine ksw_end ⟨_, _⟩ (by assumption) (by assumption) (fun p hp => hp) trivial (by kst_all) (by intro z h2 h3; simp only [List.forall_mem_cons, List.not_mem_nil, false_implies, implies_true, and_true, ne_eq] at h2; simp [kstB, h2]) ?_ ?_)
local macro_rules | `(tactic| walk_at "call type:list") => `(tactic| (k_here; (with_reducible show wpAny _ _ (call (Value.type "list") [Value.ref _]) _ _ _); k_dflt (refine' row_range ?k0 ?k1 ?k2 ?k3 ?k4 ?_; (case k0 => rfl); (case k1 => k_asm); (case k2 => k_asm); (case k3 => assumption); (case k4 => assumption); k_whole); intro D' us' c' h' tk' F' N' l1 hI'))
local macro_rules | `(tactic| walk_at "call ref") => `(tactic| (k_here; (with_reducible show wpAny _ _ (call (Value.ref 21) [Value.str _ _, Value.str _ _]) _ _ _); k_dflt (refine' cost_claim _ _ _ _ _ _ _ _ _ _ _ _ _ _ _ _ _ _ _ _ _ _ _ _ _ _ ?k1 ?k2 ?k3 ?k4 ?k5 ?k6 ?k7 ?k8 ?k9 ?_; (case k1 => k_asm); (case k2 => k_asm); (case k3 => k_asm); (case k4 => k_asm); (case k5 => k_asm); (case k6 => exact rfl); (case k7 => exact ⟨rfl, rfl⟩); (case k8 => ktr_room); (case k9 => ktr_units); intro t9 h9 tk9 F9 N9; (try dsimp only); (try k_fold))))
local macro_rules | `(tactic| walk_at "setItem ref int") => `(tactic| (k_here; k_dflt (refine' ksa_set ?k1 ?k2 (Upd.head ?k3) ?k4 ?k5 ?k6 ?k7 ?_; (case k1 => k_asm); (case k2 => k_asm); (case k3 => assumption); (case k4 => with_reducible assumption); (case k5 => omega); (case k6 => omega); (case k7 => omega); k_whole); intro h' F' N' hi' hl' hs'; clear hl' hs'))
local macro_rules | `(tactic| walk_at "ite") => `(tactic| with_reducible refine ite_bne_pos (by with_reducible assumption) ?_)
set_option maxRecDepth 100000 in
set_option maxHeartbeats 8000000 in
theorem lev_claim (w : World) (mean : ExcName → Option Value) (mg mb : Str → Option Value) (news : List (Addr × Obj)) (a b : Str) (ta tb tc : Tok)
    (dp un : Nat) (gd : Option (List Code)) (cn : Str) (cs : Scope) (a0 : Addr) (ccd : Value) (cl : List (Str × Addr)) (outer : List Env) (A₀ : Around) (base h₀ : Heap) (L₀ : Addr) (m₀ : Str → Option Value) (s : Shared) (Q E : Value → Shared → Prop)
    (B₀ : Below A₀ base outer h₀) (F₀ : Fr h₀ L₀ s.heap m₀) (X₀ : (Mine.hd.heap_39 w.params).In h₀) (N₀ : News h₀ L₀ s.heap news) (T₀ : Top Mine.hd.view_39 (looseW Mine.hd.view_39 []) mean mg mb h₀) (hkd : cs.kind = .function)
    (hlen : a.length ≤ 40 ∧ b.length ≤ 40) (hdp : dp + 4 < recursionLimit) (hun : un + 64 < cLine)
    (hret : ∀ (t : Tok) (h' : Heap) (tk' : Nat), Fr h₀ L₀ h' m₀ → News h₀ L₀ h' news → Q (.int (lev a b) t) { s with heap := h', toks := tk' }) :
    wpAny (model Challenge.rw_kg0015_01.row.prog w) (ktrTop dp un gd cn cs L₀ a0 ccd cl outer) (call (.ref 28) [.str a ta, .str b tb, .int 1000 tc]) Q E s := by
   w_top off
   revert X₀
   k_fill
   intro X₀
   obtain ⟨hla, hlb⟩ := hlen
   refine wpAny_call ?_
   k_dflt cell_enter
   rename_i g L h FG F N B X T
   refine cut (St g L news s [(Str.ofString "a", .str a ta), (Str.ofString "b", .str b tb), (Str.ofString "max_cost", .int 1000 tc)]) ?s1 ?s2
   case s1 =>
     k_steps
     · refine cb_retI hret ?_ (by assumption) (by assumption)
       rename_i hab _ _ _ _
       rw [eq_of_beq hab, lev_self]
     · exact St.intro (by assumption) (by assumption) (by kst_all)
   case s2 =>
   clear F N
   rintro s' ⟨h, tk, u, rfl, F, N⟩
   refine cut (StX (σ := Tok) g L (fun _ => news) s (fun _ => True) (fun t => [(Str.ofString "a", .str a ta), (Str.ofString "b", .str b tb), (Str.ofString "max_cost", .int 1000 tc), (Str.ofString "pre", .int 0 t)])) ?s1 ?s2
   case s1 =>
     k_steps
     exact StX.intro _ (by assumption) (by assumption) (by kst_all) trivial
   case s2 =>
   clear F N
   rintro s' ⟨tp, -, h, tk, u, rfl, F, N⟩
   refine cut (StX (σ := Int × Tok) g L (fun _ => news) s (fun c => W1 a b c.1) (fun c => [(Str.ofString "a", .str a ta), (Str.ofString "b", .str b tb), (Str.ofString "max_cost", .int 1000 tc), (Str.ofString "pre", .int c.1 c.2)])) ?s1 ?s2
   case s1 =>
     refine ksw_while (σ := Int × Tok) (fun _ => news) (fun c => [(Str.ofString "pre", .int c.1 c.2)]) (fun _ => True) [] (fun c => W1 a b c.1) (fun c => a.length - c.1.toNat) (0, tp) F N trivial ?hk ?hp ?turn
     case hk => kst_all
     case hp => exact W1.start a b
     case turn =>
       clear F N
       rintro ⟨i, t⟩ u h tk - hW F N
       dsimp only at hW F N ⊢
       k_fold
       obtain ⟨h0, h1, h2, -⟩ := id hW
       k_steps
       · exact hW.step (by omega) (by omega) (by assumption)
       · exact StX.intro (i, t) (by assumption) (by assumption) (by kst_all) hW
       · exact StX.intro (i, t) (by assumption) (by assumption) (by kst_all) hW
       · exact StX.intro (i, t) (by assumption) (by assumption) (by kst_all) hW
   case s2 =>
   clear F N
   rintro s' ⟨⟨i, t⟩, hW, h, tk, u, rfl, F, N⟩
   dsimp only at hW F N
   refine cut (StX (σ := Str × Tok) g L (fun _ => news) s (fun c => c.1 = Txt.slice a (some i) none) (fun c => [(Str.ofString "a", .str c.1 c.2), (Str.ofString "b", .str b tb), (Str.ofString "max_cost", .int 1000 tc), (Str.ofString "pre", .int i t)])) ?s1 ?s2
   case s1 =>
     k_steps
     exact StX.intro (Txt.slice a (some i) none, _) (by assumption) (by assumption) (by kst_all) rfl
   case s2 =>
   clear F N
   rintro s' ⟨⟨a1, ta1⟩, ha1, h, tk, u, rfl, F, N⟩
   dsimp only at ha1 F N
   refine cut (StX (σ := Str × Tok) g L (fun _ => news) s (fun c => c.1 = Txt.slice b (some i) none) (fun c => [(Str.ofString "a", .str a1 ta1), (Str.ofString "b", .str c.1 c.2), (Str.ofString "max_cost", .int 1000 tc)])) ?s1 ?s2
   case s1 =>
     k_steps
     exact StX.intro (Txt.slice b (some i) none, _) (by assumption) (by assumption) (by kst_all) rfl
   case s2 =>
   clear F N
   rintro s' ⟨⟨b1, tb1⟩, hb1, h, tk, u, rfl, F, N⟩
   dsimp only at hb1 F N
   have hR : lev a1 b1 = lev a b := by rw [ha1, hb1]; exact hW.done
   have hla1 : a1.length ≤ 40 := by have := Txt.slice_le a (some i) none; rw [← ha1] at this; omega
   have hlb1 : b1.length ≤ 40 := by have := Txt.slice_le b (some i) none; rw [← hb1] at this; omega
   rw [← hR] at hret
   clear hR hW ha1 hb1 hla hlb
   refine cut (StX (σ := Tok) g L (fun _ => news) s (fun _ => True) (fun c => [(Str.ofString "a", .str a1 ta1), (Str.ofString "b", .str b1 tb1), (Str.ofString "max_cost", .int 1000 tc), (Str.ofString "post", .int 0 c)])) ?s1 ?s2
   case s1 =>
     k_steps
     exact StX.intro _ (by assumption) (by assumption) (by kst_all) trivial
   case s2 =>
   clear F N
   rintro s' ⟨tp, -, h, tk, u, rfl, F, N⟩
   dsimp only at F N
   refine cut (StX (σ := Int × Tok) g L (fun _ => news) s (fun c => W2 a1 b1 c.1) (fun c => [(Str.ofString "a", .str a1 ta1), (Str.ofString "b", .str b1 tb1), (Str.ofString "max_cost", .int 1000 tc), (Str.ofString "post", .int c.1 c.2)])) ?s1 ?s2
   case s1 =>
     refine ksw_while (σ := Int × Tok) (fun _ => news) (fun c => [(Str.ofString "post", .int c.1 c.2)]) (fun _ => True) [] (fun c => W2 a1 b1 c.1) (fun c => (a1.length + c.1).toNat) (0, tp) F N trivial ?hk ?hp ?turn
     case hk => kst_all
     case hp => exact W2.start a1 b1
     case turn =>
       clear F N
       rintro ⟨k, t⟩ u h tk - hW F N
       dsimp only at hW F N ⊢
       k_fold
       obtain ⟨h0, h1, h2, -⟩ := id hW
       have hla2 := slice_all a1
       have hlb2 := slice_all b1
       by_cases hk0 : k = 0
       · subst hk0
         have hfa := congrArg Str.length (slice_all a1)
         have hfb := congrArg Str.length (slice_all b1)
         k_steps
         · exact hW.step (by omega) (by omega) (by assumption)
         · exact StX.intro (0, t) (by assumption) (by assumption) (by kst_all) hW
         · exact StX.intro (0, t) (by assumption) (by assumption) (by kst_all) hW
         · exact StX.intro (0, t) (by assumption) (by assumption) (by kst_all) hW
       · have hfa := len_to_neg (x := a1) (k := k) (by omega) h1
         have hfb := len_to_neg (x := b1) (k := k) (by omega) h2
         k_steps
         · exact hW.step (by omega) (by omega) (by assumption)
         · exact StX.intro (k, t) (by assumption) (by assumption) (by kst_all) hW
         · exact StX.intro (k, t) (by assumption) (by assumption) (by kst_all) hW
         · exact StX.intro (k, t) (by assumption) (by assumption) (by kst_all) hW
   case s2 =>
   clear F N
   rintro s' ⟨⟨k, t⟩, hW, h, tk, u, rfl, F, N⟩
   dsimp only at hW F N
   refine cut (StX (σ := Str × Tok) g L (fun _ => news) s (fun c => c.1 = cutAt a1 k) (fun c => [(Str.ofString "a", .str c.1 c.2), (Str.ofString "b", .str b1 tb1), (Str.ofString "max_cost", .int 1000 tc), (Str.ofString "post", .int k t)])) ?s1 ?s2
   case s1 =>
     by_cases hk0 : k = 0
     · subst hk0
       k_steps
       exact StX.intro (Txt.slice a1 none none, _) (by assumption) (by assumption) (by kst_all) rfl
     · k_steps
       exact StX.intro (Txt.slice a1 none (some k), _) (by assumption) (by assumption) (by kst_all) (by dsimp only; unfold cutAt; rw [if_neg hk0])
   case s2 =>
   clear F N
   rintro s' ⟨⟨a2, ta2⟩, ha2, h, tk, u, rfl, F, N⟩
   dsimp only at ha2 F N
   refine cut (StX (σ := Str × Tok) g L (fun _ => news) s (fun c => c.1 = cutAt b1 k) (fun c => [(Str.ofString "a", .str a2 ta2), (Str.ofString "b", .str c.1 c.2), (Str.ofString "max_cost", .int 1000 tc)])) ?s1 ?s2
   case s1 =>
     by_cases hk0 : k = 0
     · subst hk0
       k_steps
       exact StX.intro (Txt.slice b1 none none, _) (by assumption) (by assumption) (by kst_all) rfl
     · k_steps
       exact StX.intro (Txt.slice b1 none (some k), _) (by assumption) (by assumption) (by kst_all) (by dsimp only; unfold cutAt; rw [if_neg hk0])
   case s2 =>
   clear F N
   rintro s' ⟨⟨b2, tb2⟩, hb2, h, tk, u, rfl, F, N⟩
   dsimp only at hb2 F N
   have hR : lev a2 b2 = lev a1 b1 := by rw [ha2, hb2]; exact hW.done
   have hla2 : a2.length ≤ 40 := by have := cutAt_len hW.1 hW.2.1; rw [← ha2] at this; have := hW.1; omega
   have hlb2 : b2.length ≤ 40 := by have := cutAt_len hW.1 hW.2.2.1; rw [← hb2] at this; have := hW.1; omega
   rw [← hR] at hret
   clear hR hW ha2 hb2 hla1 hlb1
   refine cut (StX (σ := Unit) g L (fun _ => news) s (fun _ => 1 ≤ a2.length ∧ 1 ≤ b2.length) (fun _ => [(Str.ofString "a", .str a2 ta2), (Str.ofString "b", .str b2 tb2), (Str.ofString "max_cost", .int 1000 tc)])) ?s1 ?s2
   case s1 =>
     k_steps
     · exact StX.intro () (by assumption) (by assumption) (by kst_all) (by constructor <;> omega)
     · exact cb_retI hret (lev_empty (by omega)).symm (by assumption) (by assumption)
     · exact cb_retI hret (lev_empty (by omega)).symm (by assumption) (by assumption)
   case s2 =>
   clear F N
   rintro s' ⟨_, ⟨hpa, hpb⟩, h, tk, u, rfl, F, N⟩
   dsimp only at F N
   refine cut (StX (σ := Unit) g L (fun _ => news) s (fun _ => True) (fun _ => [(Str.ofString "a", .str a2 ta2), (Str.ofString "b", .str b2 tb2), (Str.ofString "max_cost", .int 1000 tc)])) ?s1 ?s2
   case s1 =>
     k_steps
     exact StX.intro () (by assumption) (by assumption) (by kst_all) trivial
   case s2 =>
   clear F N
   rintro s' ⟨_, -, h, tk, u, rfl, F, N⟩
   dsimp only at F N
   refine cut (StX (σ := Str × Tok × Str × Tok) g L (fun _ => news) s (fun c => lev c.1 c.2.2.1 = lev a2 b2 ∧ (1 ≤ c.1.length ∧ c.1.length ≤ 40) ∧ (1 ≤ c.2.2.1.length ∧ c.2.2.1.length ≤ 40)) (fun c => [(Str.ofString "a", .str c.1 c.2.1), (Str.ofString "b", .str c.2.2.1 c.2.2.2), (Str.ofString "max_cost", .int 1000 tc)])) ?s1 ?s2
   case s1 =>
     k_steps
     · refine StX.intro (b2, tb2, a2, ta2) (by assumption) ?_ (by kst_all) ⟨lev_symm _ _, ⟨hpb, hlb2⟩, hpa, hla2⟩
       rename News _ _ _ _ => hN9
       exact fun p hp => hN9 p (List.mem_cons_of_mem _ hp)
     · exact StX.intro (a2, ta2, b2, tb2) (by assumption) (by assumption) (by kst_all) ⟨rfl, ⟨hpa, hla2⟩, hpb, hlb2⟩
   case s2 =>
   clear F N
   rintro s' ⟨⟨x, tx, y, ty⟩, ⟨hR, ⟨hx1, hx2⟩, hy1, hy2⟩, h, tk, u, rfl, F, N⟩
   dsimp only at hR hx1 hx2 hy1 hy2 F N
   rw [← hR] at hret
   refine cut (StX (σ := Unit) g L (fun _ => news) s (fun _ => True) (fun _ => [(Str.ofString "a", .str x tx), (Str.ofString "b", .str y ty), (Str.ofString "max_cost", .int 1000 tc)])) ?s1 ?s2
   case s1 =>
     k_steps
     exact StX.intro () (by assumption) (by assumption) (by kst_all) trivial
   case s2 =>
   clear F N
   rintro s' ⟨_, -, h, tk, u, rfl, F, N⟩
   dsimp only at F N
   refine cut (StX (σ := Addr × List Value × Nat) g L (fun c => (c.1, listOf c.2.1.toArray c.2.2) :: news) s (fun c => (∀ p ∈ news, p.1 < c.1) ∧ IntsAre c.2.1 (rowL x y 0 0)) (fun c => [(Str.ofString "a", .str x tx), (Str.ofString "b", .str y ty), (Str.ofString "max_cost", .int 1000 tc), (Str.ofString "row", .ref c.1)])) ?s1 ?s2
   case s1 =>
     k_steps
     refine StX.intro (_, _, _) (by assumption) (by assumption) (by kst_all) ⟨by assumption, ?_⟩
     rw [rowL_start]
     assumption
   case s2 =>
   clear F N
   rintro s' ⟨⟨D, us, nn⟩, ⟨hD, hI⟩, h, tk, u, rfl, F, N⟩
   dsimp only at hD hI F N
   refine cut (StX (σ := Tok) g L (fun c => (D, listOf us.toArray nn) :: news) s (fun c => True) (fun c => [(Str.ofString "a", .str x tx), (Str.ofString "b", .str y ty), (Str.ofString "max_cost", .int 1000 tc), (Str.ofString "row", .ref D), (Str.ofString "result", .int 0 c)])) ?s1 ?s2
   case s1 =>
     k_steps
     exact StX.intro _ (by assumption) (by assumption) (by kst_all) trivial
   case s2 =>
   clear F N
   rintro s' ⟨tr, -, h, tk, u, rfl, F, N⟩
   dsimp only at F N
   refine cut (StX (σ := Tok) g L (fun c => news) s (fun c => True) (fun c => [(Str.ofString "result", .int (lev x y) c)])) ?s1 ?s2
   case s1 =>
     have hmk := kstMark
     refine For_invVF F rfl rfl ?_
     repeat ((fail_if_success (with_reducible show wpAny _ _ (pyIter _) _ _ _)); first | walk1 | (dsimp only; walk1))
     rename IsRange _ _ _ _ _ _ _ _ => hrg
     rename Fr _ _ _ _ => F
     rename News _ _ _ _ => N
     refine kst_range (σ := List Value × Nat × Int × Tok) (fun c => (D, listOf c.1.toArray c.2.1) :: news) (fun c => [(Str.ofString "result", .int c.2.2.1 c.2.2.2)]) (fun _ => True) [Str.ofString "bchar", Str.ofString "distance", Str.ofString "minimum", Str.ofString "index", Str.ofString "substitute", Str.ofString "insert_delete"] (fun pre c => IntsAre c.1 (rowL x y pre.length 0) ∧ (1 ≤ pre.length → c.2.2.1 = cell x y pre.length x.length)) (us, nn, 0, tr) rfl hrg (small_one (by omega) (by omega) (by omega) (by omega)) (rangeSize_nat _ _) F N trivial ?hk ?hp ?turn ?done
     case hk => kst_all
     case hp => exact ⟨by assumption, fun h => absurd h (by decide)⟩
     case done =>
       clear hrg F N
       rintro ⟨us1, n1, res, tres⟩ u h tk - ⟨hI1, hres⟩ F N
       dsimp only at hI1 hres F N
       have e9 : (rangeKs 0 ((y.length : Int) - 0).toNat).length = y.length := by rw [rangeKs_length]; omega
       rw [e9, cell_all] at hres
       have hr9 := hres hy1
       subst hr9
       exact StX.intro tres F (fun p hp => N p (List.mem_cons_of_mem _ hp)) (by kst_all) trivial
     case turn =>
       clear hrg F N
       rintro ⟨us1, n1, res, tres⟩ pre k t u h tk own rfl hlt hoff - ⟨hI1, hres⟩ F N
       dsimp only at hI1 hres F
       k_fold
       replace N : News g L h ((D, listOf us1.toArray n1) :: (news ++ own)) := N
       have hj : pre.length < y.length := by omega
       repeat ((fail_if_success (with_reducible show wpAny _ _ (exec (Stmt.For _ _ _ _ _) _) _ _ _)); first | (k_unfold; (try dsimp only)) | walk1 | (dsimp only; walk1))
       rename Fr _ _ _ _ => F
       refine For_invVF F rfl rfl ?_
       repeat ((fail_if_success (with_reducible show wpAny _ _ (pyIter _) _ _ _)); first | walk1 | (dsimp only; walk1))
       rename IsRange _ _ _ _ _ _ _ _ => hrg
       rename Fr _ _ _ _ => F
       rename News _ _ _ _ => N
       refine' kst_range (σ := List Value × Nat × (Int × Tok) × (Int × Tok) × (Int × Tok)) (fun c => (D, listOf c.1.toArray c.2.1) :: (news ++ own)) (fun c => [(Str.ofString "result", .int c.2.2.1.1 c.2.2.1.2), (Str.ofString "distance", .int c.2.2.2.1.1 c.2.2.2.1.2), (Str.ofString "minimum", .int c.2.2.2.2.1 c.2.2.2.2.2)]) (fun _ => True) [Str.ofString "substitute", Str.ofString "insert_delete"] (fun pr c => IntsAre c.1 (rowL x y pre.length pr.length) ∧ c.2.2.1.1 = resAt x y pre.length pr.length ∧ c.2.2.2.1.1 = cell x y pre.length pr.length ∧ (1 ≤ pr.length → c.2.2.2.2.1 ≤ 1000)) (us1, n1, ((0 + (pre.length : Int)) * 2, _), ((0 + (pre.length : Int)) * 2, _), (9223372036854775807, _)) rfl hrg (small_one (by omega) (by omega) (by omega) (by omega)) (rangeSize_nat _ _) F N trivial ?hk ?hp ?turn ?done
       case hk => kst_all
       case hp =>
         refine ⟨by assumption, ?_, ?_, fun h => absurd h (by decide)⟩
         · show (0 + (pre.length : Int)) * 2 = resAt x y pre.length 0
           unfold resAt; rw [if_pos rfl]; omega
         · show (0 + (pre.length : Int)) * 2 = cell x y pre.length 0
           rw [cell_zero (by omega)]; omega
       case done =>
         clear hrg F N
         rintro ⟨us2, n2, ⟨res2, tres2⟩, ⟨dis2, tdis2⟩, mi2, tmi2⟩ u h tk - ⟨hI2, hres2, hdis2, hmi2⟩ F N
         dsimp only at hI2 hres2 hdis2 hmi2 F N
         dsimp only
         try k_fold
         have e9 : (rangeKs 0 ((x.length : Int) - 0).toNat).length = x.length := by rw [rangeKs_length]; omega
         rw [e9] at hI2 hres2 hdis2 hmi2
         have hmi := hmi2 hx1
         rw [rowL_next] at hI2
         have hres3 : res2 = cell x y (pre.length + 1) x.length := by
           rw [hres2]
           unfold resAt
           rw [if_neg (by omega)]
         k_steps
         refine kst_end (us2, n2, res2, tres2) (by assumption) (by assumption) top_led own_led rfl trivial (by kst_all) (by intro z h1 h2 h3; have h3' := h3; simp only [List.forall_mem_cons, List.not_mem_nil, false_implies, implies_true, and_true, ne_eq] at h2; simp only [List.contains_cons, List.contains_nil, Bool.or_false, Bool.or_eq_false_iff, beq_eq_false_iff_ne, ne_eq] at h3; simp [kstB, h1, h2, h3]) ?_
         dsimp only
         rw [len_snoc]
         exact ⟨by assumption, fun _ => by assumption⟩
       case turn =>
         clear hrg F N
         rintro ⟨us2, n2, ⟨res2, tres2⟩, ⟨dis2, tdis2⟩, mi2, tmi2⟩ pr k t u h tk own2 rfl hlt2 hoff2 - ⟨hI2, hres2, hdis2, hmi2⟩ F N
         dsimp only at hI2 hres2 hdis2 hmi2 F
         k_fold
         replace N : News g L h ((D, listOf us2.toArray n2) :: (news ++ own ++ own2)) := N
         have hne : ∀ p ∈ news ++ own ++ own2, p.1 ≠ D := apart hD hoff hoff2
         have hi : pr.length < x.length := by omega
         have hrl := rowL_len x y pre.length pr.length
         k_steps
         · refine kst_end (us2.set (0 + (pr.length : Int)).toNat (Value.int (nv x y pre.length pr.length dis2 res2) _), n2, (nv x y pre.length pr.length dis2 res2, _), ((rowL x y pre.length pr.length).getD (0 + (pr.length : Int)).toNat 0, _), (nv x y pre.length pr.length dis2 res2, _)) (by assumption) (by assumption) sub_led own_led rfl trivial (by kst_all) (by intro z h1 h2 h3; have h3' := h3; simp only [List.forall_mem_cons, List.not_mem_nil, false_implies, implies_true, and_true, ne_eq] at h2; simp only [List.contains_cons, List.contains_nil, Bool.or_false, Bool.or_eq_false_iff, beq_eq_false_iff_ne, ne_eq] at h3; simp [kstB, h1, h2, h3]) ?_
           dsimp only
           rw [len_snoc]
           exact ⟨turn_row (by assumption) hi hj hres2 hdis2, turn_res hi hj hres2 hdis2, turn_dis hi, fun _ => turn_min hx2 hy2 hi hj hres2 hdis2⟩
         · refine kst_end (us2.set (0 + (pr.length : Int)).toNat (Value.int (nv x y pre.length pr.length dis2 res2) _), n2, (nv x y pre.length pr.length dis2 res2, _), ((rowL x y pre.length pr.length).getD (0 + (pr.length : Int)).toNat 0, _), (mi2, _)) (by assumption) (by assumption) sub_led own_led rfl trivial (by kst_all) (by intro z h1 h2 h3; have h3' := h3; simp only [List.forall_mem_cons, List.not_mem_nil, false_implies, implies_true, and_true, ne_eq] at h2; simp only [List.contains_cons, List.contains_nil, Bool.or_false, Bool.or_eq_false_iff, beq_eq_false_iff_ne, ne_eq] at h3; simp [kstB, h1, h2, h3]) ?_
           dsimp only
           rw [len_snoc]
           refine ⟨turn_row (by assumption) hi hj hres2 hdis2, turn_res hi hj hres2 hdis2, turn_dis hi, fun _ => ?_⟩
           have h9 := turn_min hx2 hy2 hi hj hres2 hdis2
           have h8 : ¬ nv x y pre.length pr.length dis2 res2 < mi2 := by assumption
           omega
   case s2 =>
   clear F N
   rintro s' ⟨tr, -, h, tk, u, rfl, F, N⟩
   dsimp only at F N
   k_steps
   exact cb_retI hret rfl (by assumption) (by assumption)

end Mine
end
section
open PySem PySem.W PySem.Spec PySem.Calls PyProof.Rows
namespace Mine
/-- an element of a comprehension that is a text of at most (least) so many signs, the ledger as it was -/
def El (news : List (Addr × Obj)) (lo hi : Nat) (y : Value) (news' : List (Addr × Obj)) : Prop := news' = news ∧ ∃ (r : Str) (t : Tok), y = .str r t ∧ lo ≤ r.length ∧ r.length ≤ hi
section
variable {prog : Program} {w : World} {A : Around} {h₀ : Heap} {L : Addr} {m : Str → Option Value} {env : Env} {elt : Expr} {x : Str} {scope : Scope} {cl : List (Str × Addr)} {s : Shared} {S : List (Addr × Obj) → Prop} {P : Nat → Value → Prop} {Fin : List Value → List (Addr × Obj) → Prop} {news : List (Addr × Obj)}
theorem comp_strs {n lo hi : Nat} {ok : Int → Prop} (hP : ∀ i v, i < n → P i v → ∃ k t, ok k ∧ v = .int k t)
    (turn : ∀ k t I oI C oC D m₂ ys h tk (E' : Value → Shared → Prop), ok k → LCg.NsObj oC m₂ → m₂ x = some (.int k t) → Fr h₀ L h m → News h₀ L h ((I, oI) :: (C, oC) :: (D, LCg.lst ys) :: news) → LCg.Off3 I C D news → ((@Ne Nat I C) ∧ (@Ne Nat I D) ∧ (@Ne Nat C D)) →
      wpAny (model prog w) A (eval elt (compEnvC scope cl C env)) (LCg.CompEnd h₀ L m { s with heap := h, toks := tk } I oI C oC D (LCg.lst ys) S (fun y news' => El news lo hi y news')) E' { s with heap := h, toks := tk })
    (fin : ∀ ys rs, StrsAre ys rs → rs.length = n → (∀ r ∈ rs, lo ≤ r.length ∧ r.length ≤ hi) → Fin ys news) : LCg.CompRest prog w A h₀ L m env elt x scope cl s S P Fin n 0 [] news := by
  have key : ∀ (j i : Nat) (ys : List Value) (rs : List Str), i + j = n → StrsAre ys rs → rs.length = i → (∀ r ∈ rs, lo ≤ r.length ∧ r.length ≤ hi) → LCg.CompRest prog w A h₀ L m env elt x scope cl s S P Fin j i ys news := by
    intro j
    induction j with
    | zero =>
      intro i ys rs hi' hy hl hr
      exact LCg.CompRest.zero (fin ys rs hy (by omega) hr)
    | succ j ih =>
      intro i ys rs hi' hy hl hr
      refine LCg.CompRest.succ ?_
      intro v I oI C oC D m₂ h tk E' hv hC hx F N off ne
      obtain ⟨k, t, hk, hv'⟩ := hP i v (by omega) hv
      rw [hv'] at hx
      refine wpAny_mono (turn k t I oI C oC D m₂ ys h tk E' hk hC hx F N off ne) (fun y s₂ hq => ?_) fun _ _ e => e
      obtain ⟨h', tk', nw, e, F', N', off', hS, hn, r, t', hy', hlo, hhi⟩ := hq
      rw [hn] at N' off' hS
      refine ⟨h', tk', news, e, F', N', off', hS, ?_⟩
      rw [hy']
      refine ih (i + 1) _ (rs ++ [r]) (by omega) (kct_snoc hy) (by simp [hl]) fun q hq => ?_
      rcases List.mem_append.mp hq with hq | hq
      · exact hr q hq
      · rw [List.mem_singleton.mp hq]; exact ⟨hlo, hhi⟩
  exact key n 0 [] [] (by omega) .nil rfl (fun _ h => nomatch h)
end
theorem strs_three {ys : List Value} {rs : List Str} (h : StrsAre ys rs) (hn : rs.length = 3) : ∃ (a : Str) (ta : Tok) (b : Str) (tb : Tok) (c : Str) (tc : Tok), ys = [.str a ta, .str b tb, .str c tc] ∧ rs = [a, b, c] := by
  cases h with
  | nil => simp at hn
  | cons a ta h =>
    cases h with
    | nil => simp at hn
    | cons b tb h =>
      cases h with
      | nil => simp at hn
      | cons c tc h =>
        cases h with
        | nil => exact ⟨a, ta, b, tb, c, tc, rfl, rfl⟩
        | cons d td h => simp at hn
theorem law_zero {a b : Str} (h : ((lev a b == 0) != (a == b)) = true) : False := by
  have e : (lev a b == 0) = (a == b) := by
    rw [Bool.eq_iff_iff]
    simp only [beq_iff_eq]
    exact lev_zero a b
  rw [e] at h
  cases hq : (a == b) <;> rw [hq] at h <;> cases h
theorem len_app (x y : Str) : (x ++ y).length = x.length + y.length := Str.length_append x y
theorem one_len (n : Nat) : (Str.mk #[n]).length = 1 := rfl
end Mine
end
section
open PySem PySem.W PyProof.Rows
namespace Mine
local macro_rules | `(tactic| walk_at "call ref") => `(tactic| (k_here; (with_reducible show wpAny _ _ (call (Value.ref 28) [Value.str _ _, Value.str _ _, Value.int _ _]) _ _ _); k_dflt (refine' lev_claim _ _ _ _ _ _ _ _ _ _ _ _ _ _ _ _ _ _ _ _ _ _ _ _ _ _ _ ?k1 ?k2 ?k3 ?k4 ?k5 ?k6 ?k7 ?k8 ?k9 ?_; (case k1 => k_asm); (case k2 => k_asm); (case k3 => k_asm); (case k4 => k_asm); (case k5 => k_asm); (case k6 => exact rfl); (case k7 => constructor <;> omega); (case k8 => decide); (case k9 => decide); intro t9 h9 tk9 F9 N9; (try dsimp only); (try k_fold))))
set_option maxRecDepth 100000 in
set_option maxHeartbeats 8000000 in
theorem law_holds : PySem.Challenge.rw_kg0015_01.Holds := Mine.hd (by
  w_strict (
   k_go0
   k_fold
   rename Fr _ _ _ _ => F
   rename News _ _ _ _ => N
   rename IntsAre _ _ => hInts
   rename (¬ ((63 : Nat) : Int) < _) => hMost
   have hvl := hInts.length
   obtain ⟨m, F⟩ : ∃ m, Fr _ _ _ m := ⟨_, F⟩
   refine wpAny_execs_cons ?_
   walk1
   k_dflt (refine LCg.ListComp_U (F₀ := F) (by with_unfolding_all rfl) (by decide) (by rfl) (by decide) (by rfl) ?_)
   repeat ((fail_if_success (with_reducible show LCg.CompSrc _ _ _ _ _ _ _ _ _ _ _ _ _ _)); first | walk1 | (dsimp only; walk1))
   refine LCg.CompSrc.range (n := 3) (by rfl) (by k_asm) (by k_asm) (by assumption) (by decide) (by rfl) (by exact Nat.le_of_ble_eq_true rfl) ?_
   intro g'
   dsimp only
   refine comp_strs (lo := 0) (hi := 39) (ok := fun k => 0 ≤ k ∧ k < 3) ?hP ?turn ?fin
   case hP =>
     rintro i v hi ⟨t, rfl⟩
     exact ⟨_, _, ⟨by omega, by omega⟩, rfl⟩
   case fin =>
     intro ys rs hS hn hr
     obtain ⟨a, ta, b, tb, c, tc, rfl, rfl⟩ := strs_three hS hn
     have hla := (hr a (by simp)).2
     have hlb := (hr b (by simp)).2
     have hlc := (hr c (by simp)).2
     clear hr
     unfold LCg.FinE
     intro D h tk F N o1
     dsimp only
     repeat ((fail_if_success (with_reducible show wpAny _ _ (execs _ _) _ _ _)); first | (k_unfold; (try dsimp only)) | walk1 | (dsimp only; walk1))
     repeat ((fail_if_success (with_reducible show wpAny _ _ (execs (Stmt.If _ _ _ _ :: _) _) _ _ _)); first | (k_unfold; (try dsimp only)) | walk1 | (dsimp only; walk1))
     rename Shared => s1
     refine cut (StX (σ := Tok) s1.heap s1.heap.objs.size (fun _ => []) s1 (fun _ => True) (fun t => [(Str.ofString "a", .str a ta), (Str.ofString "b", .str b tb), (Str.ofString "one", .int (lev a b) t)])) ?s1 ?s2
     case s1 =>
       k_steps
       · exact (law_zero (by assumption)).elim
       · exact absurd (lev_symm a b) (by assumption)
       · have h9 := lev_tri a b c
         omega
       · exact StX.intro _ (by assumption) (fun _ h => nomatch h) (by kst_all) trivial
     case s2 =>
     rintro s' ⟨to, -, h, tk, u, rfl, F, N⟩
     dsimp only at F N
     refine wpAny_execs_cons ?_
     refine For_invVF F rfl rfl ?_
     repeat ((fail_if_success (with_reducible show wpAny _ _ (pyIter _) _ _ _)); first | walk1 | (dsimp only; walk1))
     rename Fr _ _ _ _ => F
     rename News _ _ _ _ => N
     refine KStt.kst_text (σ := Unit) (fun _ => []) (fun _ => []) (fun _ => True) [Str.ofString "ahead"] (fun _ _ => True) () rfl F N trivial (fun _ h => nomatch h) trivial ?tturn ?tdone
     case tdone =>
       clear F N
       rintro _ u h tk - - F N
       dsimp only at F N ⊢
       k_steps
     case tturn =>
       clear F N
       rintro _ pre post n t u h tk own - hoff - - F N
       try dsimp only at F
       k_fold
       have e1 := len_app (Str.mk #[n]) a
       have e2 := len_app (Str.mk #[n]) b
       have e3 := len_app a (Str.mk #[n])
       have e4 := len_app b (Str.mk #[n])
       rw [one_len] at e1 e2 e3 e4
       k_steps
       · exact absurd (lev_ahead (Str.mk #[n]) a b) (by assumption)
       · exact absurd (lev_behind (Str.mk #[n]) a b) (by assumption)
       · exact kst_end () (by assumption) (by assumption) (fun _ h => nomatch h) (fun p hp => hp) rfl trivial (fun _ h => nomatch h) (by intro z h1 h2 h3; have h3' := h3; simp only [List.contains_cons, List.contains_nil, Bool.or_false, Bool.or_eq_false_iff, beq_eq_false_iff_ne, ne_eq] at h3; simp [kstB, h1, h3]) trivial
   case turn =>
     rintro k t I oI C oC D m₂ ys h tk E' ⟨hk0, hk1⟩ hC hx F9 N9 off ne
     dsimp only
     k_fold
     have off0 := off
     simp only [LCg.Off3, and_true] at off
     repeat ((fail_if_success (with_reducible show wpAny _ _ (eval (Expr.ListComp _ _ _ _) _) _ _ _)); first | walk1 | (dsimp only; walk1))
     k_dflt (refine LCg.ListComp_U (F₀ := by k_asm) (by with_unfolding_all rfl) (by decide) (by rfl) (by decide) (by rfl) ?_)
     repeat ((fail_if_success (with_reducible show LCg.CompSrc _ _ _ _ _ _ _ _ _ _ _ _ _ _)); first | walk1 | (dsimp only; walk1))
     have hpk := IntsAre.pick hInts (some k) none (some 3)
     refine LCg.CompSrc.ledger (by rfl) (by k_asm) (by k_asm) (by k_mem) (Nat.le_trans (slicePick_size_le _ _ _ _) (by rw [List.size_toArray, sizeLine_eq]; omega)) ?_
     intro g2
     dsimp only
     refine comp_strs (lo := 1) (hi := 1) (ok := fun _ => True) ?hP ?turn ?fin
     case hP =>
       intro i v hi hv
       obtain ⟨k9, t9, e9, -⟩ := IntsAre.at hpk i v (by simpa using hv)
       exact ⟨k9, t9, trivial, e9⟩
     case turn =>
       rintro k9 t9 I2 oI2 C2 oC2 D2 m₃ ys2 h2 tk2 E2 - hC2 hx2 F2 N2 off2 ne2
       dsimp only
       k_fold
       k_steps
       exact LCg.CompEnd.intro (by assumption) (by assumption) _ (fun p hp => hp) off2 (Or.inr ⟨_, List.Mem.head _, rfl, _, rfl⟩) ⟨rfl, _, _, rfl, Nat.le_of_eq rfl, Nat.le_of_eq rfl⟩
     case fin =>
       intro ys2 rs2 hS2 hn2 hr2
       have hpz := Nat.le_trans (Nat.le_of_eq hn2) (slicePick_size_le _ _ _ _)
       rw [List.size_toArray] at hpz
       unfold LCg.FinE
       intro D2 h2 tk2 F2 N2 o2
       dsimp only
       repeat ((fail_if_success (with_reducible show wpAny _ _ (call (Value.builtin "str.join") _) _ _ _)); first | (k_unfold; (try dsimp only)) | walk1 | (dsimp only; walk1))
       refine KT.join_1 (g := id) (l := rs2) (News.isList N2 (List.Mem.head _)) (by simpa using hS2.carried) (fun r hr => by have := hr2 r hr; simp only [id]; omega) (by omega) ?_
       intro t8 k8 hJ
       simp only [List.map_id] at hJ ⊢
       generalize Txt.join (Str.ofString "") rs2 = J at hJ ⊢
       have hJ9 := fact_slice_ns J 39
       k_steps
       exact LCg.CompEnd.intro (by assumption) (by assumption) _ (fun p hp => List.mem_cons_of_mem _ (List.mem_cons_of_mem _ hp)) off0 True.intro ⟨rfl, _, _, rfl, Nat.zero_le _, by omega⟩))
end Mine
end
theorem PySem.Challenge.cw_kg0015_01_holds : PySem.Challenge.rw_kg0015_01.Holds :=
  Mine.law_holds
