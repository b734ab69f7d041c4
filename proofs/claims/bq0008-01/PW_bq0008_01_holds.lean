import PyProof.Rows.All
import Wide.All
import OpenK.AllK
import Wide.FinOn
import PySem.Challenge.RW_bq0008_01

-- Hd
open PySem PySem.W PyProof.Rows
set_option Elab.async false
set_option maxRecDepth 100000
set_option maxHeartbeats 8000000
set_option linter.all false
open_top hd for PySem.Challenge.rw_bq0008_01


theorem Mine.quiet_B0 : True ∧ True := by w_top off; k_with_none; walk1 <;> trivial

-- B0
open PySem PySem.W PySem.Calls PyProof.Rows
set_option Elab.async false
set_option maxRecDepth 100000
set_option maxHeartbeats 8000000
set_option linter.all false
namespace Mine
def Hold (P : Prop) : Prop := P
theorem hold_out {P : Prop} (h : Hold P) : P := h

/-- a frame's names with their values, the tokens left open -/
abbrev NV := List (Str × (Tok → Value))
def HasN (m : Str → Option Value) : NV → Prop
  | [] => True
  | p :: r => (∃ t, m p.1 = some (p.2 t)) ∧ HasN m r
def vals : NV → (Nat → Tok) → List (Str × Value)
  | [], _ => []
  | p :: r, T => (p.1, p.2 (T 0)) :: vals r (fun n => T (n + 1))
theorem has_vals {m : Str → Option Value} : ∀ {l : NV}, HasN m l → ∃ T, ∀ p ∈ vals l T, m p.1 = some p.2
  | [], _ => ⟨fun _ => 0, fun _ h => nomatch h⟩
  | q :: r, ⟨⟨t, ht⟩, h⟩ => by
    obtain ⟨T, hT⟩ := has_vals h
    refine ⟨fun n => match n with | 0 => t | n + 1 => T n, fun p hp => ?_⟩
    cases hp with
    | head => exact ht
    | tail _ hp => exact hT p hp
theorem vals_names {l : NV} {T : Nat → Tok} {z : Str} : (∀ p ∈ vals l T, z ≠ p.1) ↔ (∀ p ∈ l, z ≠ p.1) := by
  induction l generalizing T with
  | nil => exact ⟨fun _ _ h => (nomatch h), fun _ _ h => (nomatch h)⟩
  | cons q r ih =>
    simp only [vals, List.forall_mem_cons]
    exact and_congr Iff.rfl ih

def WlEnd {σ : Type} (h₀ : Heap) (L : Addr) (s : Shared) (Led : σ → List (Addr × Obj)) (V : σ → NV) (stored : List Str) (m₀ : Str → Option Value) (P : σ → Prop) (μ : σ → Nat) (c : σ) (s₂ : Shared) : Prop :=
  ∃ (c' : σ) (h' : Heap) (tk : Nat) (m' : Str → Option Value) (news' : List (Addr × Obj)), s₂ = { s with heap := h', toks := tk } ∧ Fr h₀ L h' m' ∧ News h₀ L h' news' ∧ (∀ p ∈ Led c', p ∈ news') ∧ HasN m' (V c') ∧ (∀ z, (∀ p ∈ V c', z ≠ p.1) → stored.contains z = false → m' z = m₀ z) ∧ P c' ∧ μ c' < μ c
def WlPost {σ : Type} (h₀ : Heap) (L : Addr) (s : Shared) (Led : σ → List (Addr × Obj)) (V : σ → NV) (stored : List Str) (m₀ : Str → Option Value) (P : σ → Prop) (μ : σ → Nat) (Q : Flow → Shared → Prop) (c : σ) (f : Flow) (s₂ : Shared) : Prop :=
  match f with
  | .ret v => Q (.ret v) s₂
  | .brk => Q .next s₂
  | _ => WlEnd h₀ L s Led V stored m₀ P μ c s₂
theorem wl_end {σ : Type} {h₀ : Heap} {L : Addr} {s : Shared} {Led : σ → List (Addr × Obj)} {V : σ → NV} {stored : List Str} {m₀ m' : Str → Option Value} {P : σ → Prop} {μ : σ → Nat} {c : σ} {h' : Heap} {tk : Nat} {news' : List (Addr × Obj)} (c' : σ)
    (F : Fr h₀ L h' m') (N : News h₀ L h' news') (hn : ∀ p ∈ Led c', p ∈ news') (hk : HasN m' (V c')) (hr : ∀ z, (∀ p ∈ V c', z ≠ p.1) → stored.contains z = false → m' z = m₀ z) (hp : P c') (hm : μ c' < μ c) :
    WlEnd h₀ L s Led V stored m₀ P μ c { s with heap := h', toks := tk } := ⟨c', h', tk, m', news', rfl, F, N, hn, hk, hr, hp, hm⟩

section
variable {prog : Program} {w : World} {A : Around} {E : Value → Shared → Prop} {Q : Flow → Shared → Prop} {s : Shared} {env : Env} {h₀ : Heap} {L : Addr}
theorem wl_while {σ : Type} {test : Expr} {body : List Stmt} {pos : Pos} {m₀ : Str → Option Value} (Led : σ → List (Addr × Obj)) (V : σ → NV) (stored : List Str) (P : σ → Prop) (μ : σ → Nat) (c₀ : σ)
    (F : Fr h₀ L s.heap m₀) (N : News h₀ L s.heap (Led c₀)) (hk : HasN m₀ (V c₀)) (hp : P c₀)
    (hE : PassesOwn (model prog w) A env E)
    (turn : ∀ (c : σ) (T : Nat → Tok) (u : Str → Option Value) h tk, P c → Fr h₀ L h (kstB (fun z => if stored.contains z then u z else m₀ z) (vals (V c) T)) → News h₀ L h (Led c) →
      wpAny (model prog w) A (isTrue test env (eval test env)) (fun b s₂ =>
        if b = true then wpAny (model prog w) A (execs body env) (WlPost h₀ L s Led V stored m₀ P μ Q c) E s₂ else Q .next s₂) E { s with heap := h, toks := tk }) :
    wpAny (model prog w) A (exec (.While test body [] pos) env) Q E s := by
  obtain ⟨T₀, hT₀⟩ := has_vals hk
  refine ksw_while (σ := σ × (Nat → Tok)) (fun c => Led c.1) (fun c => vals (V c.1) c.2) (fun _ => True) stored (fun c => P c.1) (fun c => μ c.1) (c₀, T₀) F N trivial hT₀ hp ?_ hE
  intro c u h tk _ hp' F₁ N₁
  refine wpAny_mono (turn c.1 c.2 u h tk hp' F₁ N₁) (fun b s₂ p => ?_) fun _ _ x => x
  cases b with
  | false => simpa using p
  | true =>
    simp only [if_true] at p ⊢
    refine wpAny_mono p (fun f s₃ q => ?_) fun _ _ x => x
    have fin : WlEnd h₀ L s Led V stored m₀ P μ c.1 s₃ → KswEnd h₀ L s (fun c : σ × (Nat → Tok) => Led c.1) (fun c => vals (V c.1) c.2) (fun _ => True) stored m₀ (fun c => P c.1) (fun c => μ c.1) c s₃ := by
      rintro ⟨c', h', tk', m', news', rfl, F', N', hn, hk9, hr9, hp9, hm9⟩
      obtain ⟨T', hT'⟩ := has_vals hk9
      exact ⟨(c', T'), h', tk', m', news', rfl, F', N', hn, trivial, hT', fun z hz => hr9 z (vals_names.mp hz), hp9, hm9⟩
    cases f with
    | ret v => exact q
    | brk => exact q
    | next => exact fin q
    | cont => exact fin q
end
end Mine


theorem Mine.quiet_P0 : True ∧ True := by w_top off; k_with_none; walk1 <;> trivial

-- P0
open PySem PySem.W PySem.Calls PyProof.Rows
set_option Elab.async false
namespace Mine
def punctL : List Nat := [33, 34, 35, 36, 37, 38, 39, 40, 41, 42, 43, 44, 45, 46, 47, 58, 59, 60, 61, 62, 63, 64, 91, 92, 93, 94, 95, 96, 123, 124, 125, 126]
/-- escapes taken off -/
def unescL : List Nat → List Nat
  | [] => []
  | [c] => [c]
  | c :: d :: r => if c = 92 ∧ d ∈ punctL then d :: unescL r else c :: unescL (d :: r)
theorem unescL_free : ∀ l : List Nat, 92 ∉ l → unescL l = l
  | [], _ => rfl
  | [c], _ => rfl
  | c :: d :: r, h => by
    have h1 : c ≠ 92 := fun e => h (by rw [e]; exact .head _)
    have h2 : 92 ∉ d :: r := fun e => h (.tail _ e)
    rw [unescL, if_neg (fun e => h1 e.1), unescL_free (d :: r) h2]
theorem unescL_len : ∀ l : List Nat, (unescL l).length ≤ l.length
  | [] => Nat.le_refl _
  | [c] => Nat.le_refl _
  | c :: d :: r => by
    rw [unescL]
    have h1 := unescL_len r
    have h2 := unescL_len (d :: r)
    simp only [List.length_cons] at h2 ⊢
    split <;> simp only [List.length_cons] <;> omega
def strOf (l : List Nat) : Str := ⟨l.toArray⟩
theorem str_ext {x y : Str} (h : x.cps.toList = y.cps.toList) : x = y := Str.ext' (Array.toList_inj.mp h)
theorem strOf_toList (l : List Nat) : (strOf l).cps.toList = l := rfl
theorem strOf_cps (x : Str) : strOf x.cps.toList = x := str_ext rfl
theorem app_toList (x y : Str) : (x ++ y).cps.toList = x.cps.toList ++ y.cps.toList := by rw [Str.cps_append, Array.toList_append]
theorem len_list (x : Str) : x.length = x.cps.toList.length := by simp [Str.length]
theorem item_toList {x : Str} {i : Int} (h0 : 0 ≤ i) (h1 : i < x.length) : (Txt.item x i).cps.toList = [x.cps.getD i.toNat 0] := by rw [PySem.W.item_meets ⟨h0, h1⟩]
theorem item_is {x y : Str} {i : Int} {c : Nat} (hy : y = ⟨#[c]⟩) (h0 : 0 ≤ i) (h1 : i < x.length) : (Txt.item x i == y) = decide (x.cps.getD i.toNat 0 = c) := by
  rw [PySem.W.item_meets ⟨h0, h1⟩, hy, Bool.eq_iff_iff, beq_iff_eq, decide_eq_true_eq]
  constructor
  · intro h
    injection h with h
    exact (List.cons.inj (Array.toList_inj.mpr h)).1
  · intro h
    rw [h]
theorem getD_list (x : Str) (n : Nat) : x.cps.getD n 0 = x.cps.toList.getD n 0 := by
  simp [Array.getD_eq_getD_getElem?, List.getD_eq_getElem?_getD]
theorem drop_cons (x : Str) {n : Nat} (h : n < x.length) : x.cps.toList.drop n = x.cps.getD n 0 :: x.cps.toList.drop (n + 1) := by
  rw [len_list] at h
  rw [List.drop_eq_getElem_cons h, getD_list, List.getD_eq_getElem?_getD, List.getElem?_eq_getElem h]
  rfl
theorem drop_end (x : Str) {n : Nat} (h : x.length ≤ n) : x.cps.toList.drop n = [] := by
  rw [len_list] at h
  exact List.drop_eq_nil_of_le h
theorem ue_one {x : Str} {n : Nat} (h : n < x.length) (hc : x.cps.getD n 0 ≠ 92 ∨ x.length ≤ n + 1 ∨ x.cps.getD (n + 1) 0 ∉ punctL) : unescL (x.cps.toList.drop n) = x.cps.getD n 0 :: unescL (x.cps.toList.drop (n + 1)) := by
  rw [drop_cons x h]
  by_cases h2 : n + 1 < x.length
  · rw [drop_cons x h2, unescL, if_neg]
    rintro ⟨e1, e2⟩
    rcases hc with h3 | h3 | h3
    · exact h3 e1
    · omega
    · exact h3 e2
  · rw [drop_end x (Nat.le_of_not_lt h2)]
    rfl
theorem ue_two {x : Str} {n : Nat} (h : n + 1 < x.length) (h1 : x.cps.getD n 0 = 92) (h2 : x.cps.getD (n + 1) 0 ∈ punctL) : unescL (x.cps.toList.drop n) = x.cps.getD (n + 1) 0 :: unescL (x.cps.toList.drop (n + 2)) := by
  rw [drop_cons x (by omega), drop_cons x h, unescL, if_pos ⟨h1, h2⟩]
theorem no_back {x y : Str} {c : Nat} (hy : y = ⟨#[c]⟩) (h : (Builtin.Str.occurrences x y 0 x.length 1).isEmpty = true) : c ∉ x.cps.toList := by
  have := StrLaws.found_one x c
  rw [← hy, h] at this
  exact fun hm => by simp [hm] at this
end Mine


theorem Mine.quiet_P1 : True ∧ True := by w_top off; k_with_none; walk1 <;> trivial

-- P1
open PySem PySem.W PySem.Calls PyProof.Rows
set_option Elab.async false
namespace Mine
/-- what a scan for the closing sign meets -/
inductive TK where
  | hit
  | bad
  | more
/-- the scan for the closing sign m: what is met, and behind how many signs -/
def tscan (m : Nat) : List Nat → Nat → TK × Nat
  | [], n => (.more, n)
  | [c], n => if c = m then (.hit, n) else if c = 40 ∧ m = 41 then (.bad, n) else (.more, n + 1)
  | c :: d :: r, n => if c = m then (.hit, n) else if c = 40 ∧ m = 41 then (.bad, n) else if c = 92 then tscan m r (n + 2) else tscan m (d :: r) (n + 1)
structure TR where
  ok : Bool
  cc : Bool
  mr : Nat
  ps : Nat
  st : List Nat
def titleGo (m : Nat) (pre : List Nat) (st : Nat) (l : List Nat) : TR := match tscan m l 0 with
  | (.hit, n) => ⟨true, false, m, st + n + 1, pre ++ unescL (l.take n)⟩
  | (.bad, _) => ⟨false, false, m, 0, pre⟩
  | (.more, _) => ⟨false, true, m, 0, pre ++ unescL l⟩
def titleNone : TR := ⟨false, false, 0, 0, []⟩
def titleFirst (st : Nat) : List Nat → TR
  | [] => titleNone
  | c :: r => if c = 34 ∨ c = 39 ∨ c = 40 then titleGo (if c = 40 then 41 else c) [] (st + 1) r else titleNone
/-- the signs of x from p up to k -/
def seg (x : Str) (p k : Nat) : List Nat := (x.cps.toList.take k).drop p
theorem seg_nil {x : Str} {p k : Nat} (h : k ≤ p) : seg x p k = [] := by
  unfold seg
  refine List.drop_eq_nil_of_le ?_
  rw [List.length_take]
  omega
theorem seg_cons {x : Str} {p k : Nat} (h : p < k) (hk : k ≤ x.length) : seg x p k = x.cps.getD p 0 :: seg x (p + 1) k := by
  unfold seg
  rw [len_list] at hk
  have h1 : p < (x.cps.toList.take k).length := by rw [List.length_take]; omega
  rw [List.drop_eq_getElem_cons h1, getD_list, List.getD_eq_getElem?_getD, List.getElem_take, List.getElem?_eq_getElem (by omega)]
  rfl
theorem tscan_one {m c n : Nat} {r : List Nat} (h1 : c ≠ m) (h2 : ¬ (c = 40 ∧ m = 41)) (h3 : c ≠ 92 ∨ r = []) : tscan m (c :: r) n = tscan m r (n + 1) := by
  cases r with
  | nil => simp only [tscan, if_neg h1, if_neg h2]
  | cons d r =>
    rcases h3 with h3 | h3
    · simp only [tscan, if_neg h1, if_neg h2, if_neg h3]
    · cases h3
theorem tscan_two {m d n : Nat} {r : List Nat} (h1 : 92 ≠ m) : tscan m (92 :: d :: r) n = tscan m r (n + 2) := by
  rw [tscan, if_neg h1, if_neg (fun h => by cases h.1), if_pos rfl]
theorem tscan_hit {m n : Nat} {r : List Nat} : tscan m (m :: r) n = (.hit, n) := by
  cases r <;> rw [tscan, if_pos rfl]
theorem tscan_bad {n : Nat} {r : List Nat} : tscan 41 (40 :: r) n = (.bad, n) := by
  cases r <;> rw [tscan, if_neg (by decide), if_pos ⟨rfl, rfl⟩]
theorem slice_toList {x : Str} {a b : Int} (h0 : 0 ≤ a) (h1 : a ≤ b) (h2 : b ≤ x.length) : (Txt.slice x (some a) (some b)).cps.toList = (x.cps.toList.drop a.toNat).take (b.toNat - a.toNat) := by
  have ha : a = (a.toNat : Int) := by omega
  have hb : b = (b.toNat : Int) := by omega
  have hp := StrLaws.sliced_plain x (a := a.toNat) (b := b.toNat) (by omega) (by omega)
  have hl := StrLaws.strSliceIndices_plain (a := a.toNat) (b := b.toNat) (len := x.length) (by omega) (by omega)
  rw [← ha, ← hb] at hp hl
  unfold Txt.slice
  split
  · rename_i h
    simp only [Bool.and_eq_true, beq_iff_eq, hl, List.length_map, List.length_range'] at h
    have h' : b.toNat - a.toNat = x.length := by simpa using h.2
    have e : a.toNat = 0 := by omega
    rw [e, List.drop_zero, List.take_of_length_le]
    rw [← len_list]; omega
  · exact hp
theorem seg_take {x : Str} {a b k : Nat} (h : b ≤ k) : (seg x a k).take (b - a) = (x.cps.toList.drop a).take (b - a) := by
  unfold seg
  rw [List.drop_take, List.take_take]
  congr 1
  omega
theorem slice_seg {x : Str} {a b k : Int} (h0 : 0 ≤ a) (h1 : a ≤ b) (h2 : b ≤ x.length) (h3 : b ≤ k) : (Txt.slice x (some a) (some b)).cps.toList = (seg x a.toNat k.toNat).take (b - a).toNat := by
  have e : (b - a).toNat = b.toNat - a.toNat := by omega
  rw [slice_toList h0 h1 h2, e, seg_take (by omega)]
theorem slice_whole {x : Str} {a k : Int} (h0 : 0 ≤ a) (h1 : a ≤ k) (h2 : k ≤ x.length) : (Txt.slice x (some a) (some k)).cps.toList = seg x a.toNat k.toNat := by
  rw [slice_seg h0 h1 h2 (Int.le_refl _), List.take_of_length_le]
  unfold seg
  rw [List.length_drop, List.length_take]
  omega

theorem go_hit {m : Nat} {pre l : List Nat} {st n : Nat} (h : tscan m l 0 = (.hit, n)) : titleGo m pre st l = ⟨true, false, m, st + n + 1, pre ++ unescL (l.take n)⟩ := by unfold titleGo; rw [h]
theorem go_bad {m : Nat} {pre l : List Nat} {st n : Nat} (h : tscan m l 0 = (.bad, n)) : titleGo m pre st l = ⟨false, false, m, 0, pre⟩ := by unfold titleGo; rw [h]
theorem go_more {m : Nat} {pre l : List Nat} {st n : Nat} (h : tscan m l 0 = (.more, n)) : titleGo m pre st l = ⟨false, true, m, 0, pre ++ unescL l⟩ := by unfold titleGo; rw [h]
theorem strOf_app (a b : List Nat) : strOf (a ++ b) = strOf a ++ strOf b := str_ext (by rw [app_toList]; rfl)
/-- one turn of the scan by one sign, by two -/
theorem turn_one {x : Str} {st c k : Int} {m : Nat} {R : TK × Nat} (h0 : 0 ≤ st) (hP : st ≤ c ∧ c ≤ k ∧ tscan m (seg x c.toNat k.toNat) (c - st).toNat = R) (hc : c < k) (hk : k ≤ x.length)
    (h1 : x.cps.getD c.toNat 0 ≠ m) (h2 : ¬ (x.cps.getD c.toNat 0 = 40 ∧ m = 41)) (h3 : x.cps.getD c.toNat 0 ≠ 92 ∨ ¬ c + 1 < k) :
    st ≤ c + 1 ∧ c + 1 ≤ k ∧ tscan m (seg x (c + 1).toNat k.toNat) (c + 1 - st).toNat = R := by
  have e1 : (c + 1).toNat = c.toNat + 1 := by omega
  have e2 : (c + 1 - st).toNat = (c - st).toNat + 1 := by omega
  refine ⟨by omega, by omega, ?_⟩
  rw [← hP.2.2, seg_cons (p := c.toNat) (by omega) (by omega), e1, e2, tscan_one h1 h2]
  rcases h3 with h3 | h3
  · exact .inl h3
  · exact .inr (seg_nil (by omega))
theorem turn_two {x : Str} {st c k : Int} {m : Nat} {R : TK × Nat} (h0 : 0 ≤ st) (hP : st ≤ c ∧ c ≤ k ∧ tscan m (seg x c.toNat k.toNat) (c - st).toNat = R) (hc : c + 1 < k) (hk : k ≤ x.length)
    (h1 : x.cps.getD c.toNat 0 ≠ m) (h3 : x.cps.getD c.toNat 0 = 92) :
    st ≤ c + 1 + 1 ∧ c + 1 + 1 ≤ k ∧ tscan m (seg x (c + 1 + 1).toNat k.toNat) (c + 1 + 1 - st).toNat = R := by
  have e1 : (c + 1 + 1).toNat = c.toNat + 1 + 1 := by omega
  have e2 : (c + 1 + 1 - st).toNat = (c - st).toNat + 2 := by omega
  refine ⟨by omega, by omega, ?_⟩
  rw [← hP.2.2, seg_cons (p := c.toNat) (by omega) (by omega), seg_cons (p := c.toNat + 1) (by omega) (by omega), e1, e2, h3, tscan_two (by rw [← h3]; exact h1)]
theorem turn_hit {x : Str} {st c k : Int} {m : Nat} {R : TK × Nat} (h0 : 0 ≤ st) (hP : st ≤ c ∧ c ≤ k ∧ tscan m (seg x c.toNat k.toNat) (c - st).toNat = R) (hc : c < k) (hk : k ≤ x.length)
    (h1 : x.cps.getD c.toNat 0 = m) : R = (.hit, (c - st).toNat) := by
  rw [← hP.2.2, seg_cons (p := c.toNat) (by omega) (by omega), h1, tscan_hit]
theorem turn_bad {x : Str} {st c k : Int} {m : Nat} {R : TK × Nat} (h0 : 0 ≤ st) (hP : st ≤ c ∧ c ≤ k ∧ tscan m (seg x c.toNat k.toNat) (c - st).toNat = R) (hc : c < k) (hk : k ≤ x.length)
    (h1 : x.cps.getD c.toNat 0 = 40) (h2 : m = 41) : R = (.bad, (c - st).toNat) := by
  rw [← hP.2.2, seg_cons (p := c.toNat) (by omega) (by omega), h1, h2, tscan_bad]
theorem turn_more {x : Str} {st c k : Int} {m : Nat} {R : TK × Nat} (hP : st ≤ c ∧ c ≤ k ∧ tscan m (seg x c.toNat k.toNat) (c - st).toNat = R) (hc : ¬ c < k) : R = (.more, (c - st).toNat) := by
  rw [← hP.2.2, seg_nil (by omega), tscan]
end Mine


theorem Mine.quiet_B1 : True ∧ True := by w_top off; k_with_none; walk1 <;> trivial

-- B1
open PySem PySem.W PySem.Calls PyProof.Rows
set_option Elab.async false
set_option maxRecDepth 100000
namespace Mine
/-- the body and the scope of the text's i-th statement, a def -/
noncomputable def bodyAt (i : Nat) : List Stmt := match PySem.Challenge.pw_bq0008_01.main.body[i]? with
  | some (.FunctionDef _ _ b _ _ _ _ _ _ _) => b
  | _ => []
noncomputable def scopeAt (i : Nat) : Scope := match PySem.Challenge.pw_bq0008_01.main.body[i]? with
  | some (.FunctionDef _ _ _ _ _ _ sc _ _ _) => sc
  | _ => default
/-- a title's state as the call makes it -/
def stO (d : Addr) (r : TR) (tm tp ts : Tok) : Obj := { cls := .ref 55, dict := some d, data := .plain, slots := #[some (.bool r.cc), some (.int r.mr tm), some (.bool r.ok), some (.int r.ps tp), some (.str (strOf r.st) ts)] }
end Mine


theorem Mine.quiet_C1 : True ∧ True := by w_top off; k_with_none; walk1 <;> trivial

-- C1
open PySem PySem.W PySem.Calls PyProof.Rows
set_option Elab.async false
set_option maxRecDepth 100000
set_option maxHeartbeats 8000000
set_option linter.all false
namespace Mine

theorem cc_call {w : World} {mg mb : Str → Option Value} {mean : ExcName → Option Value} : ∀ {dp un : Nat} {gd : Option (List Code)} {cn : Str} {cs : Scope} {a : Addr} {ccd : Value} {cl : List (Str × Addr)} {outer : List Env} {A₀ : Around} {base h₀ : Heap} {L : Addr} {m : Str → Option Value} {news : List (Addr × Obj)} {s : Shared} {x : Str} {i : Int} {tx ti : Tok}
    {Q E : Value → Shared → Prop} (B : Below A₀ base outer h₀) (F : Fr h₀ L s.heap m) (X : (hd.heap_39 w.params).In h₀) (N : News h₀ L s.heap news)
    (T : Top hd.view_39 (looseW hd.view_39 [Str.ofString "MD_ASCII_PUNCT", Str.ofString "_State", Str.ofString "parseLinkTitle", Str.ofString "_Result", Str.ofString "_law_pieces"]) mean mg mb h₀)
    (hk : cs.kind = .function) (h0 : 0 ≤ i) (h1 : i < x.length) (hx : x.length < 1000)
    (hd : dp + 1 < recursionLimit) (hu : un + 8 < cLine)
    (ret : ∀ t h' tk', Fr h₀ L h' m → News h₀ L h' news → Q (.int (x.cps.getD i.toNat 0) t) { s with heap := h', toks := tk' }),
    wpAny (model PySem.Challenge.rw_bq0008_01.row.prog w) (ktrTop dp un gd cn cs L a ccd cl outer) (call (.ref 21) [.str x tx, .int i ti]) Q E s := by
  k_fill
  intro dp un gd cn cs a ccd cl outer A₀ base h₀ L m news s x i tx ti Q E B F X N T hk h0 h1 hx hd hu ret
  refine wpAny_call ?_
  k_dflt cell_enter
  k_with_none
  k_steps
  have e : (Txt.item x i).cps.getD 0 0 = x.cps.getD i.toNat 0 := by rw [getD_list, item_toList h0 h1]; rfl
  rw [e]
  exact ret _ _ _ (by assumption) (by assumption)

end Mine


theorem Mine.quiet_C2 : True ∧ True := by w_top off; k_with_none; walk1 <;> trivial

-- C2
open PySem PySem.W PySem.Calls PyProof.Rows
set_option Elab.async false
set_option maxRecDepth 100000
set_option maxHeartbeats 8000000
set_option linter.all false
namespace Mine
def punctI (k : Int) : Bool := decide (0 ≤ k ∧ k.toNat ∈ punctL)
theorem set29 {w : World} : ∀ {h : Heap}, (hd.heap_39 w.params).In h → h.SetOf (PySem.intKind PySem.Challenge.rw_bq0008_01.row.prog w) 29 punctI 32 := by
  intro h X
  refine ⟨_, _, _, _, X 29 _ rfl, ⟨rfl, rfl, rfl⟩, rfl, ?_, ?_, ?_, ?_, rfl⟩
  · have : ∀ e ∈ punctL.map (fun n => (((n : Nat) : Int))), hashInt e = e := by decide
    intro e he
    simp only [List.mem_cons, List.not_mem_nil, or_false] at he
    rcases he with he | he | he | he | he | he | he | he | he | he | he | he | he | he | he | he | he | he | he | he | he | he | he | he | he | he | he | he | he | he | he | he <;> subst he <;> exact ⟨⟨_, by simp only [PySem.intKind, Value.isInt]; exact beq_self_eq_true _, by first | rfl | decide⟩, rfl⟩
  · intro k
    unfold punctI
    rw [decide_eq_true_eq]
    constructor
    · rintro ⟨h0, hm⟩
      have e : k = (k.toNat : Int) := by omega
      simp only [punctL, List.mem_cons, List.not_mem_nil, or_false] at hm
      rw [e]
      rcases hm with he | he | he | he | he | he | he | he | he | he | he | he | he | he | he | he | he | he | he | he | he | he | he | he | he | he | he | he | he | he | he | he <;> rw [he] <;> simp [PySem.intKind, Value.isInt]
    · rintro ⟨e, he, hk⟩
      simp only [List.mem_cons, List.not_mem_nil, or_false] at he
      rcases he with he | he | he | he | he | he | he | he | he | he | he | he | he | he | he | he | he | he | he | he | he | he | he | he | he | he | he | he | he | he | he | he <;> subst he <;> simp only [PySem.intKind, Value.isInt, beq_iff_eq] at hk <;> subst hk <;> decide
  · unfold scanBound; decide
  · rfl
end Mine


theorem Mine.quiet_C3 : True ∧ True := by w_top off; k_with_none; walk1 <;> trivial

-- C3
open PySem PySem.W PySem.Calls PyProof.Rows
set_option Elab.async false
set_option maxRecDepth 100000
set_option maxHeartbeats 8000000
set_option linter.all false
namespace Mine
structure US where
  p : Int
  r : Str
local macro_rules | `(tactic| tb_start) => `(tactic| (intro z h2 h3; have h4 := h3; simp only [List.forall_mem_cons, List.not_mem_nil, false_implies, implies_true, and_true, ne_eq] at h2; (try simp only [List.contains_cons, List.contains_nil, Bool.or_false, Bool.or_eq_false_iff, beq_eq_false_iff_ne, ne_eq] at h4); simp only [vals, kstB, h2, h3, h4, if_false, Bool.false_eq_true]))
theorem ue_out {c : US} {x : Str} {p : Int} (hP : 0 ≤ c.p ∧ c.p ≤ x.length ∧ (c.r.length : Int) ≤ c.p ∧ c.r.cps.toList ++ unescL (x.cps.toList.drop c.p.toNat) = unescL x.cps.toList)
    (h0 : c.p ≤ p) (h1 : p < x.length) (he : unescL (x.cps.toList.drop c.p.toNat) = x.cps.getD p.toNat 0 :: unescL (x.cps.toList.drop (p + 1).toNat)) :
    0 ≤ p + 1 ∧ p + 1 ≤ x.length ∧ ((c.r ++ Txt.item x p).length : Int) ≤ p + 1 ∧ (c.r ++ Txt.item x p).cps.toList ++ unescL (x.cps.toList.drop (p + 1).toNat) = unescL x.cps.toList := by
  have h00 : 0 ≤ p := by omega
  have e1 : (Txt.item x p).length = 1 := by rw [len_list, item_toList h00 h1]; rfl
  refine ⟨by omega, by omega, ?_, ?_⟩
  · rw [Str.length_append, e1]; omega
  · rw [app_toList, item_toList h00 h1, ← hP.2.2.2, he, List.append_assoc]
    rfl
theorem ue_pair {x : Str} {p : Int} (h0 : 0 ≤ p) (h1 : p + 1 < x.length) (e1 : (Txt.item x p == Str.ofString "\\") = true) (e2 : punctI ((Txt.item x (p + 1)).cps.getD 0 0) = true) :
    unescL (x.cps.toList.drop p.toNat) = x.cps.getD (p + 1).toNat 0 :: unescL (x.cps.toList.drop (p + 1 + 1).toNat) := by
  rw [item_is (c := 92) (by decide) h0 (by omega), decide_eq_true_eq] at e1
  rw [getD_list, item_toList (by omega) h1] at e2
  have q1 : (p + 1).toNat = p.toNat + 1 := by omega
  have q2 : (p + 1 + 1).toNat = p.toNat + 2 := by omega
  rw [q1] at e2
  rw [q1, q2]
  refine ue_two (by omega) e1 ?_
  have := (decide_eq_true_eq.mp e2).2
  simpa using this
theorem ue_lone {x : Str} {p : Int} (h0 : 0 ≤ p) (h1 : p < x.length) (hc : (Txt.item x p == Str.ofString "\\") = false ∨ ¬ p + 1 < x.length ∨ (p + 1 < x.length ∧ punctI ((Txt.item x (p + 1)).cps.getD 0 0) = false)) :
    unescL (x.cps.toList.drop p.toNat) = x.cps.getD p.toNat 0 :: unescL (x.cps.toList.drop (p + 1).toNat) := by
  have q1 : (p + 1).toNat = p.toNat + 1 := by omega
  rw [q1]
  refine ue_one (by omega) ?_
  rcases hc with h | h | ⟨h2, h⟩
  · rw [item_is (c := 92) (by decide) h0 h1, decide_eq_false_iff_not] at h
    exact .inl h
  · exact .inr (.inl (by omega))
  · rw [getD_list, item_toList (by omega) h2, q1] at h
    refine .inr (.inr fun hm => ?_)
    have := decide_eq_false_iff_not.mp h
    exact this ⟨by omega, by simpa using hm⟩

theorem gen_tok {α : Type} {M : Model} {A : Around} {t : Sem α} {Q : α → Shared → Prop} {E : Value → Shared → Prop} {s : Shared} {X : Nat} (h : ∀ tk, wpAny M A t Q E { s with toks := tk }) : wpAny M A t Q E { s with toks := X } := h X
local macro_rules | `(tactic| walk_at "execs nil") => `(tactic| ((with_reducible show wpAny _ _ _ _ _ (Shared.mk _ _ _ (_ + 1) _)); refine gen_tok (s := Shared.mk _ _ _ 0 _) ?_; intro tk))
local macro_rules | `(tactic| walk_at "execs cons") => `(tactic| ((with_reducible show wpAny _ _ _ _ _ (Shared.mk _ _ _ (_ + 1) _)); refine gen_tok (s := Shared.mk _ _ _ 0 _) ?_; intro tk))
theorem ue_short (x : Str) : (strOf (unescL x.cps.toList)).length ≤ x.length := by
  rw [len_list, strOf_toList, len_list]
  exact unescL_len _
theorem ue_free {x : Str} (h : 92 ∉ x.cps.toList) : x = strOf (unescL x.cps.toList) := by
  rw [unescL_free _ h, strOf_cps]
theorem ue_end {x r : Str} {p : Int} (h : r.cps.toList ++ unescL (x.cps.toList.drop p.toNat) = unescL x.cps.toList) (hp : x.length ≤ p.toNat) : r = strOf (unescL x.cps.toList) := by
  rw [← h, drop_end x hp, unescL, List.append_nil, strOf_cps]
local macro_rules | `(tactic| walk_at "WlPost") => `(tactic| (dsimp only [WlPost]; refine hold_out ?_))
local macro_rules | `(tactic| walk_at "ite") => `(tactic| ((with_reducible show (if punctI _ = true then _ else _)); (refine split_bool ?_ ?_ <;> intro _)))
theorem ue_call {w : World} {mg mb : Str → Option Value} {mean : ExcName → Option Value} : ∀ {dp un : Nat} {gd : Option (List Code)} {cn : Str} {cs : Scope} {a : Addr} {ccd : Value} {cl : List (Str × Addr)} {outer : List Env} {A₀ : Around} {base h₀ : Heap} {L : Addr} {m : Str → Option Value} {news : List (Addr × Obj)} {s : Shared} {x : Str} {tx : Tok}
    {Q E : Value → Shared → Prop} (B : Below A₀ base outer h₀) (F : Fr h₀ L s.heap m) (X : (hd.heap_39 w.params).In h₀) (N : News h₀ L s.heap news)
    (T : Top hd.view_39 (looseW hd.view_39 [Str.ofString "MD_ASCII_PUNCT", Str.ofString "_State", Str.ofString "parseLinkTitle", Str.ofString "_Result", Str.ofString "_law_pieces"]) mean mg mb h₀)
    (hk : cs.kind = .function) (hx : x.length < 1000)
    (hd : dp + 1 < recursionLimit) (hu : un + 8 < cLine)
    (ret : ∀ t h' tk', (strOf (unescL x.cps.toList)).length ≤ x.length → Fr h₀ L h' m → News h₀ L h' news → Q (.str (strOf (unescL x.cps.toList)) t) { s with heap := h', toks := tk' }),
    wpAny (model PySem.Challenge.rw_bq0008_01.row.prog w) (ktrTop dp un gd cn cs L a ccd cl outer) (call (.ref 28) [.str x tx]) Q E s := by
  k_fill
  intro dp un gd cn cs a ccd cl outer A₀ base h₀ L m news s x tx Q E B F X N T hk hx hd hu ret
  replace ret : ∀ (y : Str) t h' tk', y = strOf (unescL x.cps.toList) → Fr h₀ L h' m → News h₀ L h' news → Q (.str y t) { s with heap := h', toks := tk' } := fun y t h' tk' hy F' N' => by
    subst hy
    exact ret t h' tk' (ue_short x) F' N'
  refine wpAny_call ?_
  k_dflt cell_enter
  k_with_none
  k_with "exec While Compare cons nil" => refine hold_out ?_
  k_with "compareOp In int ref" => (rename Fr _ _ _ _ => lF'; refine wpAny_inSet_of (knd := PySem.intKind _ _) (intKind_is _ _ _ _) rfl (set29 (Frag.In.keeps (by assumption) (Fr.keep lF'))) ?_)
  k_steps
  · exact ret x _ _ _ (ue_free (no_back rfl (by assumption))) (by assumption) (by assumption)
  all_goals (
    unfold Hold
    rename Fr _ _ _ _ => lF'
    rename News _ _ _ _ => lN'
    refine' wl_while (fun _ => news) (fun c : US => [(Str.ofString "pos", fun t => Value.int c.p t), (Str.ofString "result", fun t => Value.str c.r t)]) []
      (fun c => 0 ≤ c.p ∧ c.p ≤ x.length ∧ (c.r.length : Int) ≤ c.p ∧ c.r.cps.toList ++ unescL (x.cps.toList.drop c.p.toNat) = unescL x.cps.toList) (fun c => (x.length - c.p).toNat) ⟨0, Str.ofString ""⟩ lF' lN' ⟨⟨_, rfl⟩, ⟨_, rfl⟩, trivial⟩ ?hpp ?hE ?turn
    case hpp =>
      refine ⟨Int.le_refl 0, Int.natCast_nonneg _, Int.le_refl 0, ?_⟩
      show [] ++ unescL (x.cps.toList.drop 0) = _
      rw [List.drop_zero, List.nil_append]
    case hE => first | passes_own | with_unfolding_all passes_own
    case turn =>
      clear lF' lN'
      intro c T u h tk hP F1 N1
      k_fold
      k_steps
      · rename (_ == Str.ofString "\\") = true => e1
        rename punctI _ = true => e2
        exact wl_end ⟨c.p + 1 + 1, c.r ++ Txt.item x (c.p + 1)⟩ (by assumption) (by assumption) (fun _ h => h) ⟨⟨_, rfl⟩, ⟨_, rfl⟩, trivial⟩ (by tb_start)
          (ue_out hP (by omega) (by omega) (ue_pair hP.1 (by omega) e1 e2)) (by (try dsimp only); omega)
      · rename punctI _ = false => e2
        exact wl_end ⟨c.p + 1, c.r ++ Txt.item x c.p⟩ (by assumption) (by assumption) (fun _ h => h) ⟨⟨_, rfl⟩, ⟨_, rfl⟩, trivial⟩ (by tb_start)
          (ue_out hP (by omega) (by omega) (ue_lone hP.1 (by omega) (.inr (.inr ⟨by omega, e2⟩)))) (by (try dsimp only); omega)
      · rename ¬ (_ + 1 < _) => e2
        exact wl_end ⟨c.p + 1, c.r ++ Txt.item x c.p⟩ (by assumption) (by assumption) (fun _ h => h) ⟨⟨_, rfl⟩, ⟨_, rfl⟩, trivial⟩ (by tb_start)
          (ue_out hP (by omega) (by omega) (ue_lone hP.1 (by omega) (.inr (.inl e2)))) (by (try dsimp only); omega)
      · rename (_ == Str.ofString "\\") = false => e2
        exact wl_end ⟨c.p + 1, c.r ++ Txt.item x c.p⟩ (by assumption) (by assumption) (fun _ h => h) ⟨⟨_, rfl⟩, ⟨_, rfl⟩, trivial⟩ (by tb_start)
          (ue_out hP (by omega) (by omega) (ue_lone hP.1 (by omega) (.inl e2))) (by (try dsimp only); omega)
      · exact ret c.r _ _ _ (ue_end hP.2.2.2 (by omega)) (by assumption) (by assumption))
end Mine


theorem Mine.quiet_C4 : True ∧ True := by w_top off; k_with_none; walk1 <;> trivial

-- C4
open PySem PySem.W PySem.Calls PyProof.Rows
set_option Elab.async false
set_option maxRecDepth 100000
set_option maxHeartbeats 8000000
set_option linter.all false
namespace Mine
local macro_rules | `(tactic| tb_start) => `(tactic| (intro z h2 h3; have h4 := h3; simp only [List.forall_mem_cons, List.not_mem_nil, false_implies, implies_true, and_true, ne_eq] at h2; (try simp only [List.contains_cons, List.contains_nil, Bool.or_false, Bool.or_eq_false_iff, beq_eq_false_iff_ne, ne_eq] at h4); simp only [vals, kstB, h2, h3, h4, if_false, Bool.false_eq_true]))
local macro_rules | `(tactic| tb_rel) => `(tactic| (refine' code_def ?k1 ?k2 ?k3 ?k4 ?k5 ?kA ?kF ?kK ?k6 ?k7 ?k8 ?k9 ?kB ?_ ?c2 ?c3 ?c4 ?c5; (case kA => exact rfl); (case kF => exact rfl); (case kK => assumption); (case k1 => k_asm); (case k2 => k_asm); (case k3 => k_asm); (case k4 => k_asm); (case k5 => k_asm); (case k6 => k_is); (case k7 => k_is); (case k8 => ktr_room); (case k9 => first | exact BindsTo.of_eq rfl | exact binds_K (by k_in) rfl (by k_is) rfl rfl rfl); (case c5 => decide); (case kB => exact locs rfl); (case c2 => exact rfl); (case c3 => exact rfl); (case c4 => exact rfl); k_whole; intro g' L' h' FG' F' N' B' X' T'; (try dsimp only); (try k_lift B'); (try k_fold)))
local macro_rules | `(tactic| k_room) => `(tactic| ktr_room)
local macro_rules | `(tactic| k_all) => `(tactic| (rename (∀ p : Addr × Obj, p ∈ _ → p.1 < _) => hlt9; first | exact fun q hq => Nat.ne_of_lt (hlt9 q hq) | exact fun q hq => Nat.ne_of_lt (Nat.lt_trans (hlt9 q hq) (by assumption))))

theorem pt_loop {w : World} {mg mb : Str → Option Value} {mean : ExcName → Option Value} : ∀ {dp un : Nat} {gd : Option (List Code)} {cn : Str} {cs : Scope} {a : Addr} {ccd : Value} {cl : List (Str × Addr)} {outer : List Env} {A₀ : Around} {base g : Heap} {L L' S d : Addr} {m : Str → Option Value} {news : List (Addr × Obj)} {s : Shared} {x : Str} {st k : Int} {mr : Nat} {pre : List Nat} {tx tst tk tps tm tp ts : Tok}
    {Q : Flow → Shared → Prop} {E : Value → Shared → Prop} (B : Below A₀ base (envX cn cs L a ccd cl :: outer) g) (F : Fr g L' s.heap m) (X : (hd.heap_39 w.params).In g) (N : News g L' s.heap ((S, stO d ⟨false, false, mr, 0, pre⟩ tm tp ts) :: (d, dictOf [] 0) :: news))
    (T : Top hd.view_39 (looseW hd.view_39 [Str.ofString "MD_ASCII_PUNCT", Str.ofString "_State", Str.ofString "parseLinkTitle", Str.ofString "_Result", Str.ofString "_law_pieces"]) mean mg mb g)
    (l1 : ∀ p : Addr × Obj, p ∈ news → p.1 < d) (l2 : d < S)
    (hs : m (Str.ofString "string") = some (.str x tx)) (hst : m (Str.ofString "start") = some (.int st tst)) (hmx : m (Str.ofString "maximum") = some (.int k tk)) (hS : m (Str.ofString "state") = some (.ref S)) (hps : m (Str.ofString "pos") = some (.int st tps))
    (h0 : 0 ≤ st) (h1 : st ≤ k) (h2 : k ≤ x.length) (hx : x.length < 1000) (hp : pre.length < 10000)
    (hd : dp + 2 < recursionLimit) (hu : un + 16 < cLine)
    (hE : PassesOwn (model PySem.Challenge.rw_bq0008_01.row.prog w) ((ktrTop dp un gd cn cs L a ccd cl outer).deeper (envOf (Str.ofString "parseLinkTitle") (scopeAt 6) L' 70 (.ref 69))) (envOf (Str.ofString "parseLinkTitle") (scopeAt 6) L' 70 (.ref 69)) E)
    (ret : ∀ m' tm tp ts h' tk', Fr g L' h' m' → News g L' h' ((S, stO d (titleGo mr pre st.toNat (seg x st.toNat k.toNat)) tm tp ts) :: (d, dictOf [] 0) :: news) → Q (.ret (.ref S)) { s with heap := h', toks := tk' }),
    wpAny (model PySem.Challenge.rw_bq0008_01.row.prog w) ((ktrTop dp un gd cn cs L a ccd cl outer).deeper (envOf (Str.ofString "parseLinkTitle") (scopeAt 6) L' 70 (.ref 69))) (execs ((bodyAt 6).drop 3) (envOf (Str.ofString "parseLinkTitle") (scopeAt 6) L' 70 (.ref 69))) Q E s := by
  k_fill
  intro dp un gd cn cs a ccd cl outer A₀ base g L L' S d m news s x st k mr pre tx tst tk tps tm tp ts Q E B F X N T l1 l2 hs hst hmx hS hps h0 h1 h2 hx hp hd hu hE ret
  replace l2 := ltN l2
  have hpl : (strOf pre).length < 10000 := by rw [len_list, strOf_toList]; exact hp
  with_unfolding_all refine wpAny_execs_cons ?_
  obtain ⟨sc, hsc⟩ : ∃ sc, sc = scopeAt 6 := ⟨_, rfl⟩
  rw [← hsc] at hE ⊢
  conv at hsc => rhs; whnf
  subst hsc
  unfold stO at N
  dsimp only at N
  refine wl_while (fun _ => _) (fun c : Int => [(Str.ofString "pos", fun t => Value.int c t), (Str.ofString "string", fun _ => Value.str x tx), (Str.ofString "start", fun _ => Value.int st tst), (Str.ofString "maximum", fun _ => Value.int k tk), (Str.ofString "state", fun _ => Value.ref S)]) [Str.ofString "code"]
    (fun c => st ≤ c ∧ c ≤ k ∧ tscan mr (seg x c.toNat k.toNat) (c - st).toNat = tscan mr (seg x st.toNat k.toNat) 0) (fun c => (k - c).toNat) st F N ⟨⟨_, hps⟩, ⟨0, hs⟩, ⟨0, hst⟩, ⟨0, hmx⟩, ⟨0, hS⟩, trivial⟩ ?hpp hE ?turn
  case hpp =>
    refine ⟨Int.le_refl _, h1, ?_⟩
    rw [Int.sub_self]
    rfl
  case turn =>
    intro c T9 u h tk9 hP F1 N1
    clear N F
    simp only [vals, kstB] at F1
    k_with_none
    k_with "call ref" => ((first | (with_reducible show wpAny _ _ (call (Value.ref 28) _) _ _ _) | (with_reducible show wpAny _ _ (call (Value.ref 21) _) _ _ _)); refine hold_out ?_)
    k_with "call ref" => (k_dflt (refine' cc_call ?B ?F ?X ?N ?T ?hk ?h0 ?h1 ?hx ?hd ?hu ?_; (case B => assumption); (case F => assumption); (case X => assumption); (case N => assumption); (case T => assumption); (case hk => exact rfl); (case h0 => omega); (case h1 => omega); (case hx => assumption); (case hd => ktr_room); (case hu => ktr_units); intro t h' tk' F' N'; (try dsimp only)))
    k_with "call ref" => (k_dflt (refine' ue_call ?B ?F ?X ?N ?T ?hk ?hx ?hd ?hu ?_; (case B => assumption); (case F => assumption); (case X => assumption); (case N => assumption); (case T => assumption); (case hk => exact rfl); (case hx => omega); (case hd => ktr_room); (case hu => ktr_units); intro t h' tk' hul F' N'; (try dsimp only)))
    k_fold
    k_steps
    · have e2 := turn_hit h0 hP (by assumption) h2 (by omega)
      rw [go_hit e2] at ret
      unfold stO at ret
      dsimp only at ret
      rw [strOf_app, ← slice_seg h0 hP.1 (by omega) hP.2.1, show ((st.toNat + (c - st).toNat + 1 : Nat) : Int) = c + 1 by omega] at ret
      exact ret _ _ _ _ _ _ (by assumption) (by assumption)
    · have e2 := turn_bad h0 hP (by assumption) h2 (by omega) (by omega)
      rw [go_bad e2] at ret
      exact ret _ _ _ _ _ _ (by assumption) (by assumption)
    · exfalso; omega
    · exact wl_end (c + 1) (by assumption) (by assumption) (fun _ h => h) ⟨⟨_, rfl⟩, ⟨0, rfl⟩, ⟨0, rfl⟩, ⟨0, rfl⟩, ⟨0, rfl⟩, trivial⟩ (by tb_start) (turn_one h0 hP (by assumption) h2 (by omega) (by omega) (.inl (by omega))) (by (try dsimp only); omega)
    · exact wl_end (c + 1 + 1) (by assumption) (by assumption) (fun _ h => h) ⟨⟨_, rfl⟩, ⟨0, rfl⟩, ⟨0, rfl⟩, ⟨0, rfl⟩, ⟨0, rfl⟩, trivial⟩ (by tb_start) (turn_two h0 hP (by assumption) h2 (by omega) (by omega)) (by (try dsimp only); omega)
    · exact wl_end (c + 1) (by assumption) (by assumption) (fun _ h => h) ⟨⟨_, rfl⟩, ⟨0, rfl⟩, ⟨0, rfl⟩, ⟨0, rfl⟩, ⟨0, rfl⟩, trivial⟩ (by tb_start) (turn_one h0 hP (by assumption) h2 (by omega) (by omega) (.inr (by assumption))) (by (try dsimp only); omega)
    · exact wl_end (c + 1) (by assumption) (by assumption) (fun _ h => h) ⟨⟨_, rfl⟩, ⟨0, rfl⟩, ⟨0, rfl⟩, ⟨0, rfl⟩, ⟨0, rfl⟩, trivial⟩ (by tb_start) (turn_one h0 hP (by assumption) h2 (by omega) (by omega) (.inl (by omega))) (by (try dsimp only); omega)
    · have e2 := turn_more hP (by assumption)
      have e3 : c = k := by omega
      subst e3
      rw [go_more e2] at ret
      unfold stO at ret
      dsimp only at ret
      rw [strOf_app, ← slice_whole h0 h1 h2] at ret
      exact ret _ _ _ _ _ _ (by assumption) (by assumption)
end Mine


theorem Mine.quiet_C6 : True ∧ True := by w_top off; k_with_none; walk1 <;> trivial

-- C6
open PySem PySem.W PySem.Calls PyProof.Rows
set_option Elab.async false
set_option maxRecDepth 100000
set_option maxHeartbeats 8000000
set_option linter.all false
namespace Mine
local macro_rules | `(tactic| tb_rel) => `(tactic| (refine' code_def ?k1 ?k2 ?k3 ?k4 ?k5 ?kA ?kF ?kK ?k6 ?k7 ?k8 ?k9 ?kB ?_ ?c2 ?c3 ?c4 ?c5; (case kA => exact rfl); (case kF => exact rfl); (case kK => assumption); (case k1 => k_asm); (case k2 => k_asm); (case k3 => k_asm); (case k4 => k_asm); (case k5 => k_asm); (case k6 => k_is); (case k7 => k_is); (case k8 => ktr_room); (case k9 => first | exact BindsTo.of_eq rfl | exact binds_K (by k_in) rfl (by k_is) rfl rfl rfl); (case c5 => decide); (case kB => exact locs rfl); (case c2 => exact rfl); (case c3 => exact rfl); (case c4 => exact rfl); k_whole; intro g' L' h' FG' F' N' B' X' T'; (try dsimp only); (try k_lift B'); (try k_fold)))
local macro_rules | `(tactic| k_room) => `(tactic| ktr_room)
local macro_rules | `(tactic| k_all) => `(tactic| (rename (∀ p : Addr × Obj, p ∈ _ → p.1 < _) => hlt9; first | exact fun q hq => Nat.ne_of_lt (hlt9 q hq) | exact fun q hq => Nat.ne_of_lt (Nat.lt_trans (hlt9 q hq) (by assumption))))
theorem first_none {st : Nat} {c : Nat} {r : List Nat} (h1 : c ≠ 34) (h2 : c ≠ 39) (h3 : c ≠ 40) : titleFirst st (c :: r) = titleNone := by rw [titleFirst, if_neg]; omega
theorem first_go {st c m : Nat} {r : List Nat} (h1 : c = 34 ∨ c = 39 ∨ c = 40) (hm : m = if c = 40 then 41 else c) : titleFirst st (c :: r) = titleGo m [] (st + 1) r := by rw [titleFirst, if_pos h1, ← hm]

theorem pt_call {w : World} {mg mb : Str → Option Value} {mean : ExcName → Option Value} : ∀ {dp un : Nat} {gd : Option (List Code)} {cn : Str} {cs : Scope} {a : Addr} {ccd : Value} {cl : List (Str × Addr)} {outer : List Env} {A₀ : Around} {base h₀ : Heap} {L : Addr} {m : Str → Option Value} {news : List (Addr × Obj)} {s : Shared} {x : Str} {i k : Int} {tx ti tk : Tok}
    {Q E : Value → Shared → Prop} (B : Below A₀ base outer h₀) (F : Fr h₀ L s.heap m) (X : (hd.heap_39 w.params).In h₀) (N : News h₀ L s.heap news)
    (T : Top hd.view_39 (looseW hd.view_39 [Str.ofString "MD_ASCII_PUNCT", Str.ofString "_State", Str.ofString "parseLinkTitle", Str.ofString "_Result", Str.ofString "_law_pieces"]) mean mg mb h₀)
    (hk : cs.kind = .function) (h0 : 0 ≤ i) (h1 : i ≤ k) (h2 : k ≤ x.length) (hx : x.length < 1000)
    (hd : dp + 2 < recursionLimit) (hu : un + 16 < cLine)
    (ret : ∀ q d tm tp ts h' tk', Fr h₀ L h' m → News h₀ L h' ((q, stO d (titleFirst i.toNat (seg x i.toNat k.toNat)) tm tp ts) :: (d, dictOf [] 0) :: news) → (∀ p ∈ news, p.1 < d) → d < q → Q (.ref q) { s with heap := h', toks := tk' }),
    wpAny (model PySem.Challenge.rw_bq0008_01.row.prog w) (ktrTop dp un gd cn cs L a ccd cl outer) (call (.ref 70) [.str x tx, .int i ti, .int k tk]) Q E s := by
  k_fill
  intro dp un gd cn cs a ccd cl outer A₀ base h₀ L m news s x i k tx ti tk Q E B F X N T hk h0 h1 h2 hx hd hu ret
  refine wpAny_call ?_
  k_dflt tb_rel
  k_with_none
  k_with "execs cons While" => refine hold_out ?_
  k_with "call ref" => ((first | (with_reducible show wpAny _ _ (call (Value.ref 28) _) _ _ _) | (with_reducible show wpAny _ _ (call (Value.ref 21) _) _ _ _)); refine hold_out ?_)
  k_with "call ref" => (k_dflt (refine' cc_call ?B ?F ?X ?N ?T ?hk ?h0 ?h1 ?hx ?hd ?hu ?_; (case B => assumption); (case F => assumption); (case X => assumption); (case N => assumption); (case T => assumption); (case hk => exact rfl); (case h0 => omega); (case h1 => omega); (case hx => assumption); (case hd => ktr_room); (case hu => ktr_units); intro t h' tk' F' N'; (try dsimp only)))
  k_steps
  · rw [seg_nil (by omega)] at ret
    exact ret _ _ _ _ _ _ _ (by assumption) (by assumption) (by assumption) (by assumption)
  · rw [seg_cons (by omega) (by omega), first_none (by omega) (by omega) (by omega)] at ret
    exact ret _ _ _ _ _ _ _ (by assumption) (by assumption) (by assumption) (by assumption)
  · unfold Hold
    rename News _ _ _ _ => lN9
    rw [seg_cons (by omega) (by omega), first_go (m := 41) (.inr (.inr (by omega))) (by rw [if_pos (by omega)]), show i.toNat + 1 = (i + 1).toNat by omega] at ret
    · refine' pt_loop (mr := 41) (pre := []) (st := i + 1) (k := k) (x := x) ?B ?F ?X ?N ?T ?l1 ?l2 ?hs ?hst ?hmx ?hS ?hps ?h0 ?h1 ?h2 ?hx ?hp ?hd ?hu ?hE ?_
      (case B => assumption); (case F => assumption); (case X => assumption); (case N => exact lN9); (case T => assumption); (case l1 => assumption); (case l2 => assumption)
      (case hs => exact rfl); (case hst => exact rfl); (case hmx => exact rfl); (case hS => exact rfl); (case hps => exact rfl)
      (case h0 => omega); (case h1 => omega); (case h2 => omega); (case hx => assumption); (case hp => exact Nat.zero_lt_succ _); (case hd => assumption); (case hu => assumption)
      (case hE => first | passes_own | with_unfolding_all passes_own)
      intro m' tm tp ts h' tk' F' N'
      (try dsimp only)
      k_steps
      exact ret _ _ _ _ _ _ _ (by assumption) (by assumption) (by assumption) (by assumption)
  · exfalso; omega
  · exfalso; omega
  · unfold Hold
    rename News _ _ _ _ => lN9
    rw [seg_cons (by omega) (by omega), first_go (m := x.cps.getD i.toNat 0) (.inr (.inl (by omega))) (by rw [if_neg (by omega)]), show i.toNat + 1 = (i + 1).toNat by omega] at ret
    · refine' pt_loop (mr := x.cps.getD i.toNat 0) (pre := []) (st := i + 1) (k := k) (x := x) ?B ?F ?X ?N ?T ?l1 ?l2 ?hs ?hst ?hmx ?hS ?hps ?h0 ?h1 ?h2 ?hx ?hp ?hd ?hu ?hE ?_
      (case B => assumption); (case F => assumption); (case X => assumption); (case N => exact lN9); (case T => assumption); (case l1 => assumption); (case l2 => assumption)
      (case hs => exact rfl); (case hst => exact rfl); (case hmx => exact rfl); (case hS => exact rfl); (case hps => exact rfl)
      (case h0 => omega); (case h1 => omega); (case h2 => omega); (case hx => assumption); (case hp => exact Nat.zero_lt_succ _); (case hd => assumption); (case hu => assumption)
      (case hE => first | passes_own | with_unfolding_all passes_own)
      intro m' tm tp ts h' tk' F' N'
      (try dsimp only)
      k_steps
      exact ret _ _ _ _ _ _ _ (by assumption) (by assumption) (by assumption) (by assumption)
  · exfalso; omega
  · unfold Hold
    rename News _ _ _ _ => lN9
    rw [seg_cons (by omega) (by omega), first_go (m := x.cps.getD i.toNat 0) (.inl (by omega)) (by rw [if_neg (by omega)]), show i.toNat + 1 = (i + 1).toNat by omega] at ret
    · refine' pt_loop (mr := x.cps.getD i.toNat 0) (pre := []) (st := i + 1) (k := k) (x := x) ?B ?F ?X ?N ?T ?l1 ?l2 ?hs ?hst ?hmx ?hS ?hps ?h0 ?h1 ?h2 ?hx ?hp ?hd ?hu ?hE ?_
      (case B => assumption); (case F => assumption); (case X => assumption); (case N => exact lN9); (case T => assumption); (case l1 => assumption); (case l2 => assumption)
      (case hs => exact rfl); (case hst => exact rfl); (case hmx => exact rfl); (case hS => exact rfl); (case hps => exact rfl)
      (case h0 => omega); (case h1 => omega); (case h2 => omega); (case hx => assumption); (case hp => exact Nat.zero_lt_succ _); (case hd => assumption); (case hu => assumption)
      (case hE => first | passes_own | with_unfolding_all passes_own)
      intro m' tm tp ts h' tk' F' N'
      (try dsimp only)
      k_steps
      exact ret _ _ _ _ _ _ _ (by assumption) (by assumption) (by assumption) (by assumption)
end Mine


theorem Mine.quiet_C7 : True ∧ True := by w_top off; k_with_none; walk1 <;> trivial

-- C7
open PySem PySem.W PySem.Calls PyProof.Rows
set_option Elab.async false
set_option maxRecDepth 100000
set_option maxHeartbeats 8000000
set_option linter.all false
namespace Mine
local macro_rules | `(tactic| tb_rel) => `(tactic| (refine' code_def ?k1 ?k2 ?k3 ?k4 ?k5 ?kA ?kF ?kK ?k6 ?k7 ?k8 ?k9 ?kB ?_ ?c2 ?c3 ?c4 ?c5; (case kA => exact rfl); (case kF => exact rfl); (case kK => assumption); (case k1 => k_asm); (case k2 => k_asm); (case k3 => k_asm); (case k4 => k_asm); (case k5 => k_asm); (case k6 => k_is); (case k7 => k_is); (case k8 => ktr_room); (case k9 => first | exact BindsTo.of_eq rfl | exact binds_K (by k_in) rfl (by k_is) rfl rfl rfl); (case c5 => decide); (case kB => exact locs rfl); (case c2 => exact rfl); (case c3 => exact rfl); (case c4 => exact rfl); k_whole; intro g' L' h' FG' F' N' B' X' T'; (try dsimp only); (try k_lift B'); (try k_fold)))
local macro_rules | `(tactic| k_room) => `(tactic| ktr_room)
local macro_rules | `(tactic| k_all) => `(tactic| (rename (∀ p : Addr × Obj, p ∈ _ → p.1 < _) => hlt9; first | exact fun q hq => Nat.ne_of_lt (hlt9 q hq) | exact fun q hq => Nat.ne_of_lt (Nat.lt_trans (hlt9 q hq) (by assumption))))
local macro_rules | `(tactic| k_mem) => `(tactic| first | exact List.Mem.head _ | assumption | (refine' List.Mem.tail _ ?_; k_mem))
theorem pt_next {w : World} {mg mb : Str → Option Value} {mean : ExcName → Option Value} : ∀ {dp un : Nat} {gd : Option (List Code)} {cn : Str} {cs : Scope} {a : Addr} {ccd : Value} {cl : List (Str × Addr)} {outer : List Env} {A₀ : Around} {base h₀ : Heap} {L P dP : Addr} {m : Str → Option Value} {news : List (Addr × Obj)} {s : Shared} {x : Str} {i k : Int} {r : TR} {tx ti tk tm0 tp0 ts0 : Tok}
    {Q E : Value → Shared → Prop} (B : Below A₀ base outer h₀) (F : Fr h₀ L s.heap m) (X : (hd.heap_39 w.params).In h₀) (N : News h₀ L s.heap news)
    (T : Top hd.view_39 (looseW hd.view_39 [Str.ofString "MD_ASCII_PUNCT", Str.ofString "_State", Str.ofString "parseLinkTitle", Str.ofString "_Result", Str.ofString "_law_pieces"]) mean mg mb h₀)
    (hk : cs.kind = .function) (h0 : 0 ≤ i) (h1 : i ≤ k) (h2 : k ≤ x.length) (hx : x.length < 1000) (hP : (P, stO dP r tm0 tp0 ts0) ∈ news) (hdP : (dP, dictOf [] 0) ∈ news) (hp : r.st.length < 10000)
    (hd : dp + 2 < recursionLimit) (hu : un + 16 < cLine)
    (ret : ∀ q d tm tp ts h' tk', Fr h₀ L h' m → News h₀ L h' ((q, stO d (titleGo r.mr r.st i.toNat (seg x i.toNat k.toNat)) tm tp ts) :: (d, dictOf [] 0) :: news) → (∀ p ∈ news, p.1 < d) → d < q → Q (.ref q) { s with heap := h', toks := tk' }),
    wpAny (model PySem.Challenge.rw_bq0008_01.row.prog w) (ktrTop dp un gd cn cs L a ccd cl outer) (call (.ref 70) [.str x tx, .int i ti, .int k tk, .ref P]) Q E s := by
  k_fill
  intro dp un gd cn cs a ccd cl outer A₀ base h₀ L P dP m news s x i k r tx ti tk tm0 tp0 ts0 Q E B F X N T hk h0 h1 h2 hx hP hdP hp hd hu ret
  unfold stO at hP
  refine wpAny_call ?_
  k_dflt tb_rel
  k_with_none
  k_with "execs cons While" => refine hold_out ?_
  k_with "call ref" => ((first | (with_reducible show wpAny _ _ (call (Value.ref 28) _) _ _ _) | (with_reducible show wpAny _ _ (call (Value.ref 21) _) _ _ _)); refine hold_out ?_)
  k_steps
  · unfold Hold
    rename News _ _ _ _ => lN9
    refine' pt_loop (mr := r.mr) (pre := r.st) (st := i) (k := k) (x := x) ?B ?F ?X ?N ?T ?l1 ?l2 ?hs ?hst ?hmx ?hS ?hps ?h0 ?h1 ?h2 ?hx ?hp ?hd ?hu ?hE ?_
    (case B => assumption); (case F => assumption); (case X => assumption); (case N => exact lN9); (case T => assumption); (case l1 => assumption); (case l2 => assumption)
    (case hs => exact rfl); (case hst => exact rfl); (case hmx => exact rfl); (case hS => exact rfl); (case hps => exact rfl)
    (case h0 => omega); (case h1 => omega); (case h2 => omega); (case hx => assumption); (case hp => exact hp); (case hd => assumption); (case hu => assumption)
    (case hE => first | passes_own | with_unfolding_all passes_own)
    intro m' tm tp ts h' tk' F' N'
    (try dsimp only)
    k_steps
    exact ret _ _ _ _ _ _ _ (by assumption) (by assumption) (by assumption) (by assumption)
end Mine


theorem Mine.quiet_P2 : True ∧ True := by w_top off; k_with_none; walk1 <;> trivial

-- P2
open PySem PySem.W PySem.Calls PyProof.Rows
set_option Elab.async false
namespace Mine
structure DR where
  ok : Bool
  ps : Nat
  st : List Nat
def destNone : DR := ⟨false, 0, []⟩
/-- the scan between angle brackets: behind how many signs the closing one stands -/
def ascan : List Nat → Nat → Option Nat
  | [], _ => none
  | [c], n => if c = 10 ∨ c = 60 then none else if c = 62 then some n else none
  | c :: d :: r, n => if c = 10 ∨ c = 60 then none else if c = 62 then some n else if c = 92 then ascan r (n + 2) else ascan (d :: r) (n + 1)
/-- the scan without them: where it stops, and how deep -/
def dscan : Nat → List Nat → Nat → Option (Nat × Nat)
  | lv, [], n => some (n, lv)
  | lv, [c], n => if c ≤ 32 ∨ c = 127 then some (n, lv) else if c = 40 then (if 32 < lv + 1 then none else some (n + 1, lv + 1)) else if c = 41 then (if lv = 0 then some (n, lv) else some (n + 1, lv - 1)) else some (n + 1, lv)
  | lv, c :: d :: r, n => if c ≤ 32 ∨ c = 127 then some (n, lv) else if c = 92 then (if d = 32 then some (n, lv) else dscan lv r (n + 2)) else if c = 40 then (if 32 < lv + 1 then none else dscan (lv + 1) (d :: r) (n + 1)) else if c = 41 then (if lv = 0 then some (n, lv) else dscan (lv - 1) (d :: r) (n + 1)) else dscan lv (d :: r) (n + 1)
def destA (st : Nat) (l : List Nat) : DR := match ascan l 0 with
  | some n => ⟨true, st + n + 1, unescL (l.take n)⟩
  | none => destNone
def destB (st : Nat) (l : List Nat) : DR := match dscan 0 l 0 with
  | some (n, lv) => if n = 0 then destNone else if lv = 0 then ⟨true, st + n, unescL (l.take n)⟩ else destNone
  | none => destNone
def destOf (st : Nat) : List Nat → DR
  | [] => destNone
  | c :: r => if c = 60 then destA (st + 1) r else destB st (c :: r)
def reO (d : Addr) (r : DR) (tp ts : Tok) : Obj := { cls := .ref 89, dict := some d, data := .plain, slots := #[some (.bool r.ok), some (.int r.ps tp), some (.str (strOf r.st) ts)] }

theorem ascan_stop {c n : Nat} {r : List Nat} (h : c = 10 ∨ c = 60) : ascan (c :: r) n = none := by
  cases r with
  | nil => simp only [ascan, if_pos h]
  | cons d r => simp only [ascan, if_pos h]
theorem ascan_hit {n : Nat} {r : List Nat} : ascan (62 :: r) n = some n := by
  cases r <;> simp [ascan]
theorem ascan_one {c n : Nat} {r : List Nat} (h1 : ¬ (c = 10 ∨ c = 60)) (h2 : c ≠ 62) (h3 : c ≠ 92 ∨ r = []) : ascan (c :: r) n = ascan r (n + 1) := by
  cases r with
  | nil => simp only [ascan, if_neg h1, if_neg h2]
  | cons d r =>
    rcases h3 with h3 | h3
    · simp only [ascan, if_neg h1, if_neg h2, if_neg h3]
    · cases h3
theorem ascan_two {d n : Nat} {r : List Nat} : ascan (92 :: d :: r) n = ascan r (n + 2) := by
  simp [ascan]
theorem dscan_stop {lv c n : Nat} {r : List Nat} (h : c ≤ 32 ∨ c = 127) : dscan lv (c :: r) n = some (n, lv) := by
  cases r with
  | nil => simp only [dscan, if_pos h]
  | cons d r => simp only [dscan, if_pos h]
theorem dscan_space {lv n : Nat} {r : List Nat} : dscan lv (92 :: 32 :: r) n = some (n, lv) := by simp [dscan]
theorem dscan_two {lv d n : Nat} {r : List Nat} (h : d ≠ 32) : dscan lv (92 :: d :: r) n = dscan lv r (n + 2) := by simp [dscan, h]
theorem dscan_deep {lv n : Nat} {r : List Nat} (h : lv + 1 ≤ 32) : dscan lv (40 :: r) n = dscan (lv + 1) r (n + 1) := by
  cases r <;> simp [dscan, Nat.not_lt.mpr h]
theorem dscan_bad {lv n : Nat} {r : List Nat} (h : 32 < lv + 1) : dscan lv (40 :: r) n = none := by
  cases r <;> simp [dscan, h]
theorem dscan_shut {n : Nat} {r : List Nat} : dscan 0 (41 :: r) n = some (n, 0) := by
  cases r <;> simp [dscan]
theorem dscan_up {lv n : Nat} {r : List Nat} (h : lv ≠ 0) : dscan lv (41 :: r) n = dscan (lv - 1) r (n + 1) := by
  cases r <;> simp [dscan, h]
theorem dscan_one {lv c n : Nat} {r : List Nat} (h1 : ¬ (c ≤ 32 ∨ c = 127)) (h2 : c ≠ 40) (h3 : c ≠ 41) (h4 : c ≠ 92 ∨ r = []) : dscan lv (c :: r) n = dscan lv r (n + 1) := by
  cases r with
  | nil => simp only [dscan, if_neg h1, if_neg h2, if_neg h3]
  | cons d r =>
    rcases h4 with h4 | h4
    · simp only [dscan, if_neg h1, if_neg h2, if_neg h3, if_neg h4]
    · cases h4

section
variable {x : Str} {st c k : Int} {R : Option Nat} (h0 : 0 ≤ st) (hP : st ≤ c ∧ c ≤ k ∧ ascan (seg x c.toNat k.toNat) (c - st).toNat = R)
include h0 hP
theorem a_one (hc : c < k) (hk : k ≤ x.length) (h1 : ¬ (x.cps.getD c.toNat 0 = 10 ∨ x.cps.getD c.toNat 0 = 60)) (h2 : x.cps.getD c.toNat 0 ≠ 62) (h3 : x.cps.getD c.toNat 0 ≠ 92 ∨ ¬ c + 1 < k) :
    st ≤ c + 1 ∧ c + 1 ≤ k ∧ ascan (seg x (c + 1).toNat k.toNat) (c + 1 - st).toNat = R := by
  have e1 : (c + 1).toNat = c.toNat + 1 := by omega
  have e2 : (c + 1 - st).toNat = (c - st).toNat + 1 := by omega
  refine ⟨by omega, by omega, ?_⟩
  rw [← hP.2.2, seg_cons (p := c.toNat) (by omega) (by omega), e1, e2, ascan_one h1 h2]
  rcases h3 with h3 | h3
  · exact .inl h3
  · exact .inr (seg_nil (by omega))
theorem a_two (hc : c + 1 < k) (hk : k ≤ x.length) (h3 : x.cps.getD c.toNat 0 = 92) :
    st ≤ c + 2 ∧ c + 2 ≤ k ∧ ascan (seg x (c + 2).toNat k.toNat) (c + 2 - st).toNat = R := by
  have e1 : (c + 2).toNat = c.toNat + 1 + 1 := by omega
  have e2 : (c + 2 - st).toNat = (c - st).toNat + 2 := by omega
  refine ⟨by omega, by omega, ?_⟩
  rw [← hP.2.2, seg_cons (p := c.toNat) (by omega) (by omega), seg_cons (p := c.toNat + 1) (by omega) (by omega), e1, e2, h3, ascan_two]
theorem a_hit (hc : c < k) (hk : k ≤ x.length) (h1 : x.cps.getD c.toNat 0 = 62) : R = some (c - st).toNat := by
  rw [← hP.2.2, seg_cons (p := c.toNat) (by omega) (by omega), h1, ascan_hit]
theorem a_stop (hc : c < k) (hk : k ≤ x.length) (h1 : x.cps.getD c.toNat 0 = 10 ∨ x.cps.getD c.toNat 0 = 60) : R = none := by
  rw [← hP.2.2, seg_cons (p := c.toNat) (by omega) (by omega), ascan_stop h1]
theorem a_end (hc : ¬ c < k) : R = none := by
  rw [← hP.2.2, seg_nil (by omega), ascan]
end
theorem destA_hit {st n : Nat} {l : List Nat} (h : ascan l 0 = some n) : destA st l = ⟨true, st + n + 1, unescL (l.take n)⟩ := by unfold destA; rw [h]
theorem destA_none {st : Nat} {l : List Nat} (h : ascan l 0 = none) : destA st l = destNone := by unfold destA; rw [h]

section
variable {x : Str} {st c k lv : Int} {R : Option (Nat × Nat)} (h0 : 0 ≤ st) (hP : st ≤ c ∧ c ≤ k ∧ 0 ≤ lv ∧ dscan lv.toNat (seg x c.toNat k.toNat) (c - st).toNat = R)
include h0 hP
theorem d_one (hc : c < k) (hk : k ≤ x.length) (h1 : ¬ (x.cps.getD c.toNat 0 ≤ 32 ∨ x.cps.getD c.toNat 0 = 127)) (h2 : x.cps.getD c.toNat 0 ≠ 40) (h3 : x.cps.getD c.toNat 0 ≠ 41) (h4 : x.cps.getD c.toNat 0 ≠ 92 ∨ ¬ c + 1 < k) :
    st ≤ c + 1 ∧ c + 1 ≤ k ∧ 0 ≤ lv ∧ dscan lv.toNat (seg x (c + 1).toNat k.toNat) (c + 1 - st).toNat = R := by
  have e1 : (c + 1).toNat = c.toNat + 1 := by omega
  have e2 : (c + 1 - st).toNat = (c - st).toNat + 1 := by omega
  refine ⟨by omega, by omega, hP.2.2.1, ?_⟩
  rw [← hP.2.2.2, seg_cons (p := c.toNat) (by omega) (by omega), e1, e2, dscan_one h1 h2 h3]
  rcases h4 with h4 | h4
  · exact .inl h4
  · exact .inr (seg_nil (by omega))
theorem d_two (hc : c + 1 < k) (hk : k ≤ x.length) (h3 : x.cps.getD c.toNat 0 = 92) (h4 : x.cps.getD (c + 1).toNat 0 ≠ 32) :
    st ≤ c + 2 ∧ c + 2 ≤ k ∧ 0 ≤ lv ∧ dscan lv.toNat (seg x (c + 2).toNat k.toNat) (c + 2 - st).toNat = R := by
  have e0 : (c + 1).toNat = c.toNat + 1 := by omega
  have e1 : (c + 2).toNat = c.toNat + 1 + 1 := by omega
  have e2 : (c + 2 - st).toNat = (c - st).toNat + 2 := by omega
  refine ⟨by omega, by omega, hP.2.2.1, ?_⟩
  rw [e0] at h4
  rw [← hP.2.2.2, seg_cons (p := c.toNat) (by omega) (by omega), seg_cons (p := c.toNat + 1) (by omega) (by omega), e1, e2, h3, dscan_two h4]
theorem d_deep (hc : c < k) (hk : k ≤ x.length) (h3 : x.cps.getD c.toNat 0 = 40) (h4 : ¬ 32 < lv + 1) :
    st ≤ c + 1 ∧ c + 1 ≤ k ∧ 0 ≤ lv + 1 ∧ dscan (lv + 1).toNat (seg x (c + 1).toNat k.toNat) (c + 1 - st).toNat = R := by
  have e1 : (c + 1).toNat = c.toNat + 1 := by omega
  have e2 : (c + 1 - st).toNat = (c - st).toNat + 1 := by omega
  have e3 : (lv + 1).toNat = lv.toNat + 1 := by omega
  refine ⟨by omega, by omega, by omega, ?_⟩
  rw [← hP.2.2.2, seg_cons (p := c.toNat) (by omega) (by omega), e1, e2, e3, h3, dscan_deep (by omega)]
theorem d_up (hc : c < k) (hk : k ≤ x.length) (h3 : x.cps.getD c.toNat 0 = 41) (h4 : lv ≠ 0) :
    st ≤ c + 1 ∧ c + 1 ≤ k ∧ 0 ≤ lv - 1 ∧ dscan (lv - 1).toNat (seg x (c + 1).toNat k.toNat) (c + 1 - st).toNat = R := by
  have e1 : (c + 1).toNat = c.toNat + 1 := by omega
  have e2 : (c + 1 - st).toNat = (c - st).toNat + 1 := by omega
  have e3 : (lv - 1).toNat = lv.toNat - 1 := by omega
  refine ⟨by omega, by omega, by omega, ?_⟩
  rw [← hP.2.2.2, seg_cons (p := c.toNat) (by omega) (by omega), e1, e2, e3, h3, dscan_up (by omega)]
theorem d_bad (hc : c < k) (hk : k ≤ x.length) (h3 : x.cps.getD c.toNat 0 = 40) (h4 : 32 < lv + 1) : R = none := by
  rw [← hP.2.2.2, seg_cons (p := c.toNat) (by omega) (by omega), h3, dscan_bad (by omega)]
theorem d_stop (hc : c < k) (hk : k ≤ x.length) (h3 : x.cps.getD c.toNat 0 ≤ 32 ∨ x.cps.getD c.toNat 0 = 127) : R = some ((c - st).toNat, lv.toNat) := by
  rw [← hP.2.2.2, seg_cons (p := c.toNat) (by omega) (by omega), dscan_stop h3]
theorem d_space (hc : c + 1 < k) (hk : k ≤ x.length) (h3 : x.cps.getD c.toNat 0 = 92) (h4 : x.cps.getD (c + 1).toNat 0 = 32) : R = some ((c - st).toNat, lv.toNat) := by
  have e0 : (c + 1).toNat = c.toNat + 1 := by omega
  rw [e0] at h4
  rw [← hP.2.2.2, seg_cons (p := c.toNat) (by omega) (by omega), seg_cons (p := c.toNat + 1) (by omega) (by omega), h3, h4, dscan_space]
theorem d_shut (hc : c < k) (hk : k ≤ x.length) (h3 : x.cps.getD c.toNat 0 = 41) (h4 : lv = 0) : R = some ((c - st).toNat, lv.toNat) := by
  subst h4
  rw [← hP.2.2.2, seg_cons (p := c.toNat) (by omega) (by omega), h3]
  exact dscan_shut
theorem d_end (hc : ¬ c < k) : R = some ((c - st).toNat, lv.toNat) := by
  rw [← hP.2.2.2, seg_nil (by omega), dscan]
end
theorem destB_none {st : Nat} {l : List Nat} (h : dscan 0 l 0 = none) : destB st l = destNone := by unfold destB; rw [h]
theorem destB_nil {st n lv : Nat} {l : List Nat} (h : dscan 0 l 0 = some (n, lv)) (hn : n = 0) : destB st l = destNone := by unfold destB; rw [h]; simp [hn]
theorem destB_deep {st n lv : Nat} {l : List Nat} (h : dscan 0 l 0 = some (n, lv)) (hn : lv ≠ 0) : destB st l = destNone := by unfold destB; rw [h]; simp [hn]
theorem destB_ok {st n lv : Nat} {l : List Nat} (h : dscan 0 l 0 = some (n, lv)) (hn : n ≠ 0) (hl : lv = 0) : destB st l = ⟨true, st + n, unescL (l.take n)⟩ := by unfold destB; rw [h]; simp [hn, hl]
end Mine


theorem Mine.quiet_C9 : True ∧ True := by w_top off; k_with_none; walk1 <;> trivial

-- C9
open PySem PySem.W PySem.Calls PyProof.Rows
set_option Elab.async false
set_option maxRecDepth 100000
set_option maxHeartbeats 8000000
set_option linter.all false
namespace Mine
local macro_rules | `(tactic| tb_start) => `(tactic| (intro z h2 h3; have h4 := h3; simp only [List.forall_mem_cons, List.not_mem_nil, false_implies, implies_true, and_true, ne_eq] at h2; (try simp only [List.contains_cons, List.contains_nil, Bool.or_false, Bool.or_eq_false_iff, beq_eq_false_iff_ne, ne_eq] at h4); simp only [vals, kstB, h2, h3, h4, if_false, Bool.false_eq_true]))
local macro_rules | `(tactic| k_room) => `(tactic| ktr_room)
local macro_rules | `(tactic| k_all) => `(tactic| (rename (∀ p : Addr × Obj, p ∈ _ → p.1 < _) => hlt9; first | exact fun q hq => Nat.ne_of_lt (hlt9 q hq) | exact fun q hq => Nat.ne_of_lt (Nat.lt_trans (hlt9 q hq) (by assumption))))

local macro_rules | `(tactic| walk_at "WlPost") => `(tactic| (dsimp only [WlPost]))
theorem pd_call {w : World} {mg mb : Str → Option Value} {mean : ExcName → Option Value} : ∀ {dp un : Nat} {gd : Option (List Code)} {cn : Str} {cs : Scope} {a : Addr} {ccd : Value} {cl : List (Str × Addr)} {outer : List Env} {A₀ : Around} {base h₀ : Heap} {L : Addr} {m : Str → Option Value} {news : List (Addr × Obj)} {s : Shared} {x : Str} {i k : Int} {tx ti tk : Tok}
    {Q E : Value → Shared → Prop} (B : Below A₀ base outer h₀) (F : Fr h₀ L s.heap m) (X : (hd.heap_39 w.params).In h₀) (N : News h₀ L s.heap news)
    (T : Top hd.view_39 (looseW hd.view_39 [Str.ofString "MD_ASCII_PUNCT", Str.ofString "_State", Str.ofString "parseLinkTitle", Str.ofString "_Result", Str.ofString "_law_pieces"]) mean mg mb h₀)
    (hk : cs.kind = .function) (h0 : 0 ≤ i) (h1 : i < k) (h2 : k ≤ x.length) (hx : x.length < 1000)
    (hd : dp + 2 < recursionLimit) (hu : un + 16 < cLine)
    (ret : ∀ q d tp ts h' tk', Fr h₀ L h' m → News h₀ L h' ((q, reO d (destOf i.toNat (seg x i.toNat k.toNat)) tp ts) :: (d, dictOf [] 0) :: news) → (∀ p ∈ news, p.1 < d) → d < q → Q (.ref q) { s with heap := h', toks := tk' }),
    wpAny (model PySem.Challenge.rw_bq0008_01.row.prog w) (ktrTop dp un gd cn cs L a ccd cl outer) (call (.ref 101) [.str x tx, .int i ti, .int k tk]) Q E s := by
  k_fill
  intro dp un gd cn cs a ccd cl outer A₀ base h₀ L m news s x i k tx ti tk Q E B F X N T hk h0 h1 h2 hx hd hu ret
  refine wpAny_call ?_
  k_dflt cell_enter
  k_with_none
  k_with "exec While" => refine hold_out ?_
  k_with "exec While Compare cons nil" => refine hold_out ?_
  k_with "call ref" => ((first | (with_reducible show wpAny _ _ (call (Value.ref 28) _) _ _ _) | (with_reducible show wpAny _ _ (call (Value.ref 21) _) _ _ _)); refine hold_out ?_)
  k_with "call ref" => (k_dflt (refine' cc_call ?B ?F ?X ?N ?T ?hk ?h0 ?h1 ?hx ?hd ?hu ?_; (case B => assumption); (case F => assumption); (case X => assumption); (case N => assumption); (case T => assumption); (case hk => exact rfl); (case h0 => omega); (case h1 => omega); (case hx => assumption); (case hd => ktr_room); (case hu => ktr_units); intro t h' tk' F' N'; (try dsimp only)))
  k_with "call ref" => (k_dflt (refine' ue_call ?B ?F ?X ?N ?T ?hk ?hx ?hd ?hu ?_; (case B => assumption); (case F => assumption); (case X => assumption); (case N => assumption); (case T => assumption); (case hk => exact rfl); (case hx => omega); (case hd => ktr_room); (case hu => ktr_units); intro t h' tk' hul F' N'; (try dsimp only)))
  k_steps
  · unfold Hold
    rename Fr _ _ _ _ => lF'
    rename News _ _ _ _ => lN'
    have eA : destOf i.toNat (seg x i.toNat k.toNat) = destA (i + 1).toNat (seg x (i + 1).toNat k.toNat) := by
      rw [seg_cons (by omega) (by omega), destOf, if_pos (by omega), show i.toNat + 1 = (i + 1).toNat by omega]
    rw [eA] at ret
    refine wl_while (fun _ => _) (fun c : Int => [(Str.ofString "pos", fun t => Value.int c t)]) [Str.ofString "code"]
      (fun c => i + 1 ≤ c ∧ c ≤ k ∧ ascan (seg x c.toNat k.toNat) (c - (i + 1)).toNat = ascan (seg x (i + 1).toNat k.toNat) 0) (fun c => (k - c).toNat) (i + 1) lF' lN' ⟨⟨_, rfl⟩, trivial⟩ ?hpp ?hE ?turn
    case hpp =>
      refine ⟨Int.le_refl _, by omega, ?_⟩
      rw [Int.sub_self]
      rfl
    case hE => first | passes_own | with_unfolding_all passes_own
    case turn =>
      intro c T9 u h tk9 hP F1 N1
      clear lF' lN'
      simp only [vals, kstB] at F1
      k_fold
      k_steps
      · rw [destA_none (a_stop (by omega) hP (by omega) h2 (.inl (by omega)))] at ret
        exact ret _ _ _ _ _ _ (by assumption) (by assumption) (by assumption) (by assumption)
      · rw [destA_none (a_stop (by omega) hP (by omega) h2 (.inr (by omega)))] at ret
        exact ret _ _ _ _ _ _ (by assumption) (by assumption) (by assumption) (by assumption)
      · rw [destA_hit (a_hit (by omega) hP (by omega) h2 (by omega))] at ret
        unfold reO at ret
        dsimp only at ret
        rw [← slice_seg (by omega) hP.1 (by omega) hP.2.1, show (((i + 1).toNat + (c - (i + 1)).toNat + 1 : Nat) : Int) = c + 1 by omega] at ret
        exact ret _ _ _ _ _ _ (by assumption) (by assumption) (by assumption) (by assumption)
      · exact wl_end (c + 2) (by assumption) (by assumption) (fun _ h => h) ⟨⟨_, rfl⟩, trivial⟩ (by tb_start) (a_two (by omega) hP (by omega) h2 (by omega)) (by (try dsimp only); omega)
      · exact wl_end (c + 1) (by assumption) (by assumption) (fun _ h => h) ⟨⟨_, rfl⟩, trivial⟩ (by tb_start) (a_one (by omega) hP (by omega) h2 (by omega) (by omega) (.inr (by assumption))) (by (try dsimp only); omega)
      · exact wl_end (c + 1) (by assumption) (by assumption) (fun _ h => h) ⟨⟨_, rfl⟩, trivial⟩ (by tb_start) (a_one (by omega) hP (by omega) h2 (by omega) (by omega) (.inl (by omega))) (by (try dsimp only); omega)
      · rw [destA_none (a_end (by omega) hP (by assumption))] at ret
        exact ret _ _ _ _ _ _ (by assumption) (by assumption) (by assumption) (by assumption)
  · unfold Hold
    rename Fr _ _ _ _ => lF'
    rename News _ _ _ _ => lN'
    have eB : destOf i.toNat (seg x i.toNat k.toNat) = destB i.toNat (seg x i.toNat k.toNat) := by
      rw [seg_cons (by omega) (by omega), destOf, if_neg (by omega)]
    rw [eB] at ret
    refine wl_while (fun _ => _) (fun c : Int × Int => [(Str.ofString "pos", fun t => Value.int c.1 t), (Str.ofString "level", fun t => Value.int c.2 t)]) [Str.ofString "code"]
      (fun c => i ≤ c.1 ∧ c.1 ≤ k ∧ 0 ≤ c.2 ∧ dscan c.2.toNat (seg x c.1.toNat k.toNat) (c.1 - i).toNat = dscan 0 (seg x i.toNat k.toNat) 0) (fun c => (k - c.1).toNat) (i, 0) lF' lN' ⟨⟨_, rfl⟩, ⟨_, rfl⟩, trivial⟩ ?hpp ?hE ?turn
    case hpp =>
      refine ⟨Int.le_refl _, by omega, Int.le_refl _, ?_⟩
      dsimp only
      rw [Int.sub_self]
      rfl
    case hE => first | passes_own | with_unfolding_all passes_own
    case turn =>
      rintro ⟨c, lv⟩ T9 u h tk9 hP F1 N1
      clear lF' lN'
      simp only [vals, kstB] at F1
      dsimp only at hP F1
      k_fold
      k_steps
      all_goals first
        | exact wl_end (c + 2, lv) (by assumption) (by assumption) (fun _ h => h) ⟨⟨_, rfl⟩, ⟨_, rfl⟩, trivial⟩ (by tb_start) (d_two h0 hP (by omega) h2 (by omega) (by omega)) (by (try dsimp only); omega)
        | exact wl_end (c + 1, lv + 1) (by assumption) (by assumption) (fun _ h => h) ⟨⟨_, rfl⟩, ⟨_, rfl⟩, trivial⟩ (by tb_start) (d_deep h0 hP (by omega) h2 (by omega) (by omega)) (by (try dsimp only); omega)
        | exact wl_end (c + 1, lv - 1) (by assumption) (by assumption) (fun _ h => h) ⟨⟨_, rfl⟩, ⟨_, rfl⟩, trivial⟩ (by tb_start) (d_up h0 hP (by omega) h2 (by omega) (by omega)) (by (try dsimp only); omega)
        | exact wl_end (c + 1, lv) (by assumption) (by assumption) (fun _ h => h) ⟨⟨_, rfl⟩, ⟨_, rfl⟩, trivial⟩ (by tb_start) (d_one h0 hP (by omega) h2 (by omega) (by omega) (by omega) (by omega)) (by (try dsimp only); omega)
        | (rw [destB_none (d_bad h0 hP (by omega) h2 (by omega) (by omega))] at ret
           exact ret _ _ _ _ _ _ (by assumption) (by assumption) (by assumption) (by assumption))
        | (have eR : dscan 0 (seg x i.toNat k.toNat) 0 = some ((c - i).toNat, lv.toNat) := by
             first
             | exact d_stop h0 hP (by omega) h2 (by omega)
             | exact d_shut h0 hP (by omega) h2 (by omega) (by omega)
             | exact d_space h0 hP (by omega) h2 (by omega) (by omega)
             | exact d_end h0 hP (by omega)
           first
           | (rw [destB_nil eR (by omega)] at ret
              exact ret _ _ _ _ _ _ (by assumption) (by assumption) (by assumption) (by assumption))
           | (rw [destB_deep eR (by omega)] at ret
              exact ret _ _ _ _ _ _ (by assumption) (by assumption) (by assumption) (by assumption))
           | (rw [destB_ok eR (by omega) (by omega)] at ret
              unfold reO at ret
              dsimp only at ret
              rw [← slice_seg h0 hP.1 (by omega) hP.2.1, show ((i.toNat + (c - i).toNat : Nat) : Int) = c by omega] at ret
              exact ret _ _ _ _ _ _ (by assumption) (by assumption) (by assumption) (by assumption)))
        | skip
end Mine


theorem Mine.quiet_P3 : True ∧ True := by w_top off; k_with_none; walk1 <;> trivial

-- P3
open PySem PySem.W PySem.Calls PyProof.Rows
set_option Elab.async false
namespace Mine
/-- the signs of a text: one sign, or a backslash and the sign behind it -/
def signsL : List Nat → List (List Nat)
  | [] => []
  | [c] => [[c]]
  | c :: d :: r => if c = 92 then [c, d] :: signsL r else [c] :: signsL (d :: r)

theorem slice_clamp {x : Str} {a b : Int} (h0 : 0 ≤ a) (h1 : a ≤ b) (h2 : a ≤ x.length) : (Txt.slice x (some a) (some b)).cps.toList = (x.cps.toList.drop a.toNat).take (b.toNat - a.toNat) := by
  by_cases hb : b ≤ x.length
  · exact slice_toList h0 h1 hb
  · have e : Txt.slice x (some a) (some b) = Txt.slice x (some a) (some (x.length : Int)) := by
      have e2 : Builtin.Str.strSliceIndices (some a) (some b) 1 x.length = Builtin.Str.strSliceIndices (some a) (some (x.length : Int)) 1 x.length := by
        have h3 : ¬ b < 0 := by omega
        have h4 : ¬ ((x.length : Int) < 0) := by omega
        have h5 : min b (x.length : Int) = min (x.length : Int) (x.length : Int) := by omega
        simp only [Builtin.Str.strSliceIndices, h3, h4, if_false, h5, show ((1 : Int) > 0) = True from by simp, if_true]
      unfold Txt.slice
      rw [e2]
    rw [e, slice_toList h0 h2 (Int.le_refl _)]
    have hl := len_list x
    rw [List.take_of_length_le (by rw [List.length_drop]; omega), List.take_of_length_le (by rw [List.length_drop]; omega)]
theorem signsL_two {d : Nat} {r : List Nat} : signsL (92 :: d :: r) = [92, d] :: signsL r := by simp [signsL]
theorem signsL_one {c : Nat} {r : List Nat} (h : c ≠ 92 ∨ r = []) : signsL (c :: r) = [c] :: signsL r := by
  cases r with
  | nil => rfl
  | cons d r =>
    rcases h with h | h
    · simp [signsL, h]
    · cases h
theorem strsAre_snoc {vs : List Value} {ls : List (List Nat)} {y : Str} {t : Tok} {l : List Nat} (h : StrsAre vs (ls.map strOf)) (e : y.cps.toList = l) : StrsAre (vs ++ [.str y t]) ((ls ++ [l]).map strOf) := by
  rw [List.map_append]
  refine StrsAre.append' h ?_
  have : strOf l = y := str_ext (by rw [strOf_toList, e])
  rw [List.map_cons, this]
  exact StrsAre.cons _ _ StrsAre.nil
section
variable {x : Str} {c : Int} {vs : List Value} {t : Tok}
theorem sg_two (hP : 0 ≤ c ∧ c ≤ x.length + 1 ∧ (vs.length : Int) ≤ c ∧ ∃ ls, StrsAre vs (ls.map strOf) ∧ ls ++ signsL (x.cps.toList.drop c.toNat) = signsL x.cps.toList) (hc : c < x.length) (h : (Txt.item x c == Str.ofString "\\") = true) :
    0 ≤ c + 2 ∧ c + 2 ≤ x.length + 1 ∧ ((vs ++ [Value.str (Txt.slice x (some c) (some (c + 2))) t]).length : Int) ≤ c + 2 ∧ ∃ ls, StrsAre (vs ++ [Value.str (Txt.slice x (some c) (some (c + 2))) t]) (ls.map strOf) ∧ ls ++ signsL (x.cps.toList.drop (c + 2).toNat) = signsL x.cps.toList := by
  obtain ⟨h0, h1, h2, ls, h3, h4⟩ := hP
  rw [item_is (c := 92) (by decide) h0 hc, decide_eq_true_eq] at h
  have e2 : (c + 2).toNat = c.toNat + 2 := by omega
  refine ⟨by omega, by omega, by rw [List.length_append]; simp; omega, ls ++ [(x.cps.toList.drop c.toNat).take 2], strsAre_snoc h3 ?_, ?_⟩
  · rw [slice_clamp h0 (by omega) (by omega), e2]
    congr 1
    omega
  · rw [← h4, e2, List.append_assoc]
    congr 1
    rw [drop_cons x (n := c.toNat) (by omega), h]
    by_cases hl : c.toNat + 1 < x.length
    · rw [drop_cons x hl, signsL_two]
      rfl
    · rw [drop_end x (by omega : x.length ≤ c.toNat + 1), drop_end x (by omega : x.length ≤ c.toNat + 2)]
      rfl
theorem sg_one (hP : 0 ≤ c ∧ c ≤ x.length + 1 ∧ (vs.length : Int) ≤ c ∧ ∃ ls, StrsAre vs (ls.map strOf) ∧ ls ++ signsL (x.cps.toList.drop c.toNat) = signsL x.cps.toList) (hc : c < x.length) (h : (Txt.item x c == Str.ofString "\\") = false) :
    0 ≤ c + 1 ∧ c + 1 ≤ x.length + 1 ∧ ((vs ++ [Value.str (Txt.slice x (some c) (some (c + 1))) t]).length : Int) ≤ c + 1 ∧ ∃ ls, StrsAre (vs ++ [Value.str (Txt.slice x (some c) (some (c + 1))) t]) (ls.map strOf) ∧ ls ++ signsL (x.cps.toList.drop (c + 1).toNat) = signsL x.cps.toList := by
  obtain ⟨h0, h1, h2, ls, h3, h4⟩ := hP
  rw [item_is (c := 92) (by decide) h0 hc, decide_eq_false_iff_not] at h
  have e2 : (c + 1).toNat = c.toNat + 1 := by omega
  refine ⟨by omega, by omega, by rw [List.length_append]; simp; omega, ls ++ [(x.cps.toList.drop c.toNat).take 1], strsAre_snoc h3 ?_, ?_⟩
  · rw [slice_clamp h0 (by omega) (by omega), e2]
    congr 1
    omega
  · rw [← h4, e2, List.append_assoc]
    congr 1
    rw [drop_cons x (n := c.toNat) (by omega), signsL_one (.inl h)]
    rfl
end
theorem signsL_len : ∀ l : List Nat, (signsL l).length ≤ l.length
  | [] => Nat.le_refl _
  | [_] => Nat.le_refl _
  | c :: d :: r => by
    have h1 := signsL_len r
    have h2 := signsL_len (d :: r)
    simp only [signsL, List.length_cons] at h2 ⊢
    split <;> simp only [List.length_cons] <;> omega

/-- a sign with its escape taken off, where it is one of the seven -/
def plain1 : List Nat → List Nat
  | [a, b] => if b ∈ [40, 41, 34, 39, 60, 62, 92] then [b] else [a, b]
  | l => l
def plainL (ls : List (List Nat)) : List Nat := (ls.map plain1).flatten
theorem plain1_len (l : List Nat) : (plain1 l).length ≤ l.length := by
  unfold plain1
  split
  · split <;> simp
  · exact Nat.le_refl _
theorem join_empty : ∀ ys : List Str, (Txt.join (Str.ofString "") ys).cps.toList = (ys.map (·.cps.toList)).flatten := by
  have h : ∀ ys : List Str, (Str.join ⟨#[]⟩ ys).cps.toList = (ys.map (·.cps.toList)).flatten := by
    intro ys
    induction ys with
    | nil => rfl
    | cons y r ih => rw [PyProof.Rows.join_nil_cons, app_toList, ih]; rfl
  intro ys
  have e := eq_of_beq (PyProof.Rows.join_plain_closes (Str.ofString "") ys)
  rw [e]
  exact h ys
theorem join_strOf (ls : List (List Nat)) : Txt.join (Str.ofString "") (ls.map strOf) = strOf ls.flatten := by
  refine str_ext ?_
  rw [join_empty, List.map_map, strOf_toList]
  congr 1
  rw [show ((fun x : Str => x.cps.toList) ∘ strOf) = id from funext fun l => rfl, List.map_id]
theorem sum_le {ls : List Str} {B : Nat} (h : ∀ k ∈ ls, k.length ≤ B) : (ls.map (·.length)).sum ≤ B * ls.length := by
  induction ls with
  | nil => simp
  | cons k r ih =>
    have h1 := h k (.head _)
    have h2 := ih fun k hk => h k (.tail _ hk)
    simp only [List.map_cons, List.sum_cons, List.length_cons, Nat.mul_succ]
    omega
theorem flatten_len {ls : List (List Nat)} {B : Nat} (h : ∀ k ∈ ls, k.length ≤ B) : ls.flatten.length ≤ B * ls.length := by
  induction ls with
  | nil => simp
  | cons k r ih =>
    have h1 := h k (.head _)
    have h2 := ih fun k hk => h k (.tail _ hk)
    simp only [List.flatten_cons, List.length_append, List.length_cons, Nat.mul_succ]
    omega

theorem lit_seven : Str.ofString "()\"'<>\\" = ⟨#[40, 41, 34, 39, 60, 62, 92]⟩ := by decide
theorem str_two {k : Str} (h : (k.length : Int) = 2) : k.cps.toList = [k.cps.getD 0 0, k.cps.getD 1 0] := by
  have h2 : k.length = 2 := by omega
  have e := drop_cons k (n := 0) (by omega)
  rw [drop_cons k (n := 1) (by omega), drop_end k (n := 2) (by omega)] at e
  simpa using e
theorem plain_in {k : Str} (h : (k.length : Int) = 2) (hi : (Builtin.Str.occurrences (Str.ofString "()\"'<>\\") (Txt.item k 1) 0 (Str.ofString "()\"'<>\\").length 1).isEmpty = false) : strOf (plain1 k.cps.toList) = Txt.item k 1 := by
  rw [PySem.W.item_meets ⟨by omega, by omega⟩] at hi ⊢
  have hf := StrLaws.found_one (Str.ofString "()\"'<>\\") (k.cps.getD (1 : Int).toNat 0)
  rw [hi] at hf
  have hm : k.cps.getD 1 0 ∈ [40, 41, 34, 39, 60, 62, 92] := by
    have := of_decide_eq_true hf.symm
    rw [lit_seven] at this
    exact this
  rw [str_two h]
  show strOf (if k.cps.getD 1 0 ∈ [40, 41, 34, 39, 60, 62, 92] then [k.cps.getD 1 0] else _) = _
  rw [if_pos hm]
  rfl
theorem plain_out {k : Str} (h : (k.length : Int) = 2) (hi : (Builtin.Str.occurrences (Str.ofString "()\"'<>\\") (Txt.item k 1) 0 (Str.ofString "()\"'<>\\").length 1).isEmpty = true) : strOf (plain1 k.cps.toList) = k := by
  rw [PySem.W.item_meets ⟨by omega, by omega⟩] at hi
  have hf := StrLaws.found_one (Str.ofString "()\"'<>\\") (k.cps.getD (1 : Int).toNat 0)
  rw [hi] at hf
  have hm : ¬ k.cps.getD 1 0 ∈ [40, 41, 34, 39, 60, 62, 92] := by
    intro hm
    have := of_decide_eq_false hf.symm
    rw [lit_seven] at this
    exact this hm
  refine str_ext ?_
  rw [strOf_toList]
  conv => lhs; rw [str_two h]
  show (if k.cps.getD 1 0 ∈ [40, 41, 34, 39, 60, 62, 92] then [k.cps.getD 1 0] else _) = _
  rw [if_neg hm, ← str_two h]
theorem plain_lone {k : Str} (h : (k.length : Int) ≠ 2) : strOf (plain1 k.cps.toList) = k := by
  refine str_ext ?_
  rw [strOf_toList]
  have hl := len_list k
  unfold plain1
  split
  · rename_i a b e
    rw [e] at hl
    exact absurd (by rw [hl]; rfl) h
  · rfl
theorem plain_map (ls : List (List Nat)) : List.map (fun k : Str => strOf (plain1 k.cps.toList)) (List.map strOf ls) = (ls.map plain1).map strOf := by
  rw [List.map_map, List.map_map]
  rfl
theorem plain_len {ls : List (List Nat)} (hb : ∀ k ∈ ls, k.length ≤ 2) : (strOf (plainL ls)).length ≤ 2 * ls.length := by
  rw [len_list, strOf_toList]
  have := flatten_len (ls := ls.map plain1) (B := 2) (fun k hk => by
    obtain ⟨l, hl, rfl⟩ := List.mem_map.mp hk
    exact Nat.le_trans (plain1_len l) (hb l hl))
  rw [List.length_map] at this
  exact this
theorem plain_sum {ls : List (List Nat)} (hb : ∀ k ∈ ls, k.length ≤ 2) : (((ls.map plain1).map strOf).map (·.length)).sum ≤ 2 * ls.length := by
  have := sum_le (ls := (ls.map plain1).map strOf) (B := 2) (fun k hk => by
    obtain ⟨l, hl, rfl⟩ := List.mem_map.mp hk
    obtain ⟨l', hl', rfl⟩ := List.mem_map.mp hl
    rw [len_list, strOf_toList]
    exact Nat.le_trans (plain1_len l') (hb l' hl'))
  rw [List.length_map, List.length_map] at this
  exact this
end Mine


theorem Mine.quiet_C10 : True ∧ True := by w_top off; k_with_none; walk1 <;> trivial

-- C10
open PySem PySem.W PySem.Calls PyProof.Rows
set_option Elab.async false
set_option maxRecDepth 100000
set_option maxHeartbeats 8000000
set_option linter.all false
namespace Mine
structure SS where
  p : Int
  vs : List Value
  n : Nat
local macro_rules | `(tactic| tb_start) => `(tactic| (intro z h2 h3; have h4 := h3; simp only [List.forall_mem_cons, List.not_mem_nil, false_implies, implies_true, and_true, ne_eq] at h2; (try simp only [List.contains_cons, List.contains_nil, Bool.or_false, Bool.or_eq_false_iff, beq_eq_false_iff_ne, ne_eq] at h4); simp only [vals, kstB, h2, h3, h4, if_false, Bool.false_eq_true]))
local macro_rules | `(tactic| k_room) => `(tactic| ktr_room)
local macro_rules | `(tactic| k_all) => `(tactic| (rename (∀ p : Addr × Obj, p ∈ _ → p.1 < _) => hlt9; first | exact fun q hq => Nat.ne_of_lt (hlt9 q hq) | exact fun q hq => Nat.ne_of_lt (Nat.lt_trans (hlt9 q hq) (by assumption))))
local macro_rules | `(tactic| walk_at "WlPost") => `(tactic| (dsimp only [WlPost]))

theorem sg_call {w : World} {mg mb : Str → Option Value} {mean : ExcName → Option Value} : ∀ {dp un : Nat} {gd : Option (List Code)} {cn : Str} {cs : Scope} {a : Addr} {ccd : Value} {cl : List (Str × Addr)} {outer : List Env} {A₀ : Around} {base h₀ : Heap} {L : Addr} {m : Str → Option Value} {news : List (Addr × Obj)} {s : Shared} {x : Str} {tx : Tok}
    {Q E : Value → Shared → Prop} (B : Below A₀ base outer h₀) (F : Fr h₀ L s.heap m) (X : (hd.heap_39 w.params).In h₀) (N : News h₀ L s.heap news)
    (T : Top hd.view_39 (looseW hd.view_39 [Str.ofString "MD_ASCII_PUNCT", Str.ofString "_State", Str.ofString "parseLinkTitle", Str.ofString "_Result", Str.ofString "_law_pieces"]) mean mg mb h₀)
    (hk : cs.kind = .function) (hx : x.length < 1000)
    (hd : dp + 2 < recursionLimit) (hu : un + 16 < cLine)
    (ret : ∀ q vs n h' tk', Fr h₀ L h' m → News h₀ L h' ((q, listOf (List.toArray vs) n) :: news) → StrsAre vs ((signsL x.cps.toList).map strOf) → (∀ p ∈ news, p.1 < q) → Q (.ref q) { s with heap := h', toks := tk' }),
    wpAny (model PySem.Challenge.rw_bq0008_01.row.prog w) (ktrTop dp un gd cn cs L a ccd cl outer) (call (.ref 109) [.str x tx]) Q E s := by
  k_fill
  intro dp un gd cn cs a ccd cl outer A₀ base h₀ L m news s x tx Q E B F X N T hk hx hd hu ret
  refine wpAny_call ?_
  k_dflt cell_enter
  k_with_none
  k_with "exec While Compare cons nil" => refine hold_out ?_
  k_steps
  unfold Hold
  rename Fr _ _ _ _ => lF'
  rename News _ _ _ _ => lN'
  rename (∀ p : Addr × Obj, p ∈ _ → p.1 < _) => l1
  refine wl_while (fun c : SS => (_, listOf c.vs.toArray c.n) :: news) (fun c : SS => [(Str.ofString "at", fun t => Value.int c.p t)]) [Str.ofString "size"]
      (fun c => 0 ≤ c.p ∧ c.p ≤ x.length + 1 ∧ (c.vs.length : Int) ≤ c.p ∧ ∃ ls, StrsAre c.vs (ls.map strOf) ∧ ls ++ signsL (x.cps.toList.drop c.p.toNat) = signsL x.cps.toList) (fun c => (x.length + 1 - c.p).toNat) ⟨0, [], 0⟩ lF' lN' ⟨⟨_, rfl⟩, trivial⟩ ?hpp ?hE ?turn
  case hpp => exact ⟨Int.le_refl _, by dsimp only; omega, Int.le_refl _, [], StrsAre.nil, rfl⟩
  case hE => first | passes_own | with_unfolding_all passes_own
  case turn =>
      rintro ⟨c, vs, n⟩ T9 u h tk9 hP F1 N1
      clear lF' lN'
      simp only [vals, kstB] at F1
      dsimp only at hP F1 N1
      k_fold
      k_steps
      · rename News _ _ _ _ => lN9
        rw [List.push_toArray] at lN9
        exact wl_end (⟨c + 2, vs ++ [_], n + 1⟩) (by assumption) lN9 (fun _ h => h) ⟨⟨_, rfl⟩, trivial⟩ (by tb_start) (sg_two hP (by omega) (by assumption)) (by (try dsimp only); omega)
      · rename News _ _ _ _ => lN9
        rw [List.push_toArray] at lN9
        exact wl_end (⟨c + 1, vs ++ [_], n + 1⟩) (by assumption) lN9 (fun _ h => h) ⟨⟨_, rfl⟩, trivial⟩ (by tb_start) (sg_one hP (by omega) (by assumption)) (by (try dsimp only); omega)
      · obtain ⟨h0, h1, h2, ls, h3, h4⟩ := hP
        rw [drop_end x (by omega), signsL, List.append_nil] at h4
        rw [← h4] at ret
        exact ret _ _ _ _ _ (by assumption) (by assumption) h3 (by assumption)
end Mine


theorem Mine.quiet_B2 : True ∧ True := by w_top off; k_with_none; walk1 <;> trivial

-- B2
open PySem PySem.W PySem.Calls PyProof.Rows
set_option Elab.async false
set_option maxRecDepth 100000
namespace Mine
section
variable {prog : Program} {w : World} {A : Around} {h₀ : Heap} {L ax : Addr} {m : Str → Option Value} {env : Env} {elt : Expr} {x : Str} {scope : Scope} {cl : List (Str × Addr)} {s : Shared} {Fin : List Value → List (Addr × Obj) → Prop} {news : List (Addr × Obj)}
/-- what an element's evaluation that makes nothing hands on -/
def EltEnd (h₀ : Heap) (L : Addr) (m : Str → Option Value) (s : Shared) (all : List (Addr × Obj)) (R : Value → Prop) (y : Value) (s₂ : Shared) : Prop :=
  ∃ h' tk', s₂ = { s with heap := h', toks := tk' } ∧ Fr h₀ L h' m ∧ News h₀ L h' all ∧ R y
theorem eltEnd {all : List (Addr × Obj)} {R : Value → Prop} {y : Value} {h' : Heap} {tk' : Nat} (F : Fr h₀ L h' m) (N : News h₀ L h' all) (r : R y) : EltEnd h₀ L m s all R y { s with heap := h', toks := tk' } := ⟨h', tk', rfl, F, N, r⟩
/-- a comprehension over a list of values, item by item: U says what an item is, R what it becomes -/
theorem comp_items {α β : Type} {U : α → Value → Prop} {R : β → Value → Prop} (g : α → β) {vs : List Value} {S : List (Addr × Obj) → Prop} (hS : S news)
    (done : List α → List Value → Prop) (d0 : done [] []) (dstep : ∀ pre k ys y, done pre ys → R (g k) y → done (pre ++ [k]) (ys ++ [y])) :
    ∀ (rest : List α) (pre : List α) (ys : List Value), (∀ i v, vs.toArray[i]? = some v → pre.length ≤ i → ∃ k, rest[i - pre.length]? = some k ∧ U k v) → done pre ys →
    (∀ k v I oI C oC D m₂ ys h tk (E' : Value → Shared → Prop), k ∈ rest → U k v → LCg.NsObj oC m₂ → m₂ x = some v → Fr h₀ L h m → News h₀ L h ((I, oI) :: (C, oC) :: (D, LCg.lst ys) :: news) →
      wpAny (model prog w) A (eval elt (compEnvC scope cl C env)) (EltEnd h₀ L m s ((I, oI) :: (C, oC) :: (D, LCg.lst ys) :: news) (R (g k))) E' { s with heap := h, toks := tk }) →
    (∀ ys, done (pre ++ rest) ys → Fin ys news) →
    LCg.CompRest prog w A h₀ L m env elt x scope cl s S (fun i v => vs.toArray[i]? = some v) Fin rest.length pre.length ys news
  | [], pre, ys, _, hd, _, fin => LCg.CompRest.zero (fin ys (by rw [List.append_nil]; exact hd))
  | k :: rest, pre, ys, hv, hd, turn, fin => by
    refine LCg.CompRest.succ fun v I oI C oC D m₂ h tk E' hP hC hx F N off ne => ?_
    obtain ⟨k', hk, hU⟩ := hv _ v hP (Nat.le_refl _)
    rw [Nat.sub_self] at hk
    obtain rfl : k = k' := by simpa using hk
    refine wpAny_mono (turn k v I oI C oC D m₂ ys h tk E' (.head _) hU hC hx F N) (fun y s₂ q => ?_) fun _ _ e => e
    obtain ⟨h', tk', rfl, F', N', r⟩ := q
    refine ⟨h', tk', news, rfl, F', N', off, hS, ?_⟩
    have ih := comp_items (vs := vs) g hS done d0 dstep rest (pre ++ [k]) (ys ++ [y]) (fun i v' hv' hle => ?_) (dstep pre k ys y hd r) (fun k v I oI C oC D m₂ ys h tk E' hk => turn k v I oI C oC D m₂ ys h tk E' (.tail _ hk)) (fun ys hys => fin ys (by rw [List.append_assoc] at hys; exact hys))
    · rw [List.length_append] at ih
      exact ih
    · rw [List.length_append] at hle
      obtain ⟨k2, h2, h3⟩ := hv i v' hv' (by simp at hle; omega)
      refine ⟨k2, ?_, h3⟩
      have e : i - pre.length = (i - (pre ++ [k]).length) + 1 := by simp at hle ⊢; omega
      rw [e, List.getElem?_cons_succ] at h2
      exact h2
theorem comp_strs {ks : List Str} {vs : List Value} (g : Str → Str) (hv : StrsAre vs ks) {S : List (Addr × Obj) → Prop} (hS : S news)
    (turn : ∀ k t I oI C oC D m₂ ys h tk (E' : Value → Shared → Prop), k ∈ ks → LCg.NsObj oC m₂ → m₂ x = some (.str k t) → Fr h₀ L h m → News h₀ L h ((I, oI) :: (C, oC) :: (D, LCg.lst ys) :: news) →
      wpAny (model prog w) A (eval elt (compEnvC scope cl C env)) (EltEnd h₀ L m s ((I, oI) :: (C, oC) :: (D, LCg.lst ys) :: news) (fun y => ∃ t, y = .str (g k) t)) E' { s with heap := h, toks := tk })
    (fin : ∀ ys, StrsAre ys (ks.map g) → Fin ys news) :
    LCg.CompRest prog w A h₀ L m env elt x scope cl s S (fun i v => vs.toArray[i]? = some v) Fin vs.toArray.size 0 [] news := by
  have e : vs.toArray.size = ks.length := by rw [List.size_toArray]; exact hv.length
  rw [e]
  refine comp_items (U := fun k v => ∃ t, v = Value.str k t) (R := fun k y => ∃ t, y = Value.str k t) g hS (fun pre ys => StrsAre ys (pre.map g)) StrsAre.nil (fun pre k ys y hd ⟨t, ht⟩ => ?_) ks [] [] (fun i v hi _ => ?_) StrsAre.nil (fun k v I oI C oC D m₂ ys h tk E' hk ⟨t, ht⟩ hC hx F N => turn k t I oI C oC D m₂ ys h tk E' hk hC (ht ▸ hx) F N) fin
  · rw [List.map_append, ht]
    exact StrsAre.append' hd (StrsAre.cons _ _ StrsAre.nil)
  · obtain ⟨y, t, e1, e2⟩ := hv.item i v (by simpa using hi)
    exact ⟨y, by simpa using e2, t, e1⟩
end
theorem kp_take {l : List Value} {y : Int} (h : 0 ≤ y) : kms_pick l none (some y) = l.take y.toNat := by
  unfold kms_pick kms_lo kms_hi
  dsimp only
  rw [if_neg (by omega), List.drop_zero, Nat.sub_zero]
  exact kmk_take_min l _
theorem kp_drop {l : List Value} {x : Int} (h : 0 ≤ x) : kms_pick l (some x) none = l.drop x.toNat := by
  unfold kms_pick kms_lo kms_hi
  dsimp only
  rw [if_neg (by omega), kmk_drop_min, List.take_of_length_le]
  rw [List.length_drop]
  omega
theorem kp_run {l : List Value} {x y : Int} (h : 0 ≤ x) (h2 : 0 ≤ y) : kms_pick l (some x) (some y) = (l.drop x.toNat).take (y.toNat - x.toNat) := by
  unfold kms_pick kms_lo kms_hi
  dsimp only
  rw [if_neg (by omega), if_neg (by omega), kmk_drop_min]
  by_cases hx : x.toNat ≤ l.length
  · by_cases hy : y.toNat ≤ l.length
    · rw [Nat.min_eq_left hy, Nat.min_eq_left hx]
    · rw [Nat.min_eq_right (by omega), Nat.min_eq_left hx, List.take_of_length_le (by rw [List.length_drop]; omega), List.take_of_length_le (by rw [List.length_drop]; omega)]
  · rw [List.drop_eq_nil_of_le (by omega), List.take_nil, List.take_nil]
end Mine


theorem Mine.quiet_C11 : True ∧ True := by w_top off; k_with_none; walk1 <;> trivial

-- C11
open PySem PySem.W PySem.Calls PyProof.Rows
set_option Elab.async false
set_option maxRecDepth 100000
set_option maxHeartbeats 8000000
set_option linter.all false
namespace Mine
local macro_rules | `(tactic| k_room) => `(tactic| ktr_room)
local macro_rules | `(tactic| k_mem) => `(tactic| first | exact List.Mem.head _ | assumption | (refine' List.Mem.tail _ ?_; k_mem))
theorem pl_call {w : World} {mg mb : Str → Option Value} {mean : ExcName → Option Value} : ∀ {dp un : Nat} {gd : Option (List Code)} {cn : Str} {cs : Scope} {a : Addr} {ccd : Value} {cl : List (Str × Addr)} {outer : List Env} {A₀ : Around} {base h₀ : Heap} {L l : Addr} {n : Nat} {vs : List Value} {ls : List (List Nat)} {m : Str → Option Value} {news : List (Addr × Obj)} {s : Shared}
    {Q E : Value → Shared → Prop} (B : Below A₀ base outer h₀) (F : Fr h₀ L s.heap m) (X : (hd.heap_39 w.params).In h₀) (N : News h₀ L s.heap news)
    (T : Top hd.view_39 (looseW hd.view_39 [Str.ofString "MD_ASCII_PUNCT", Str.ofString "_State", Str.ofString "parseLinkTitle", Str.ofString "_Result", Str.ofString "_law_pieces"]) mean mg mb h₀)
    (hk : cs.kind = .function) (hl : (l, listOf vs.toArray n) ∈ news) (hv : StrsAre vs (ls.map strOf)) (hx : ls.length < 1000) (hb : ∀ k ∈ ls, k.length ≤ 2)
    (hd : dp + 2 < recursionLimit) (hu : un + 16 < cLine)
    (ret : ∀ t h' tk', (strOf (plainL ls)).length ≤ 2 * ls.length → Fr h₀ L h' m → News h₀ L h' news → Q (.str (strOf (plainL ls)) t) { s with heap := h', toks := tk' }),
    wpAny (model PySem.Challenge.rw_bq0008_01.row.prog w) (ktrTop dp un gd cn cs L a ccd cl outer) (call (.ref 114) [.ref l]) Q E s := by
  k_fill
  intro dp un gd cn cs a ccd cl outer A₀ base h₀ L l n vs ls m news s Q E B F X N T hk hl hv hx hb hd hu ret
  refine wpAny_call ?_
  k_dflt cell_enter
  k_with_none
  k_with "eval ListComp" => (k_dflt (refine LCg.ListComp_U (F₀ := by k_asm) (by with_unfolding_all rfl) (by decide) (by rfl) (by decide) (by rfl) ?_))
  k_with "CompSrc" => refine hold_out ?_
  k_with "EltEnd" => refine hold_out ?_
  k_steps
  unfold Hold
  refine LCg.CompSrc.ledger (by rfl) (by k_asm) (by k_asm) (by k_mem) (by rw [List.size_toArray, hv.length, List.length_map, sizeLine_eq]; omega) (fun g2 => ?_)
  refine comp_strs (fun k => strOf (plain1 k.cps.toList)) hv (.inr ⟨_, by k_mem, rfl, _, rfl⟩) ?turn ?fin
  case turn =>
    intro k t I oI C oC D m₂ ys h tk E' hk2 hC hx F N
    have hkl : k.length ≤ 2 := by
      obtain ⟨l', hl', rfl⟩ := List.mem_map.mp hk2
      exact hb l' hl'
    k_steps
    · exact eltEnd F N ⟨_, by rw [plain_out (by assumption) (by assumption)]⟩
    · exact eltEnd F N ⟨_, by rw [plain_in (by assumption) (by assumption)]⟩
    · exact eltEnd F N ⟨_, by rw [plain_lone (by assumption)]⟩
  case fin =>
    intro ys hys
    k_with "call builtin:str.join" => (k_dflt (refine join_list (News.isList (by k_asm) (by k_mem)) (by assumption) ?_ ?_))
    k_steps
    · rw [plain_map, List.length_map, List.length_map, show (Str.ofString "").length = 0 by decide]
      have := plain_sum hb
      omega
    · rw [plain_map, join_strOf]
      exact ret _ _ _ (plain_len hb) (by assumption) (cb_drop (by assumption) fun p hp => .tail _ hp)
end Mine


theorem Mine.quiet_B3 : True ∧ True := by w_top off; k_with_none; walk1 <;> trivial

-- B3
open PySem PySem.W PySem.Calls PyProof.Rows
set_option Elab.async false
set_option maxRecDepth 100000
namespace Mine
def FoEnd {σ : Type} (h₀ : Heap) (L : Addr) (s : Shared) (all : List (Addr × Obj)) (V : σ → NV) (stored : List Str) (m₀ : Str → Option Value) (P : σ → Prop) (s₂ : Shared) : Prop :=
  ∃ (c' : σ) (h' : Heap) (tk : Nat) (m' : Str → Option Value) (news' : List (Addr × Obj)), s₂ = { s with heap := h', toks := tk } ∧ Fr h₀ L h' m' ∧ News h₀ L h' news' ∧ (∀ p ∈ all, p ∈ news') ∧ HasN m' (V c') ∧ (∀ z, (∀ p ∈ V c', z ≠ p.1) → stored.contains z = false → m' z = m₀ z) ∧ P c'
def FoPost {σ : Type} (h₀ : Heap) (L : Addr) (s : Shared) (all : List (Addr × Obj)) (V : σ → NV) (stored : List Str) (m₀ : Str → Option Value) (P : σ → Prop) (Q : Flow → Shared → Prop) (f : Flow) (s₂ : Shared) : Prop :=
  match f with
  | .ret v => Q (.ret v) s₂
  | .brk => Q .next s₂
  | _ => FoEnd h₀ L s all V stored m₀ P s₂
theorem fo_end {σ : Type} {h₀ : Heap} {L : Addr} {s : Shared} {all : List (Addr × Obj)} {V : σ → NV} {stored : List Str} {m₀ m' : Str → Option Value} {P : σ → Prop} {h' : Heap} {tk : Nat} {news' : List (Addr × Obj)} (c' : σ)
    (F : Fr h₀ L h' m') (N : News h₀ L h' news') (hn : ∀ p ∈ all, p ∈ news') (hk : HasN m' (V c')) (hr : ∀ z, (∀ p ∈ V c', z ≠ p.1) → stored.contains z = false → m' z = m₀ z) (hp : P c') :
    FoEnd h₀ L s all V stored m₀ P { s with heap := h', toks := tk } := ⟨c', h', tk, m', news', rfl, F, N, hn, hk, hr, hp⟩
section
variable {prog : Program} {w : World} {A : Around} {E : Value → Shared → Prop} {Q : Flow → Shared → Prop} {s : Shared} {env : Env} {h₀ : Heap} {target : Expr} {body : List Stmt} {news : List (Addr × Obj)} {m₀ : Str → Option Value}
/-- a for loop, item by item, over a ledger that stays: V lists the names that a turn binds anew, stored the names it may bind -/
theorem fo_rest {α σ : Type} {L : Addr} (hL : L = env.locals) {I : Addr} {nm : String} {keep : List (Addr × Obj)} (hk : SubL keep news) (hI : ∀ p ∈ news, p.1 < I) (itm : α → Itm) (V : σ → NV) (stored : List Str) (P : List α → σ → Prop)
    (turn : ∀ a rest (c : σ) (T : Nat → Tok) (u : Str → Option Value) v h tk o, P (a :: rest) c → (itm a).Is v h → o.cls = .type nm → Fr h₀ L h (kstB (fun z => if stored.contains z then u z else m₀ z) (vals (V c) T)) → News h₀ L h ((I, o) :: news) →
      wpAny (model prog w) A (assign target env v) (fun _ s₂ => wpAny (model prog w) A (execs body env) (FoPost h₀ L s ((I, o) :: news) V stored m₀ (P rest) Q) E s₂) E { s with heap := h, toks := tk })
    (done : ∀ (c : σ) (T : Nat → Tok) (u : Str → Option Value) h tk, P [] c → Fr h₀ L h (kstB (fun z => if stored.contains z then u z else m₀ z) (vals (V c) T)) → News h₀ L h news → Q .next { s with heap := h, toks := tk }) :
    ∀ (l : List α) (c : σ) (m : Str → Option Value), HasN m (V c) → (∀ z, (∀ p ∈ V c, z ≠ p.1) → stored.contains z = false → m z = m₀ z) → P l c →
      ItemsRest prog w A E h₀ env target body Q s [(I, nm)] keep (l.map itm) m news := by
  subst hL
  have eqm : ∀ (c : σ) (m : Str → Option Value), HasN m (V c) → (∀ z, (∀ p ∈ V c, z ≠ p.1) → stored.contains z = false → m z = m₀ z) → ∃ T, m = kstB (fun z => if stored.contains z then m z else m₀ z) (vals (V c) T) := by
    intro c m hm hr
    obtain ⟨T, hT⟩ := has_vals hm
    refine ⟨T, (funext fun z => kstB_eq hT fun hz => ?_).symm⟩
    cases hs : stored.contains z with
    | true => simp
    | false => simpa using (hr z (vals_names.mp hz) hs).symm
  intro l
  induction l with
  | nil =>
    intro c m hm hr hp
    obtain ⟨T, e⟩ := eqm c m hm hr
    exact ItemsRest.zero fun h tk F N => done c T m h tk hp (e ▸ F) N
  | cons a l ih =>
    intro c m hm hr hp
    obtain ⟨T, e⟩ := eqm c m hm hr
    intro v h tk hv F
    refine AllObj.cons fun o ho => AllObj.nil fun N => ?_
    refine wpAny_mono (turn a l c T m v h tk o hp hv ho (e ▸ F) N) (fun _ s₂ q => wpAny_mono q (fun f s₃ q => ?_) fun _ _ e => e) fun _ _ e => e
    have fin : FoEnd h₀ env.locals s ((I, o) :: news) V stored m₀ (P l) s₃ → UnrEndW h₀ env.locals { s with heap := h, toks := tk } [(I, o)] (fun m' n' => SubL keep n' ∧ ItemsRest prog w A E h₀ env target body Q s [(I, nm)] keep (l.map itm) m' n') s₃ := by
      rintro ⟨c', h', tk', m', news', rfl, F', N', hn, hk', hr', hp'⟩
      refine ⟨h', tk', m', news, rfl, F', fun p hp => N' p (hn p hp), fun p hp q hq => ?_, hk, ih c' m' hk' hr' hp'⟩
      rw [List.mem_singleton.mp hq]
      exact Nat.ne_of_lt (hI p hp)
    cases f with
    | ret v => exact q
    | brk => exact q
    | next => exact fin q
    | cont => exact fin q

theorem letGo_rangeiter {I : Addr} {x left step : Int} {v : Value} {Q' : Unit → Shared → Prop} {s' : Shared} (hit : IsRangeIter s'.heap I x left step) (h : Q' () s') :
    wpAny (model prog w) A (letOwnedTupleGo target (.ref I) v) Q' E s' := by
  unfold letOwnedTupleGo
  cases target <;> first
    | exact wpAny_pure h
    | (cases v <;> first
        | exact wpAny_pure h
        | (refine wpAny_bind (wpAny_load hit ?_)
           exact wpAny_pure h))
theorem iter_rangeTurns {r : Addr} {a₀ b₀ : Int} {t₀ u₀ v₀ : Tok} {n : Nat}
    (hh : A.handled = none) (hr : IsRange s.heap r a₀ b₀ 1 t₀ u₀ v₀) (hsmall : Builtin.Range.small a₀ b₀ 1 = true) (hn : Builtin.Range.rangeSize a₀ b₀ 1 = (n : Int)) (F : Fr h₀ env.locals s.heap m₀) (N : News h₀ env.locals s.heap news)
    (rest₀ : ∀ I : Addr, (∀ p ∈ news, p.1 < I) → ItemsRest prog w A E h₀ env target body Q s [(I, "range_iterator")] [] ((List.range n).map fun (i : Nat) => .tok fun t => .int (a₀ + (i : Int)) t) m₀ news) :
    wpAny (model prog w) A (pyIter (.ref r)) (fun it s₂ => TurnsAt prog w A h₀ env target body Q E it s₂) E s := by
  refine wpAny_pyIter_range hr hsmall ?_
  have W : Walks prog w A s.heap.objs.size [s.heap.objs.size] [s.heap.objs.size] n (fun i v => i < n ∧ ∃ t, v = .int (a₀ + i * 1) t)
      (fun i h => IsRangeIter h s.heap.objs.size (a₀ + (i : Nat) * 1) ((n : Int) - (i : Nat)) 1) := (Walks.range hh _ a₀ 1 n).bound
  refine ktu_core (tk0 := s.toks) (keep := []) (KTurns.ofWalks W fun i v s Q E st q => ?_) (by simp) (fun i v h hp => ?_) (fun i h st => ?_) (fun b hb => ?_) (fun b hb => by simpa using hb) (fun b hb => ?_) ?_ (fun p hp hI => ?_) ?_ (F.push _) (fun p hp => ⟨Heap.get?_push_of_some _ (N p hp).1, (N p hp).2⟩) trivial (rest₀ _ fun p hp => Heap.lt_size (N p hp).1)
  · exact letGo_rangeiter st q
  · obtain ⟨hi, t, rfl⟩ := hp
    refine ⟨.tok fun t => .int (a₀ + (i : Int)) t, by simp [hi], t, by simp⟩
  · exact ⟨[(s.heap.objs.size, _)], ⟨⟨rfl, rfl⟩, trivial⟩, fun p hp => by rw [List.mem_singleton.mp hp]; exact st⟩
  · have hb' : b = s.heap.objs.size := by simpa using hb
    rw [hb']
    exact ⟨List.mem_cons_self .., next_is_new F⟩
  · have hb' : b = s.heap.objs.size := by simpa using hb
    exact .inl (by simp [hb'])
  · intro hI
    exact absurd F.ns.lt ((List.mem_singleton.mp hI) ▸ Nat.lt_irrefl _)
  · exact absurd (Heap.lt_size (N p hp).1) ((List.mem_singleton.mp hI) ▸ Nat.lt_irrefl _)
  · show IsRangeIter _ _ _ _ _
    rw [hn]
    simpa using Heap.get?_push_size _ rfl
end
theorem st_canLay : ∀ ls : List Str, (∀ k ∈ ls, PyData.strOk k = true) → PyData.canLayAll0 (ls.map PyData.str) = true
  | [], _ => rfl
  | k :: r, h => by simp [PyData.canLayAll0, PyData.canLay0, st_canLay r fun k hk => h k (.tail _ hk), h k (.head _)]
theorem strOk_of {k : List Nat} (h : ∀ c ∈ k, c < 1114112) : PyData.strOk (strOf k) = true := by
  unfold PyData.strOk
  simpa [strOf] using h
theorem st_depth : ∀ ls : List Str, PyData.depthAll (ls.map PyData.str) = 0
  | [] => rfl
  | _ :: r => by simp [PyData.depthAll, PyData.depth, st_depth r]
theorem st_shaped {ls : List Str} (h : ∀ k ∈ ls, PyData.strOk k = true) : SeqAt.shaped (.list (ls.map PyData.str)) = true := by
  simp [SeqAt.shaped, PyData.canLay0, PyData.depth, st_canLay ls h, st_depth]
theorem st_sameAll : ∀ ls ms : List Str, PySem.Spec.sameAll (ls.map PyData.str) (ms.map PyData.str) = decide (ls = ms)
  | [], [] => by simp [PySem.Spec.sameAll]
  | [], _ :: _ => by simp [PySem.Spec.sameAll]
  | _ :: _, [] => by simp [PySem.Spec.sameAll]
  | a :: r, b :: t => by
    simp only [List.map_cons, PySem.Spec.sameAll, PySem.Spec.same, st_sameAll r t]
    by_cases h : a = b <;> by_cases h' : r = t <;> simp [h, h']
theorem st_same (ls ms : List Str) : PySem.Spec.same (.list (ls.map PyData.str)) (.list (ms.map PyData.str)) = decide (ls = ms) := by
  simp only [PySem.Spec.same]; exact st_sameAll ls ms
theorem st_carried : ∀ {vs : List Value} {ls : List Str}, StrsAre vs ls → CarriedAll vs (ls.map PyData.str)
  | _, _, .nil => .nil
  | _, _, .cons _ t r => .cons (.str _ t) (st_carried r)
theorem eq_strs {prog : Program} {w : World} {A : Around} {E : Value → Shared → Prop} {s : Shared} {h₀ : Heap} {L a b : Addr} {news : List (Addr × Obj)} {xs ys : List Value} {ls ms : List Str} {n k : Nat} {Q : Value → Shared → Prop}
    (N : News h₀ L s.heap news) (ha : (a, listOf xs.toArray n) ∈ news) (hb : (b, listOf ys.toArray k) ∈ news) (hi : StrsAre xs ls) (hj : StrsAre ys ms) (oi : ∀ k ∈ ls, PyData.strOk k = true) (oj : ∀ k ∈ ms, PyData.strOk k = true) (hu : A.units + 64 < cLine) (h : Q (.bool (decide (ls = ms))) s) :
    wpAny (model prog w) A (compareOp .Eq (.ref a) (.ref b)) Q E s :=
  eq_dataH_same (reads_newData (News.isList N ha) (st_carried hi)) (reads_newData (News.isList N hb) (st_carried hj)) (st_shaped oi) (st_shaped oj) hu (SeqAt.noMix_of_shape (.list .str) rfl _ _ (list_map_has fun _ => rfl) (list_map_has fun _ => rfl)) (by rw [st_same]; exact h)
theorem tru_cons {prog : Program} {w : World} {A : Around} {E : Value → Shared → Prop} {s : Shared} {l : Addr} {v : Value} {vs : List Value} {Q : Bool → Shared → Prop} (hl : s.heap.IsList l (v :: vs).toArray) (hz : (vs.length : Int) < 10000) (h : ∀ k, Q true { s with toks := k }) : wpAny (model prog w) A (truthy (.ref l)) Q E s := by
  refine wpAny_truthy_list hl (by rw [List.size_toArray, List.length_cons]; omega) ?_
  exact h _
theorem tru_nil {prog : Program} {w : World} {A : Around} {E : Value → Shared → Prop} {s : Shared} {l : Addr} {Q : Bool → Shared → Prop} (hl : s.heap.IsList l ([] : List Value).toArray) (h : ∀ k, Q false { s with toks := k }) : wpAny (model prog w) A (truthy (.ref l)) Q E s := by
  refine wpAny_truthy_list hl (by decide) ?_
  exact h _
theorem ok_one {k : Str} (h : PyData.strOk k = true) : ∀ x ∈ [k], PyData.strOk x = true := fun x hx => by rw [List.mem_singleton.mp hx]; exact h
theorem ok_lt : PyData.strOk (Str.ofString "<") = true := by
  rw [show Str.ofString "<" = strOf [60] from by decide]
  exact strOk_of (by decide)
theorem range_drop {n j i : Nat} {rest : List Nat} (h : i :: rest = (List.range n).drop j) : i = j ∧ j < n ∧ rest = (List.range n).drop (j + 1) := by
  by_cases hj : j < n
  · rw [List.drop_eq_getElem_cons (by simpa using hj)] at h
    simp at h
    exact ⟨h.1, hj, h.2⟩
  · rw [List.drop_eq_nil_of_le (by simpa using hj)] at h
    cases h
theorem range_done {n j : Nat} (h : [] = (List.range n).drop j) : n ≤ j := by
  have := congrArg List.length h
  simp at this
  omega
theorem strs_at {vs : List Value} {ls : List (List Nat)} (h : StrsAre vs (ls.map strOf)) {j : Nat} (hj : j < ls.length) : ∃ c t, ls[j]? = some c ∧ vs[j]? = some (.str (strOf c) t) := by
  have hl : j < vs.length := by rw [h.length, List.length_map]; exact hj
  obtain ⟨y, t, e1, e2⟩ := h.item j vs[j] (by simp [hl])
  rw [List.getElem?_map, List.getElem?_eq_getElem hj] at e2
  refine ⟨ls[j], t, by simp [hj], ?_⟩
  have e3 : strOf ls[j] = y := by simpa using e2
  rw [e3, ← e1]
  simp [hl]
theorem StrsAre.one {k : Str} {t : Tok} : StrsAre [.str k t] [k] := .cons _ _ .nil
end Mine


theorem Mine.quiet_P4 : True ∧ True := by w_top off; k_with_none; walk1 <;> trivial

-- P4
open PySem PySem.W PySem.Calls PyProof.Rows
set_option Elab.async false
namespace Mine
/-- the place of the closing bracket of an address in angle brackets -/
def angL : List (List Nat) → Nat → Option Nat
  | [], _ => none
  | c :: r, k => if c = [60] ∨ c = [10] then none else if c = [62] then some k else angL r (k + 1)
def deepOf (c : List Nat) : Int := if c = [40] then 1 else if c = [41] then -1 else 0
/-- depth and count of the signs of an address without brackets -/
def bareL : List (List Nat) → Int → Nat → Int × Nat
  | [], d, n => (d, n)
  | c :: r, d, n => if c = [32] ∨ c = [10] ∨ c = [1] ∨ c = [127] ∨ (c = [41] ∧ d = 0) then (d, n) else bareL r (d + deepOf c) (n + 1)
/-- the signs of the address and the count of the signs up to its end -/
def addrL (ls : List (List Nat)) : Option (List (List Nat) × Nat) :=
  if ls.head? = some [60] then (angL ls.tail 1).map fun k => ((ls.drop 1).take (k - 1), k + 1)
  else if 0 < (bareL ls 0 0).2 ∧ (bareL ls 0 0).1 = 0 then some (ls.take (bareL ls 0 0).2, (bareL ls 0 0).2) else none
/-- the closing sign of a title that opens with this sign -/
def shutL (c : List Nat) : List Nat := if c = [34] then [34] else if c = [39] then [39] else if c = [40] then [41] else []
def titGo (shut : List Nat) : List (List Nat) → Nat → Option (Option Nat)
  | [], _ => some none
  | c :: r, k => if c = shut then some (some k) else if c = [40] ∧ shut = [41] then none else titGo shut r (k + 1)
def titFin (r : List (List Nat)) : Option Nat → List (List Nat) × Nat
  | none => (r, 0)
  | some k => (r.take (k - 1), k + 1)
/-- the signs of a title and the count of the signs up to its end, 0 where it is not shut -/
def titleL : List (List Nat) → Option (List (List Nat) × Nat)
  | [] => none
  | c :: r => if shutL c = [] then none else (titGo (shutL c) r 1).map (titFin r)
theorem strOf_inj {a b : List Nat} (h : strOf a = strOf b) : a = b := by
  have := congrArg (fun x : Str => x.cps.toList) h
  simpa [strOf] using this
theorem is_lit {c l : List Nat} {x : Str} (hx : x = strOf l) : (strOf c == x) = decide (c = l) := by
  subst hx
  by_cases h : c = l
  · simp [h]
  · have : ¬ strOf c = strOf l := fun e => h (strOf_inj e)
    simp [h, this]
theorem is_lit' {c l : List Nat} {x : Str} (hx : x = strOf l) : (x == strOf c) = decide (c = l) := by
  rw [← is_lit hx]
  exact Bool.eq_iff_iff.mpr ⟨fun h => beq_iff_eq.mpr (eq_of_beq h).symm, fun h => beq_iff_eq.mpr (eq_of_beq h).symm⟩
theorem lt_lit : Str.ofString "<" = strOf [60] := by decide
theorem gt_lit : Str.ofString ">" = strOf [62] := by decide
theorem nl_lit : Str.ofString "\n" = strOf [10] := by decide
theorem sp_lit : Str.ofString " " = strOf [32] := by decide
theorem op_lit : Str.ofString "(" = strOf [40] := by decide
theorem cp_lit : Str.ofString ")" = strOf [41] := by decide
theorem c1_lit : Str.ofString "\x01" = strOf [1] := by decide
theorem dl_lit : Str.ofString "\x7f" = strOf [127] := by decide
theorem dq_lit : Str.ofString "\"" = strOf [34] := by decide
theorem sq_lit : Str.ofString "'" = strOf [39] := by decide
theorem one_lit {c l : List Nat} {x : Str} (hx : x = strOf l) : ([strOf c] = [x]) ↔ c = l := by
  subst hx
  constructor
  · intro h
    exact strOf_inj (List.cons.inj h).1
  · intro h
    rw [h]
theorem two_any {c : List Nat} : ([Str.ofString "<", Str.ofString "\n"].any fun x => x == strOf c) = decide (c = [60] ∨ c = [10]) := by
  simp only [List.any_cons, List.any_nil, is_lit' lt_lit, is_lit' nl_lit, Bool.or_false, Bool.decide_or]
theorem drop_at {α : Type} {ls : List α} {i : Nat} {c : α} (h : ls[i]? = some c) : ls.drop i = c :: ls.drop (i + 1) := by
  obtain ⟨h1, h2⟩ := List.getElem?_eq_some_iff.mp h
  rw [List.drop_eq_getElem_cons h1, h2]
theorem drop_hd {α : Type} {l rest : List α} {v : α} {n : Nat} (h : v :: rest = l.drop n) : n < l.length ∧ l[n]? = some v ∧ rest = l.drop (n + 1) := by
  by_cases hn : n < l.length
  · rw [List.drop_eq_getElem_cons hn] at h
    obtain ⟨h1, h2⟩ := List.cons.inj h
    exact ⟨hn, by simp [hn, h1], h2⟩
  · rw [List.drop_eq_nil_of_le (by omega)] at h
    cases h
section
variable {ls : List (List Nat)} {c0 ci : List Nat} {i : Nat}
theorem addr_ang (h : [strOf c0] = [Str.ofString "<"]) : addrL (c0 :: ls) = (angL ls 1).map fun k => (ls.take (k - 1), k + 1) := by
  rw [(one_lit lt_lit).mp h]
  rfl
theorem addr_bare (h : ¬ [strOf c0] = [Str.ofString "<"]) : addrL (c0 :: ls) = if 0 < (bareL (c0 :: ls) 0 0).2 ∧ (bareL (c0 :: ls) 0 0).1 = 0 then some ((c0 :: ls).take (bareL (c0 :: ls) 0 0).2, (bareL (c0 :: ls) 0 0).2) else none := by
  have h2 : c0 ≠ [60] := fun e => h ((one_lit lt_lit).mpr e)
  unfold addrL
  rw [if_neg (by simpa using h2)]
theorem ang_bad (hA : angL (ls.drop i) (i + 1) = angL ls 1) (hci : ls[i]? = some ci) (h : ([Str.ofString "<", Str.ofString "\n"].any fun x => x == strOf ci) = true) : angL ls 1 = none := by
  rw [two_any, decide_eq_true_eq] at h
  rw [← hA, drop_at hci, angL, if_pos h]
theorem ang_hit (hA : angL (ls.drop i) (i + 1) = angL ls 1) (hci : ls[i]? = some ci) (h : ([Str.ofString "<", Str.ofString "\n"].any fun x => x == strOf ci) = false) (h2 : (strOf ci == Str.ofString ">") = true) : angL ls 1 = some (i + 1) := by
  rw [two_any, decide_eq_false_iff_not] at h
  rw [is_lit gt_lit, decide_eq_true_eq] at h2
  rw [← hA, drop_at hci, angL, if_neg h, if_pos h2]
theorem ang_more (hA : angL (ls.drop i) (i + 1) = angL ls 1) (hci : ls[i]? = some ci) (h : ([Str.ofString "<", Str.ofString "\n"].any fun x => x == strOf ci) = false) (h2 : (strOf ci == Str.ofString ">") = false) : angL (ls.drop (i + 1)) (i + 1 + 1) = angL ls 1 := by
  rw [two_any, decide_eq_false_iff_not] at h
  rw [is_lit gt_lit, decide_eq_false_iff_not] at h2
  rw [← hA, drop_at hci, angL, if_neg h, if_neg h2]
theorem ang_end {j : Nat} (hj : ls.length ≤ j) (hA : angL (ls.drop j) (j + 1) = angL ls 1) : angL ls 1 = none := by
  rw [← hA, List.drop_eq_nil_of_le hj, angL]
end
theorem deep_get {ci : List Nat} {v : Value} {a b c d : Tok} (h : PyProof.V.Flat v ((PySem.Spec.lookup (PyData.str (strOf ci)) (strData [(.str (Str.ofString "(") a, .int 1 b), (.str (Str.ofString ")") c, .int (-1) d)])).getD (.int 0))) : ∃ t, v = .int (deepOf ci) t := by
  refine PyProof.V.Flat.int_inv (?_ : PyProof.V.Flat v (.int (deepOf ci)))
  have e : (PySem.Spec.lookup (PyData.str (strOf ci)) (strData [(.str (Str.ofString "(") a, .int 1 b), (.str (Str.ofString ")") c, .int (-1) d)])).getD (.int 0) = .int (deepOf ci) := by
    have e1 : (Str.ofString "(" = strOf ci) ↔ (ci = [40]) := by
      have := @is_lit' ci [40] _ op_lit
      rw [Bool.eq_iff_iff, beq_iff_eq, decide_eq_true_eq] at this
      exact this
    have e2 : (Str.ofString ")" = strOf ci) ↔ (ci = [41]) := by
      have := @is_lit' ci [41] _ cp_lit
      rw [Bool.eq_iff_iff, beq_iff_eq, decide_eq_true_eq] at this
      exact this
    have e3 : decide (Str.ofString "(" = strOf ci) = decide (ci = [40]) := decide_eq_decide.mpr e1
    have e4 : decide (Str.ofString ")" = strOf ci) = decide (ci = [41]) := decide_eq_decide.mpr e2
    refine (kdpD_getD [(Str.ofString "(", 1), (Str.ofString ")", -1)] (strOf ci) 0).trans ?_
    simp only [kdpLook, List.find?_cons, List.find?_nil, e3, e4, deepOf]
    by_cases h1 : ci = [40]
    · simp [h1]
    · by_cases h2 : ci = [41]
      · simp [h2]
      · simp [h1, h2]
  rw [← e]
  exact h
theorem four_any {c : List Nat} : ([Str.ofString " ", Str.ofString "\n", Str.ofString "\x01", Str.ofString "\x7f"].any fun x => x == strOf c) = decide (c = [32] ∨ c = [10] ∨ c = [1] ∨ c = [127]) := by
  simp only [List.any_cons, List.any_nil, is_lit' sp_lit, is_lit' nl_lit, is_lit' c1_lit, is_lit' dl_lit, Bool.or_false, Bool.decide_or]
section
variable {ls : List (List Nat)} {ci : List Nat} {n : Nat} {d : Int}
theorem bare_ctl (hA : bareL (ls.drop n) d n = bareL ls 0 0) (hci : ls[n]? = some ci) (h : ([Str.ofString " ", Str.ofString "\n", Str.ofString "\x01", Str.ofString "\x7f"].any fun x => x == strOf ci) = true) : bareL ls 0 0 = (d, n) := by
  rw [four_any, decide_eq_true_eq] at h
  rw [← hA, drop_at hci, bareL, if_pos]
  rcases h with h | h | h | h <;> simp [h]
theorem bare_cls (hA : bareL (ls.drop n) d n = bareL ls 0 0) (hci : ls[n]? = some ci) (h : (strOf ci == Str.ofString ")") = true) (hd : d = 0) : bareL ls 0 0 = (d, n) := by
  rw [is_lit cp_lit, decide_eq_true_eq] at h
  rw [← hA, drop_at hci, bareL, if_pos (by simp [h, hd])]
theorem bare_more (hA : bareL (ls.drop n) d n = bareL ls 0 0) (hci : ls[n]? = some ci) (h : ([Str.ofString " ", Str.ofString "\n", Str.ofString "\x01", Str.ofString "\x7f"].any fun x => x == strOf ci) = false) (h2 : ¬ ((strOf ci == Str.ofString ")") = true ∧ d = 0)) : bareL (ls.drop (n + 1)) (d + deepOf ci) (n + 1) = bareL ls 0 0 := by
  rw [four_any, decide_eq_false_iff_not] at h
  rw [is_lit cp_lit, decide_eq_true_eq] at h2
  rw [← hA, drop_at hci, bareL, if_neg]
  rintro (h3 | h3 | h3 | h3 | h3)
  · exact h (.inl h3)
  · exact h (.inr (.inl h3))
  · exact h (.inr (.inr (.inl h3)))
  · exact h (.inr (.inr (.inr h3)))
  · exact h2 h3
theorem deepOf_bound (c : List Nat) : -1 ≤ deepOf c ∧ deepOf c ≤ 1 := by
  unfold deepOf
  split
  · omega
  · split <;> omega
theorem bare_end {c0 : List Nat} (h : ¬ [strOf c0] = [Str.ofString "<"]) (hA : bareL (c0 :: ls) 0 0 = (d, n)) : addrL (c0 :: ls) = if 0 < n ∧ d = 0 then some ((c0 :: ls).take n, n) else none := by
  rw [addr_bare h, hA]
end
theorem strsAre_take : ∀ {vs : List Value} {ks : List Str}, StrsAre vs ks → ∀ n, StrsAre (vs.take n) (ks.take n)
  | _, _, .nil, n => by simpa using StrsAre.nil
  | _, _, .cons k t r, 0 => by simpa using StrsAre.nil
  | _, _, .cons k t r, n + 1 => by simpa using StrsAre.cons k t (strsAre_take r n)
theorem strsAre_drop : ∀ {vs : List Value} {ks : List Str}, StrsAre vs ks → ∀ n, StrsAre (vs.drop n) (ks.drop n)
  | _, _, .nil, n => by simpa using StrsAre.nil
  | _, _, .cons k t r, 0 => by simpa using StrsAre.cons k t r
  | _, _, .cons k t r, n + 1 => by simpa using strsAre_drop r n
theorem strs_takeL {vs : List Value} {ls : List (List Nat)} (h : StrsAre vs (ls.map strOf)) (n : Nat) : StrsAre (vs.take n) ((ls.take n).map strOf) := by
  rw [List.map_take]
  exact strsAre_take h n
theorem strs_dropL {vs : List Value} {ls : List (List Nat)} (h : StrsAre vs (ls.map strOf)) (n : Nat) : StrsAre (vs.drop n) ((ls.drop n).map strOf) := by
  rw [List.map_drop]
  exact strsAre_drop h n
end Mine


theorem Mine.quiet_C12 : True ∧ True := by w_top off; k_with_none; walk1 <;> trivial

-- C12
open PySem PySem.W PySem.Calls PyProof.Rows
set_option Elab.async false
set_option maxRecDepth 100000
set_option maxHeartbeats 8000000
set_option linter.all false
namespace Mine
local macro_rules | `(tactic| k_room) => `(tactic| ktr_room)
local macro_rules | `(tactic| k_mem) => `(tactic| first | exact List.Mem.head _ | assumption | (refine' List.Mem.tail _ ?_; k_mem))
local macro_rules | `(tactic| k_all) => `(tactic| (rename (∀ p : Addr × Obj, p ∈ _ → p.1 < _) => hlt9; first | exact fun q hq => Nat.ne_of_lt (hlt9 q hq) | exact fun q hq => Nat.ne_of_lt (Nat.lt_trans (hlt9 q hq) (by assumption))))
local macro_rules | `(tactic| walk_at "subscriptTail Name Slice ref ref") => `(tactic| (k_here; k_dflt (refine' kms_slice_lit ?F ?N ?l ?p ?q ?e ?_ ?s ?t ?z; (case F => k_asm); (case N => k_asm); (case l => exact News.isList (by k_asm) (by k_mem)); (case p => kmk_part); (case q => kmk_part); (case e => first | exact kp_take (by omega) | exact kp_drop (by omega) | exact kp_run (by omega) (by omega)); (case s => with_unfolding_all rfl); (case t => kmk_pure); (case z => (simp only [List.size_toArray, List.length_cons, List.length_nil]; rw [sizeLine_eq]; omega)); k_whole); intro D' h' F' N' l1; (try simp only [Int.reduceToNat, List.take_succ_cons, List.take_zero, List.take_nil] at N')))
local macro_rules | `(tactic| ke_room) => `(tactic| ktr_units)
local macro_rules | `(tactic| units_room) => `(tactic| ktr_units)
local macro_rules | `(tactic| walk_at "FoPost") => `(tactic| dsimp only [FoPost])
local macro_rules | `(tactic| tb_start) => `(tactic| (intro z h2 h3; have h4 := h3; simp only [List.forall_mem_cons, List.not_mem_nil, false_implies, implies_true, and_true, ne_eq] at h2; (try simp only [List.contains_cons, List.contains_nil, Bool.or_false, Bool.or_eq_false_iff, beq_eq_false_iff_ne, ne_eq] at h4); simp only [vals, kstB, h2, h3, h4, if_false, Bool.false_eq_true]))
theorem la_call {w : World} {mg mb : Str → Option Value} {mean : ExcName → Option Value} : ∀ {dp un : Nat} {gd : Option (List Code)} {cn : Str} {cs : Scope} {a : Addr} {ccd : Value} {cl : List (Str × Addr)} {outer : List Env} {A₀ : Around} {base h₀ : Heap} {L l : Addr} {n : Nat} {vs : List Value} {ls : List (List Nat)} {m : Str → Option Value} {news : List (Addr × Obj)} {s : Shared}
    {Q E : Value → Shared → Prop} (B : Below A₀ base outer h₀) (F : Fr h₀ L s.heap m) (X : (hd.heap_39 w.params).In h₀) (N : News h₀ L s.heap news)
    (T : Top hd.view_39 (looseW hd.view_39 [Str.ofString "MD_ASCII_PUNCT", Str.ofString "_State", Str.ofString "parseLinkTitle", Str.ofString "_Result", Str.ofString "_law_pieces"]) mean mg mb h₀)
    (hk : cs.kind = .function) (hl : (l, listOf vs.toArray n) ∈ news) (hv : StrsAre vs (ls.map strOf)) (hx : ls.length < 1000) (hb : ∀ k ∈ ls, k.length ≤ 2) (ho : ∀ k ∈ ls, ∀ c ∈ k, c < 1114112)
    (hd : dp + 2 < recursionLimit) (hu : un + 200 < cLine)
    (retN : ∀ h' tk', addrL ls = none → Fr h₀ L h' m → News h₀ L h' news → Q .none { s with heap := h', toks := tk' })
    (retS : ∀ {ds k k9 q p ws n' t h' tk' all}, addrL ls = some (ds, k) → k9 = ((k : Nat) : Int) → StrsAre ws (ds.map strOf) → Fr h₀ L h' m → News h₀ L h' all → (q, ({ cls := Value.type "tuple", data := Data.seq #[Value.ref p, Value.int k9 t] } : Obj)) ∈ all → (p, listOf (List.toArray ws) n') ∈ all → (∀ x ∈ news, x ∈ all) → Q (.ref q) { s with heap := h', toks := tk' }),
    wpAny (model PySem.Challenge.rw_bq0008_01.row.prog w) (ktrTop dp un gd cn cs L a ccd cl outer) (call (.ref 121) [.ref l]) Q E s := by
  k_fill
  intro dp un gd cn cs a ccd cl outer A₀ base h₀ L l n vs ls m news s Q E B F X N T hk hl hv hx hb ho hd hu retN retS
  rcases ls with _ | ⟨c0, ls⟩
  · obtain rfl := hv.nil_inv
    refine wpAny_call ?_
    k_dflt cell_enter
    k_with_none
    k_with "exec For" => refine hold_out ?_
    k_with "pyIter" => refine hold_out ?_
    k_steps
    unfold Hold
    refine For_turns (by assumption) ?_
    k_steps
    unfold Hold
    refine iter_listTurns (vs := []) (by rfl) (by assumption) (by assumption) (by k_mem) (by rfl) (by rfl) fun I hI => ?_
    refine ItemsRest.zero fun h9 tk9 F9 N9 => ?_
    k_steps
    exact retN _ _ rfl (by assumption) (cb_drop (by assumption) fun p hp => .tail _ (.tail _ hp))
  obtain ⟨t0, vs, rfl, hv⟩ := hv.cons_inv
  have hvl := hv.length
  rw [List.length_map] at hvl
  rw [List.length_cons] at hx
  have hc0 : (strOf c0).length ≤ 2 := hb c0 (.head _)
  have hs0 : PyData.strOk (strOf c0) = true := strOk_of (ho c0 (.head _))
  refine wpAny_call ?_
  k_dflt cell_enter
  k_with_none
  have hvl2 : vs.length = ls.length := by simpa using hvl
  have hZ : (((Value.str (strOf c0) t0 :: vs).toArray.size : Nat) : Int) = (ls.length : Int) + 1 := by rw [List.size_toArray, hvl, List.length_cons]; rfl
  k_with "exec For Name Call cons nil" => refine hold_out ?_
  k_with "exec For Name Name cons nil" => refine hold_out ?_
  k_with "call builtin:len" => (k_dflt (refine kun_lenL (News.isList (by k_asm) (by k_mem)) hZ (by omega) ?_))
  k_with "compareOp Eq ref ref" => (k_dflt (refine eq_strs (by k_asm) (by k_mem) (by k_mem) StrsAre.one StrsAre.one (ok_one hs0) (ok_one ok_lt) (by ktr_units) ?_))
  k_steps
  · unfold Hold
    refine For_turns (by assumption) ?_
    k_with "pyIter" => refine hold_out ?_
    k_steps
    unfold Hold
    rename IsRange _ _ _ _ _ _ _ _ => hR
    rename Fr _ _ _ _ => lF'
    rename News _ _ _ _ => lN'
    refine iter_rangeTurns (n := ls.length) (by rfl) hR (small_one (by omega) (by omega) (by omega) (by omega)) (by rw [rangeSize_nat]; omega) lF' lN' fun I hI => ?_
    refine fo_rest (σ := Unit) (keep := []) (by rfl) trivial hI _ (fun _ => []) [Str.ofString "k"] (fun rest _ => ∃ i, rest = (List.range ls.length).drop i ∧ angL (ls.drop i) (i + 1) = angL ls 1) ?turn ?done _ () _ trivial (fun _ _ _ => rfl) ⟨0, rfl, rfl⟩
    case turn =>
      rintro i rest c T u v h tk o ⟨j, hj, hA⟩ ⟨t, rfl⟩ ho F1 N1
      obtain ⟨rfl, hjn, rfl⟩ := range_drop hj
      obtain ⟨ci, ti, hci, hvi⟩ := strs_at ‹StrsAre vs (ls.map strOf)› hjn
      simp only [vals, kstB] at F1
      clear lF' lN'
      have hit : (Value.str (strOf c0) t0 :: vs)[((1 : Int) + (i : Int)).toNat]? = some (.str (strOf ci) ti) := by
        rw [show ((1 : Int) + (i : Int)).toNat = i + 1 by omega, List.getElem?_cons_succ]
        exact hvi
      k_with "subscriptTail" => ((with_reducible show wpAny _ _ (subscriptTail _ _ (Value.ref _) (Value.int _ _)) _ _ _); k_dflt (refine kim_list (by k_asm) (by k_mem) (by rfl) (by rfl) (by omega) (by omega) hit ?_))
      dsimp only
      k_steps
      · exact retN _ _ (by rw [addr_ang (by assumption), ang_bad hA hci (by assumption)]; rfl) (by assumption) (cb_drop (by assumption) fun p hp => .tail _ (.tail _ (.tail _ (.tail _ hp))))
      · rename News h₀ _ _ _ => kN9
        refine retS (ds := ls.take i) (k := i + 2) ?_ ?_ ?_ (by assumption) kN9 (.head _) (.tail _ (.head _)) (fun _ hp => .tail _ (.tail _ (.tail _ (.tail _ (.tail _ (.tail _ hp))))))
        · rw [addr_ang (by assumption), ang_hit hA hci (by assumption) (by assumption)]
          rfl
        · omega
        · rw [show ((1 : Int) + (i : Int)).toNat - 1 = i by omega]
          exact strs_takeL ‹StrsAre vs (ls.map strOf)› i
      · exact fo_end () (by assumption) (by assumption) (fun _ hp => .tail _ hp) trivial (by tb_start) ⟨i + 1, rfl, ang_more hA hci (by assumption) (by assumption)⟩
    case done =>
      rintro c T u h tk ⟨j, hj, hA⟩ F1 N1
      simp only [vals, kstB] at F1
      clear lF' lN'
      dsimp only
      k_steps
      have hA2 := ang_end (by have := range_done hj; omega) hA
      exact retN _ _ (by rw [addr_ang (by assumption), hA2]; rfl) (by assumption) (cb_drop (by assumption) fun p hp => .tail _ (.tail _ hp))
  · unfold Hold
    refine For_turns (by assumption) ?_
    k_with "pyIter" => refine hold_out ?_
    k_steps
    unfold Hold
    rename Fr _ _ _ _ => lF'
    rename News _ _ _ _ => lN'
    refine iter_listTurns (by rfl) lF' lN' (by k_mem) (by rfl) (by rfl) fun I hI => ?_
    refine fo_rest (σ := Int × Nat) (keep := [(l, listOf (Value.str (strOf c0) t0 :: vs).toArray n)]) (by rfl) (And.intro (by k_mem) trivial) hI Itm.val (fun c => [(Str.ofString "deep", fun t => Value.int c.1 t), (Str.ofString "size", fun t => Value.int c.2 t)]) [Str.ofString "one"]
      (fun rest c => rest = (Value.str (strOf c0) t0 :: vs).drop c.2 ∧ -(c.2 : Int) ≤ c.1 ∧ c.1 ≤ c.2 ∧ bareL ((c0 :: ls).drop c.2) c.1 c.2 = bareL (c0 :: ls) 0 0) ?turn ?done _ (0, 0) _ ⟨⟨_, rfl⟩, ⟨_, rfl⟩, trivial⟩ (fun _ _ _ => rfl) ⟨rfl, by decide, by decide, rfl⟩
    case turn =>
      rintro v rest ⟨d, n9⟩ T9 u v' h tk o ⟨hj, hd1, hd2, hA⟩ rfl ho F1 N1
      simp only [vals, kstB] at F1
      clear lF' lN'
      dsimp only
      obtain ⟨hn9, hv9, rfl⟩ := drop_hd hj
      rw [hvl] at hn9
      obtain ⟨ci, ti, hci, hvi⟩ := strs_at ‹StrsAre (_ :: vs) _› hn9
      have e9 := hv9.symm.trans hvi
      obtain rfl := Option.some.inj e9
      k_steps
      · rename News h₀ _ _ _ => kN9
        refine retS (ds := (c0 :: ls).take n9) (k := n9) ?_ (by rfl) (strs_takeL ‹StrsAre (_ :: vs) _› n9) (by assumption) kN9 (.head _) (.tail _ (.head _)) (fun _ hp => by k_mem)
        rw [bare_end (by assumption) (bare_ctl hA hci (by assumption)), if_pos (by omega)]
      · refine retN _ _ ?_ (by assumption) (cb_drop (by assumption) fun p hp => by k_mem)
        rw [bare_end (by assumption) (bare_ctl hA hci (by assumption)), if_neg (by omega)]
      · refine retN _ _ ?_ (by assumption) (cb_drop (by assumption) fun p hp => by k_mem)
        rw [bare_end (by assumption) (bare_ctl hA hci (by assumption)), if_neg (by omega)]
      · rename News h₀ _ _ _ => kN9
        refine retS (ds := (c0 :: ls).take n9) (k := n9) ?_ (by rfl) (strs_takeL ‹StrsAre (_ :: vs) _› n9) (by assumption) kN9 (.head _) (.tail _ (.head _)) (fun _ hp => by k_mem)
        rw [bare_end (by assumption) (bare_cls hA hci (by assumption) (by assumption)), if_pos (by omega)]
      · refine retN _ _ ?_ (by assumption) (cb_drop (by assumption) fun p hp => by k_mem)
        rw [bare_end (by assumption) (bare_cls hA hci (by assumption) (by assumption)), if_neg (by omega)]
      · refine retN _ _ ?_ (by assumption) (cb_drop (by assumption) fun p hp => by k_mem)
        rw [bare_end (by assumption) (bare_cls hA hci (by assumption) (by assumption)), if_neg (by omega)]
      · rename PyProof.V.Flat _ _ => hfl
        obtain ⟨t9, rfl⟩ := deep_get hfl
        k_steps
        have hb9 := deepOf_bound ci
        exact fo_end (d + deepOf ci, n9 + 1) (by assumption) (by assumption) (fun _ hp => by k_mem) ⟨⟨_, rfl⟩, ⟨_, rfl⟩, trivial⟩ (by tb_start) ⟨rfl, by dsimp only at *; omega, by dsimp only at *; omega, bare_more hA hci (by assumption) (fun h => absurd h.2 (by assumption))⟩
      · rename PyProof.V.Flat _ _ => hfl
        obtain ⟨t9, rfl⟩ := deep_get hfl
        k_steps
        have hb9 := deepOf_bound ci
        exact fo_end (d + deepOf ci, n9 + 1) (by assumption) (by assumption) (fun _ hp => by k_mem) ⟨⟨_, rfl⟩, ⟨_, rfl⟩, trivial⟩ (by tb_start) ⟨rfl, by dsimp only at *; omega, by dsimp only at *; omega, bare_more hA hci (by assumption) (fun h => absurd h.1 (by simp [*]))⟩
    case done =>
      rintro ⟨d, n9⟩ T9 u h tk ⟨hj, hd1, hd2, hA⟩ F1 N1
      simp only [vals, kstB] at F1
      clear lF' lN'
      dsimp only at hj hd1 hd2 hA
      have hn9 : (c0 :: ls).length ≤ n9 := by
        have h9 := congrArg List.length hj
        rw [List.length_drop, hvl] at h9
        simp only [List.length_nil] at h9
        omega
      have hp9 : 0 < n9 := by rw [List.length_cons] at hn9; omega
      have hA9 : bareL (c0 :: ls) 0 0 = (d, n9) := by rw [← hA, List.drop_eq_nil_of_le hn9, bareL]
      dsimp only
      k_steps
      · rename News h₀ _ _ _ => kN9
        refine retS (ds := (c0 :: ls).take n9) (k := n9) ?_ (by rfl) (strs_takeL ‹StrsAre (_ :: vs) _› n9) (by assumption) kN9 (.head _) (.tail _ (.head _)) (fun _ hp => by k_mem)
        rw [bare_end (by assumption) hA9, if_pos (by omega)]
      · refine retN _ _ ?_ (by assumption) (cb_drop (by assumption) fun p hp => by k_mem)
        rw [bare_end (by assumption) hA9, if_neg (by omega)]
end Mine


theorem Mine.quiet_P5 : True ∧ True := by w_top off; k_with_none; walk1 <;> trivial

-- P5
open PySem PySem.W PySem.Calls PyProof.Rows
set_option Elab.async false
namespace Mine
theorem nil_lit : Str.ofString "" = strOf [] := by decide
theorem shut_get {ci : List Nat} {v : Value} {a b c d e f : Tok} (h : PyProof.V.Flat v ((PySem.Spec.lookup (PyData.str (strOf ci)) (strData [(.str (Str.ofString "\"") a, .str (Str.ofString "\"") b), (.str (Str.ofString "'") c, .str (Str.ofString "'") d), (.str (Str.ofString "(") e, .str (Str.ofString ")") f)])).getD (.str (Str.ofString "")))) : ∃ t, v = .str (strOf (shutL ci)) t := by
  refine PyProof.V.Flat.str_inv (?_ : PyProof.V.Flat v (.str (strOf (shutL ci))))
  have e1 : (Str.ofString "\"" == strOf ci) = decide (ci = [34]) := is_lit' dq_lit
  have e2 : (Str.ofString "'" == strOf ci) = decide (ci = [39]) := is_lit' sq_lit
  have e3 : (Str.ofString "(" == strOf ci) = decide (ci = [40]) := is_lit' op_lit
  have key : ∀ (b1 b2 b3 : Bool), (Str.ofString "\"" == strOf ci) = b1 → (Str.ofString "'" == strOf ci) = b2 → (Str.ofString "(" == strOf ci) = b3 →
      (PySem.Spec.lookup (PyData.str (strOf ci)) (strData [(.str (Str.ofString "\"") a, .str (Str.ofString "\"") b), (.str (Str.ofString "'") c, .str (Str.ofString "'") d), (.str (Str.ofString "(") e, .str (Str.ofString ")") f)])).getD (.str (Str.ofString "")) = .str (if b1 = true then Str.ofString "\"" else if b2 = true then Str.ofString "'" else if b3 = true then Str.ofString ")" else Str.ofString "") := by
    rintro b1 b2 b3 rfl rfl rfl
    show (if (Str.ofString "\"" == strOf ci) = true then some (PyData.str (Str.ofString "\"")) else if (Str.ofString "'" == strOf ci) = true then some (PyData.str (Str.ofString "'")) else if (Str.ofString "(" == strOf ci) = true then some (PyData.str (Str.ofString ")")) else none).getD (.str (Str.ofString "")) = _
    by_cases h1 : (Str.ofString "\"" == strOf ci) = true
    · rw [if_pos h1, if_pos h1]
      rfl
    · rw [if_neg h1, if_neg h1]
      by_cases h2 : (Str.ofString "'" == strOf ci) = true
      · rw [if_pos h2, if_pos h2]
        rfl
      · rw [if_neg h2, if_neg h2]
        by_cases h3 : (Str.ofString "(" == strOf ci) = true
        · rw [if_pos h3, if_pos h3]
          rfl
        · rw [if_neg h3, if_neg h3]
          rfl
  rw [key _ _ _ e1 e2 e3] at h
  have e4 : (if decide (ci = [34]) = true then Str.ofString "\"" else if decide (ci = [39]) = true then Str.ofString "'" else if decide (ci = [40]) = true then Str.ofString ")" else Str.ofString "") = strOf (shutL ci) := by
    simp only [decide_eq_true_eq, shutL]
    split
    · exact dq_lit
    · split
      · exact sq_lit
      · split
        · exact cp_lit
        · exact nil_lit
  rw [← e4]
  exact h
section
variable {ls : List (List Nat)} {c0 ci sh : List Nat} {i : Nat}
theorem tit_none (h : (strOf (shutL c0) == Str.ofString "") = true) : titleL (c0 :: ls) = none := by
  rw [is_lit nil_lit, decide_eq_true_eq] at h
  rw [titleL, if_pos h]
theorem tit_some (h : (strOf (shutL c0) == Str.ofString "") = false) : titleL (c0 :: ls) = (titGo (shutL c0) ls 1).map (titFin ls) := by
  rw [is_lit nil_lit, decide_eq_false_iff_not] at h
  rw [titleL, if_neg h]
theorem tit_hit (hA : titGo sh (ls.drop i) (i + 1) = titGo sh ls 1) (hci : ls[i]? = some ci) (h : (strOf ci == strOf sh) = true) : titGo sh ls 1 = some (some (i + 1)) := by
  rw [is_lit rfl, decide_eq_true_eq] at h
  rw [← hA, drop_at hci, titGo, if_pos h]
theorem tit_bad (hA : titGo sh (ls.drop i) (i + 1) = titGo sh ls 1) (hci : ls[i]? = some ci) (h : (strOf ci == strOf sh) = false) (h2 : (strOf ci == Str.ofString "(") = true) (h3 : (strOf sh == Str.ofString ")") = true) : titGo sh ls 1 = none := by
  rw [is_lit rfl, decide_eq_false_iff_not] at h
  rw [is_lit op_lit, decide_eq_true_eq] at h2
  rw [is_lit cp_lit, decide_eq_true_eq] at h3
  rw [← hA, drop_at hci, titGo, if_neg h, if_pos ⟨h2, h3⟩]
theorem tit_more (hA : titGo sh (ls.drop i) (i + 1) = titGo sh ls 1) (hci : ls[i]? = some ci) (h : (strOf ci == strOf sh) = false) (h2 : ¬ ((strOf ci == Str.ofString "(") = true ∧ (strOf sh == Str.ofString ")") = true)) : titGo sh (ls.drop (i + 1)) (i + 1 + 1) = titGo sh ls 1 := by
  rw [is_lit rfl, decide_eq_false_iff_not] at h
  rw [is_lit op_lit, is_lit cp_lit, decide_eq_true_eq, decide_eq_true_eq] at h2
  rw [← hA, drop_at hci, titGo, if_neg h, if_neg h2]
theorem tit_end {j : Nat} (hj : ls.length ≤ j) (hA : titGo sh (ls.drop j) (j + 1) = titGo sh ls 1) : titGo sh ls 1 = some none := by
  rw [← hA, List.drop_eq_nil_of_le hj, titGo]
end
end Mine


theorem Mine.quiet_C13 : True ∧ True := by w_top off; k_with_none; walk1 <;> trivial

-- C13
open PySem PySem.W PySem.Calls PyProof.Rows
set_option Elab.async false
set_option maxRecDepth 100000
set_option maxHeartbeats 8000000
set_option linter.all false
namespace Mine
local macro_rules | `(tactic| k_room) => `(tactic| ktr_room)
local macro_rules | `(tactic| k_mem) => `(tactic| first | exact List.Mem.head _ | assumption | (refine' List.Mem.tail _ ?_; k_mem))
local macro_rules | `(tactic| k_all) => `(tactic| (rename (∀ p : Addr × Obj, p ∈ _ → p.1 < _) => hlt9; first | exact fun q hq => Nat.ne_of_lt (hlt9 q hq) | exact fun q hq => Nat.ne_of_lt (Nat.lt_trans (hlt9 q hq) (by assumption))))
local macro_rules | `(tactic| walk_at "subscriptTail Name Slice ref ref") => `(tactic| (k_here; k_dflt (refine' kms_slice_lit ?F ?N ?l ?p ?q ?e ?_ ?s ?t ?z; (case F => k_asm); (case N => k_asm); (case l => exact News.isList (by k_asm) (by k_mem)); (case p => kmk_part); (case q => kmk_part); (case e => first | exact kp_take (by omega) | exact kp_drop (by omega) | exact kp_run (by omega) (by omega)); (case s => with_unfolding_all rfl); (case t => kmk_pure); (case z => (simp only [List.size_toArray, List.length_cons, List.length_nil]; rw [sizeLine_eq]; omega)); k_whole); intro D' h' F' N' l1; (try simp only [Int.reduceToNat, List.take_succ_cons, List.take_zero, List.take_nil] at N')))
local macro_rules | `(tactic| ke_room) => `(tactic| ktr_units)
local macro_rules | `(tactic| units_room) => `(tactic| ktr_units)
local macro_rules | `(tactic| walk_at "FoPost") => `(tactic| dsimp only [FoPost])
local macro_rules | `(tactic| tb_start) => `(tactic| (intro z h2 h3; have h4 := h3; simp only [List.forall_mem_cons, List.not_mem_nil, false_implies, implies_true, and_true, ne_eq] at h2; (try simp only [List.contains_cons, List.contains_nil, Bool.or_false, Bool.or_eq_false_iff, beq_eq_false_iff_ne, ne_eq] at h4); simp only [vals, kstB, h2, h3, h4, if_false, Bool.false_eq_true]))
theorem lt_call {w : World} {mg mb : Str → Option Value} {mean : ExcName → Option Value} : ∀ {dp un : Nat} {gd : Option (List Code)} {cn : Str} {cs : Scope} {a : Addr} {ccd : Value} {cl : List (Str × Addr)} {outer : List Env} {A₀ : Around} {base h₀ : Heap} {L l : Addr} {n : Nat} {vs : List Value} {ls : List (List Nat)} {m : Str → Option Value} {news : List (Addr × Obj)} {s : Shared}
    {Q E : Value → Shared → Prop} (B : Below A₀ base outer h₀) (F : Fr h₀ L s.heap m) (X : (hd.heap_39 w.params).In h₀) (N : News h₀ L s.heap news)
    (T : Top hd.view_39 (looseW hd.view_39 [Str.ofString "MD_ASCII_PUNCT", Str.ofString "_State", Str.ofString "parseLinkTitle", Str.ofString "_Result", Str.ofString "_law_pieces"]) mean mg mb h₀)
    (hk : cs.kind = .function) (hl : (l, listOf vs.toArray n) ∈ news) (hv : StrsAre vs (ls.map strOf)) (hx : ls.length < 1000) (hb : ∀ k ∈ ls, k.length ≤ 2) (ho : ∀ k ∈ ls, ∀ c ∈ k, c < 1114112)
    (hd : dp + 2 < recursionLimit) (hu : un + 200 < cLine)
    (retN : ∀ h' tk', titleL ls = none → Fr h₀ L h' m → News h₀ L h' news → Q .none { s with heap := h', toks := tk' })
    (retS : ∀ {ds k k9 q p ws n' t h' tk' all}, titleL ls = some (ds, k) → k9 = ((k : Nat) : Int) → StrsAre ws (ds.map strOf) → Fr h₀ L h' m → News h₀ L h' all → (q, ({ cls := Value.type "tuple", data := Data.seq #[Value.ref p, Value.int k9 t] } : Obj)) ∈ all → (p, listOf (List.toArray ws) n') ∈ all → (∀ x ∈ news, x ∈ all) → Q (.ref q) { s with heap := h', toks := tk' }),
    wpAny (model PySem.Challenge.rw_bq0008_01.row.prog w) (ktrTop dp un gd cn cs L a ccd cl outer) (call (.ref 128) [.ref l]) Q E s := by
  k_fill
  intro dp un gd cn cs a ccd cl outer A₀ base h₀ L l n vs ls m news s Q E B F X N T hk hl hv hx hb ho hd hu retN retS
  rcases ls with _ | ⟨c0, ls⟩
  · obtain rfl := hv.nil_inv
    refine wpAny_call ?_
    k_dflt cell_enter
    k_with_none
    k_with "truthy ref" => (k_dflt (refine tru_nil (News.isList (by k_asm) (by k_mem)) (fun tk9 => ?_)))
    k_steps
    all_goals exact retN _ _ rfl (by assumption) (cb_drop (by assumption) fun p hp => by k_mem)
  obtain ⟨t0, vs, rfl, hv⟩ := hv.cons_inv
  have hvl := hv.length
  rw [List.length_map] at hvl
  rw [List.length_cons] at hx
  have hc0 : (strOf c0).length ≤ 2 := hb c0 (.head _)
  have hvl2 : vs.length = ls.length := by simpa using hvl
  have hZ : (((Value.str (strOf c0) t0 :: vs).toArray.size : Nat) : Int) = (ls.length : Int) + 1 := by rw [List.size_toArray, hvl, List.length_cons]; rfl
  refine wpAny_call ?_
  k_dflt cell_enter
  k_with_none
  k_with "exec For Name Call cons nil" => refine hold_out ?_
  k_with "call builtin:len" => (k_dflt (refine kun_lenL (News.isList (by k_asm) (by k_mem)) hZ (by omega) ?_))
  k_with "truthy ref" => (k_dflt (refine tru_cons (News.isList (by k_asm) (by k_mem)) (by omega) (fun tk9 => ?_)))
  have hit0 : (Value.str (strOf c0) t0 :: vs)[(0 : Int).toNat]? = some (.str (strOf c0) t0) := rfl
  k_with "subscriptTail" => ((with_reducible show wpAny _ _ (subscriptTail _ _ (Value.ref _) (Value.int _ _)) _ _ _); k_dflt (refine kim_list (by k_asm) (by k_mem) (by rfl) (by rfl) (by omega) (by omega) hit0 ?_))
  k_steps
  rename PyProof.V.Flat _ _ => hfl
  obtain ⟨t9, rfl⟩ := shut_get hfl
  k_steps
  · exact retN _ _ (tit_none (by assumption)) (by assumption) (cb_drop (by assumption) fun p hp => by k_mem)
  unfold Hold
  refine For_turns (by assumption) ?_
  k_with "pyIter" => refine hold_out ?_
  k_steps
  unfold Hold
  rename IsRange _ _ _ _ _ _ _ _ => hR
  rename Fr _ _ _ _ => lF'
  rename News _ _ _ _ => lN'
  refine iter_rangeTurns (n := ls.length) (by rfl) hR (small_one (by omega) (by omega) (by omega) (by omega)) (by rw [rangeSize_nat]; omega) lF' lN' fun I hI => ?_
  refine fo_rest (σ := Unit) (keep := []) (by rfl) trivial hI _ (fun _ => []) [Str.ofString "k"] (fun rest _ => ∃ i, rest = (List.range ls.length).drop i ∧ titGo (shutL c0) (ls.drop i) (i + 1) = titGo (shutL c0) ls 1) ?turn ?done _ () _ trivial (fun _ _ _ => rfl) ⟨0, rfl, rfl⟩
  case turn =>
    rintro i rest c T u v h tk o ⟨j, hj, hA⟩ ⟨t, rfl⟩ ho F1 N1
    obtain ⟨rfl, hjn, rfl⟩ := range_drop hj
    obtain ⟨ci, ti, hci, hvi⟩ := strs_at ‹StrsAre vs (ls.map strOf)› hjn
    simp only [vals, kstB] at F1
    clear lF' lN'
    have hit : (Value.str (strOf c0) t0 :: vs)[((1 : Int) + (i : Int)).toNat]? = some (.str (strOf ci) ti) := by
      rw [show ((1 : Int) + (i : Int)).toNat = i + 1 by omega, List.getElem?_cons_succ]
      exact hvi
    k_with "subscriptTail" => ((with_reducible show wpAny _ _ (subscriptTail _ _ (Value.ref _) (Value.int _ _)) _ _ _); k_dflt (refine kim_list (by k_asm) (by k_mem) (by rfl) (by rfl) (by omega) (by omega) hit ?_))
    dsimp only
    k_steps
    · rename News h₀ _ _ _ => kN9
      refine retS (ds := ls.take i) (k := i + 2) ?_ ?_ ?_ (by assumption) kN9 (.head _) (.tail _ (.head _)) (fun _ hp => by k_mem)
      · rw [tit_some (by assumption), tit_hit hA hci (by assumption)]
        rfl
      · omega
      · rw [show ((1 : Int) + (i : Int)).toNat - 1 = i by omega]
        exact strs_takeL ‹StrsAre vs (ls.map strOf)› i
    · refine retN _ _ ?_ (by assumption) (cb_drop (by assumption) fun p hp => by k_mem)
      rw [tit_some (by assumption), tit_bad hA hci (by assumption) (by assumption) (by assumption)]
      rfl
    · exact fo_end () (by assumption) (by assumption) (fun _ hp => by k_mem) trivial (by tb_start) ⟨i + 1, rfl, tit_more hA hci (by assumption) (fun h => by simp_all)⟩
    · exact fo_end () (by assumption) (by assumption) (fun _ hp => by k_mem) trivial (by tb_start) ⟨i + 1, rfl, tit_more hA hci (by assumption) (fun h => by simp_all)⟩
  case done =>
    rintro c T u h tk ⟨j, hj, hA⟩ F1 N1
    simp only [vals, kstB] at F1
    clear lF' lN'
    dsimp only
    k_steps
    have hA2 := tit_end (by have := range_done hj; omega) hA
    rename News h₀ _ _ _ => kN9
    refine retS (ds := ls) (k := 0) ?_ (by rfl) ?_ (by assumption) kN9 (.head _) (.tail _ (.head _)) (fun _ hp => by k_mem)
    · rw [tit_some (by assumption), hA2]
      rfl
    · exact ‹StrsAre vs (ls.map strOf)›
end Mine


theorem Mine.quiet_P6 : True ∧ True := by w_top off; k_with_none; walk1 <;> trivial

-- P6
open PySem PySem.W PySem.Calls PyProof.Rows
set_option Elab.async false
namespace Mine
def menuL : List (List Nat) := [[97],[60],[40],[41],[34],[39],[62],[32],[10],[92,40],[92,41],[92,34],[92,60],[92,97],[92,62],[92,92],[33],[1],[127],[92,39]]
def pieceL (k : Int) : List Nat := menuL.getD (k.fmod 20).toNat []
theorem menu_str : [Str.ofString "a", Str.ofString "<", Str.ofString "(", Str.ofString ")", Str.ofString "\"", Str.ofString "'", Str.ofString ">", Str.ofString " ", Str.ofString "\n", Str.ofString "\\(", Str.ofString "\\)", Str.ofString "\\\"", Str.ofString "\\<", Str.ofString "\\a", Str.ofString "\\>", Str.ofString "\\\\", Str.ofString "!", Str.ofString "\x01", Str.ofString "\x7f", Str.ofString "\\'"] = menuL.map strOf := by decide
theorem piece_str (k : Int) : [Str.ofString "a", Str.ofString "<", Str.ofString "(", Str.ofString ")", Str.ofString "\"", Str.ofString "'", Str.ofString ">", Str.ofString " ", Str.ofString "\n", Str.ofString "\\(", Str.ofString "\\)", Str.ofString "\\\"", Str.ofString "\\<", Str.ofString "\\a", Str.ofString "\\>", Str.ofString "\\\\", Str.ofString "!", Str.ofString "\x01", Str.ofString "\x7f", Str.ofString "\\'"].getD (k.fmod 20).toNat Str.empty = strOf (pieceL k) := by
  rw [menu_str]
  unfold pieceL
  generalize (k.fmod 20).toNat = n
  rw [List.getD_eq_getElem?_getD, List.getD_eq_getElem?_getD, List.getElem?_map]
  cases menuL[n]? <;> rfl
theorem piece_mem (k : Int) : pieceL k ∈ menuL := by
  unfold pieceL
  have h1 := Int.fmod_nonneg_of_pos k (b := 20) (by omega)
  have h2 := Int.fmod_lt_of_pos k (b := 20) (by omega)
  have h3 : (k.fmod 20).toNat < menuL.length := by
    show (k.fmod 20).toNat < 20
    omega
  rw [List.getD_eq_getElem?_getD, List.getElem?_eq_getElem h3]
  exact List.getElem_mem _
end Mine


theorem Mine.quiet_B4 : True ∧ True := by w_top off; k_with_none; walk1 <;> trivial

-- B4
open PySem PySem.W PySem.Calls PyProof.Rows
set_option Elab.async false
set_option maxRecDepth 100000
namespace Mine
section
variable {prog : Program} {w : World} {A : Around} {h₀ : Heap} {L ax : Addr} {m : Str → Option Value} {env : Env} {elt : Expr} {x : Str} {scope : Scope} {cl : List (Str × Addr)} {s : Shared} {Fin : List Value → List (Addr × Obj) → Prop} {news : List (Addr × Obj)}
theorem comp_ints {ks : List Int} {vs : List Value} (g : Int → List Nat) (hv : IntsAre vs ks) {S : List (Addr × Obj) → Prop} (hS : S news)
    (turn : ∀ k t I oI C oC D m₂ ys h tk (E' : Value → Shared → Prop), k ∈ ks → LCg.NsObj oC m₂ → m₂ x = some (.int k t) → Fr h₀ L h m → News h₀ L h ((I, oI) :: (C, oC) :: (D, LCg.lst ys) :: news) →
      wpAny (model prog w) A (eval elt (compEnvC scope cl C env)) (EltEnd h₀ L m s ((I, oI) :: (C, oC) :: (D, LCg.lst ys) :: news) (fun y => ∃ t, y = .str (strOf (g k)) t)) E' { s with heap := h, toks := tk })
    (fin : ∀ ys, StrsAre ys ((ks.map g).map strOf) → Fin ys news) :
    LCg.CompRest prog w A h₀ L m env elt x scope cl s S (fun i v => vs.toArray[i]? = some v) Fin vs.toArray.size 0 [] news := by
  have e : vs.toArray.size = ks.length := by rw [List.size_toArray]; exact hv.length
  rw [e]
  refine comp_items (U := fun k v => ∃ t, v = Value.int k t) (R := fun l y => ∃ t, y = Value.str (strOf l) t) g hS (fun pre ys => StrsAre ys ((pre.map g).map strOf)) StrsAre.nil (fun pre k ys y hd ⟨t, ht⟩ => ?_) ks [] [] (fun i v hi _ => ?_) StrsAre.nil (fun k v I oI C oC D m₂ ys h tk E' hk ⟨t, ht⟩ hC hx F N => turn k t I oI C oC D m₂ ys h tk E' hk hC (ht ▸ hx) F N) fin
  · rw [List.map_append, List.map_append, ht]
    exact StrsAre.append' hd (StrsAre.cons _ _ StrsAre.nil)
  · have hi' : vs[i]? = some v := by simpa using hi
    have hl : i < ks.length := by
      rw [← hv.length]
      exact (List.getElem?_eq_some_iff.mp hi').1
    obtain ⟨t, ht⟩ := hv.get i ks[i] (by simp [hl])
    rw [hi'] at ht
    exact ⟨ks[i], by simp [hl], t, Option.some.inj ht⟩
end
theorem gen_ints {vs : List Value} {ks : List Int} (h : IntsAre vs ks) : ∃ ks', IntsAre vs ks' ∧ ks'.length = ks.length := ⟨ks, h, rfl⟩
theorem flat_sum {P : List (List Nat)} {k : Nat} (h : ∀ l ∈ P, l.length ≤ k) : ((P.map strOf).map (·.length)).sum ≤ k * P.length := by
  have := sum_le (ls := P.map strOf) (B := k) (fun x hx => by
    obtain ⟨l, hl, rfl⟩ := List.mem_map.mp hx
    rw [len_list, strOf_toList]
    exact h l hl)
  rw [List.length_map] at this
  exact this
theorem jn_list {prog : Program} {w : World} {A : Around} {E : Value → Shared → Prop} {s : Shared} {D : Addr} {vs : List Value} {P : List (List Nat)} {t : Tok} {Q : Value → Shared → Prop} (hl : s.heap.IsList D vs.toArray) (hi : StrsAre vs (P.map strOf)) (hb : ∀ l ∈ P, l.length ≤ 2) (hn : P.length ≤ 1000)
    (h : ∀ t' k, Q (.str (strOf P.flatten) t') { s with toks := k }) : wpAny (model prog w) A (call (.builtin "str.join") [.str (Str.ofString "") t, .ref D]) Q E s := by
  refine join_list hl hi ?_ ?_
  · have := flat_sum hb
    rw [show (Str.ofString "").length = 0 by decide]
    omega
  · intro t' k
    rw [join_strOf]
    exact h t' k
theorem fr_kst {h₀ h : Heap} {L : Addr} {m : Str → Option Value} {ps : List (Str × Value)} (F : Fr h₀ L h m) (hm : ∀ p ∈ ps, m p.1 = some p.2) : Fr h₀ L h (kstB m ps) := by
  have e : kstB m ps = m := funext fun z => kstB_eq hm (fun _ => rfl)
  rw [e]
  exact F
theorem news_two {h₀ h : Heap} {L : Addr} {a b : Addr × Obj} {r all : List (Addr × Obj)} (N : News h₀ L h all) (h1 : a ∈ all) (h2 : b ∈ all) (hs : ∀ x ∈ r, x ∈ all) : News h₀ L h (a :: b :: r) := fun p hp => by
  rcases List.mem_cons.mp hp with rfl | hp
  · exact N _ h1
  · rcases List.mem_cons.mp hp with rfl | hp
    · exact N _ h2
    · exact N _ (hs p hp)
theorem menu_len : ∀ l ∈ menuL, l.length ≤ 2 := by decide
theorem menu_small : ∀ l ∈ menuL, ∀ c ∈ l, c < 128 := by decide
end Mine


theorem Mine.quiet_E0 : True ∧ True := by w_top off; k_with_none; walk1 <;> trivial

-- E0
open PySem PySem.W PySem.Calls PyProof.Rows
set_option Elab.async false
set_option maxRecDepth 100000
set_option maxHeartbeats 8000000
set_option linter.all false
namespace Mine
/-- how a callee that a turn of the frames' own slots left goes back -/
def TxBack (K : Frag) (p : Program) (loose : List Str) (mean : ExcName → Option Value) (mg mb : Str → Option Value) (A₀ : Around) (base g gb : Heap) (env0 : Env) (L L0 L' : Addr) (oL o0 : Obj) (m : Str → Option Value) (news : List (Addr × Obj)) (R : Result → Shared → Prop) (v : Value) (s' : Shared) : Prop :=
  ∃ m' sl sl0, Fr gb L' s'.heap m' ∧ News gb L' s'.heap [(L, { oL with slots := sl }), (L0, { o0 with slots := sl0 })] ∧
    ((∃ g', KtsTurn [L0] g g' ∧ Fr g' L s'.heap m ∧ News g' L s'.heap news ∧ Below A₀ base [env0] g' ∧ K.In g' ∧ Top p loose mean mg mb g' ∧ KtsDicts [L0] g') → R (.ok (.ret v)) s')
theorem tx_enter {prog : Program} {w : World} {A A₀ : Around} {s : Shared} {base g : Heap} {L L0 a : Addr} {env0 : Env} {m : Str → Option Value} {cn : Str} {cs : Scope} {ccd : Value} {news : List (Addr × Obj)} {K : Frag} {p : Program} {loose : List Str} {mean : ExcName → Option Value} {mg mb : Str → Option Value}
    {R : Result → Shared → Prop} {name qual : Str} {params : Arguments} {body : List Stmt} {scope : Scope} {dV kV doc pm cdv ct oc : Value} {an od : Option Addr} {osl : Array (Option Value)} {f : Addr} {args : Args} {binds : List (Str × Value)}
    (B : Below A₀ base [env0] g) (he0 : env0.frame = some L0) (F : Fr g L s.heap m) (N : News g L s.heap news) (X₀ : K.In g) (T : Top p loose mean mg mb g) (XB : K.In base) (TB : Top p loose mean mg mb base) (D : KtsDicts [L0] g) (_hA : A.frames = some [envOf cn cs L a ccd, env0])
    (ho : K.lookup f = some ⟨oc, od, .func (fnOf name qual params body scope dV kV doc pm an cdv ct), osl⟩) (hcd : codeIn K cdv qual = true) (hroom : A.depth < recursionLimit)
    (hbind : BindsTo s (fnOf name qual params body scope dV kV doc pm an cdv ct) args binds) (hloc : ∀ y ∈ binds, scope.names.lookup y.1 = some .local)
    (h : ∀ gb oL o0 L' h₁, TI.Frs [envOf cn cs L a ccd, env0] [(L, oL), (L0, o0)] → Fr gb L' h₁ (fun y => binds.reverse.lookup y) → News gb L' h₁ [(L, oL), (L0, o0)] → K.In gb → Top p loose mean mg mb gb →
      wpAny (model prog w) (A.deeper (envOf qual scope L' f cdv)) (execs body (envOf qual scope L' f cdv))
        (fun fl s' => TxBack K p loose mean mg mb A₀ base g gb env0 L L0 L' oL o0 m news R (match fl with | .ret v => v | _ => .none) s')
        (fun e s' => wpAny (model prog w) (A.deeper (envOf qual scope L' f cdv)) (leaving (envOf qual scope L' f cdv) e) (fun _ s'' => R (.error e) s'') (fun e' s'' => R (.error e') s'') s')
        { s with heap := h₁, toks := s.toks + binds.length })
    (hck : cs.kind = .function) (hco : scope.isCoroutine = false := by rfl) (hgen : scope.isGenerator = false := by rfl) (hk : scope.kind = .function := by rfl)
    (hcell : ∀ x ∈ scope.names, x.2 ≠ .cell := by decide) : codeAny (model prog w) A (.call (.ref f) args) R s := by
  have X := X₀.keeps F.keep
  obtain ⟨oL, es, ep, hL, hLd, hLk, hLf⟩ := F.ns
  have hLt := Heap.lt_size hL
  obtain ⟨hk0, ⟨L0', o0, hf0, hb0, ho0, _⟩, _⟩ := B.frames
  obtain rfl : L0 = L0' := Option.some.inj (he0.symm.trans hf0)
  obtain ⟨o0', es0, ep0, ho0', hd0⟩ := D L0 (.head _)
  obtain rfl : o0 = o0' := Option.some.inj (ho0.symm.trans ho0')
  have hL0s : s.heap.get? L0 = some o0 := F.keep _ _ ho0
  have hL0t := Heap.lt_size hL0s
  have hLg : g.get? L = none := kts_self F
  have hne : L0 ≠ L := fun q => by rw [q, hLg] at ho0; cases ho0
  have hbL : base.get? L = none := fresh_of_stays B.stays hLg
  have hkind : (envOf cn cs L a ccd).scope.kind ≠ .module := by
    show cs.kind ≠ .module
    rw [hck]; decide
  have st : base.StaysIn (hideAll s.heap [L, L0]) := fun b o q => hideAll_get _ (F.keep _ _ (B.stays b o q)) fun hm => by
    rcases List.mem_cons.mp hm with rfl | hm
    · rw [hbL] at q; cases q
    · rw [List.mem_singleton.mp hm, hb0] at q; cases q
  refine codeAny_call_def (fd := fnOf name qual params body scope dV kV doc pm an cdv ct) (body := body) (binds := binds) hroom (X _ _ ho) rfl (T.nolimit.keeps F.keep) (codeRec_of X hcd) rfl hbind hcell hloc (fun h₁ hns hk₁ => ?_) hco hgen hk
  have up : ∀ b o, s.heap.get? b = some o → h₁.get? b = some o := fun b o e => hk₁ b o e
  refine wpAny_mono (h (hideAll s.heap [L, L0]) oL o0 s.heap.objs.size h₁ ⟨hkind, rfl, ⟨es, ep, hLd⟩, hk0, he0, ⟨es0, ep0, hd0⟩, trivial⟩ ⟨hns, fun b o e => up b o (of_hideAll _ e), Nat.le_of_eq (hideAll_size _ _)⟩ (fun p hp => ?_) (XB.keeps st) (TB.keeps st)) (fun fl s' hb => ?_) fun _ _ x => wpAny_mono x (fun _ _ y => y) fun _ _ y => y
  · rcases List.mem_cons.mp hp with rfl | hp
    · exact ⟨up _ _ hL, Nat.ne_of_lt hLt, hideAll_none _ (.head _)⟩
    · rw [List.mem_singleton.mp hp]
      exact ⟨up _ _ hL0s, Nat.ne_of_lt hL0t, hideAll_none _ (.tail _ (.head _))⟩
  · obtain ⟨m', sl, sl0, F', N', k⟩ := hb
    refine k ?_
    have hLn : s'.heap.get? L = some { oL with slots := sl } := (N' _ (.head _)).1
    have hL0n : s'.heap.get? L0 = some { o0 with slots := sl0 } := (N' _ (.tail _ (.head _))).1
    have keepg : ∀ b o, g.get? b = some o → b ≠ L0 → s'.heap.get? b = some o := fun b o e hb => F'.keep b o (hideAll_get _ (F.keep _ _ e) fun hm => by
      rcases List.mem_cons.mp hm with rfl | hm
      · rw [hLg] at e; cases e
      · exact hb (List.mem_singleton.mp hm))
    obtain ⟨T₁, S₁⟩ := kts_turn_at (h := s'.heap) (fs := [L0]) (g := g) (fun b hb => by rw [List.mem_singleton.mp hb]; exact ⟨o0, ho0⟩) (fun b o e nm => keepg b o e fun q => nm (by rw [q]; exact .head _)) (fun b o e hm => by
      obtain rfl := List.mem_singleton.mp hm
      obtain rfl : o0 = o := Option.some.inj (ho0.symm.trans e)
      exact ⟨sl0, hL0n⟩)
    have B₁ : Below A₀ base [env0] (ktsHeap s'.heap [L0] g) := ⟨B.stack, fun b o e => T₁.other b o (B.stays b o e) (fun hm => by rw [List.mem_singleton.mp hm, hb0] at e; cases e), B.frames.of_keeps fun b o e _ => by
      obtain ⟨sl', hs'⟩ := T₁.up e
      exact ⟨_, hs', rfl⟩⟩
    refine ⟨_, T₁, ⟨⟨_, es, ep, hLn, hLd, hLk, hLf⟩, S₁, by rw [T₁.size]; exact F.above⟩, fun p hp => ?_, B₁, XB.keeps B₁.stays, TB.keeps B₁.stays, D.turn T₁⟩
    obtain ⟨p1, p2, p3⟩ := N p hp
    refine ⟨F'.keep _ _ (hideAll_get _ p1 fun hm => ?_), p2, T₁.none_ _ p3⟩
    rcases List.mem_cons.mp hm with q | hm
    · exact p2 q
    · rw [List.mem_singleton.mp hm, ho0] at p3; cases p3
end Mine


theorem Mine.quiet_E1 : True ∧ True := by w_top off; k_with_none; walk1 <;> trivial

-- E1
open PySem PySem.W PySem.Calls PyProof.Rows
set_option Elab.async false
set_option maxRecDepth 100000
set_option maxHeartbeats 8000000
set_option linter.all false
namespace Mine
theorem sameUp_two {p q : Addr × Obj} {l : List (Addr × Obj)} (h : TI.SameUp [p, q] l) : ∃ sl sl0, l = [(p.1, { p.2 with slots := sl }), (q.1, { q.2 with slots := sl0 })] := by
  cases l with
  | nil => exact False.elim h
  | cons a l =>
    cases l with
    | nil => exact False.elim h.2.2
    | cons b l =>
      cases l with
      | cons c l => exact False.elim h.2.2.2.2
      | nil =>
        obtain ⟨h1, ⟨sl, h2⟩, h3, ⟨sl0, h4⟩, _⟩ := h
        exact ⟨sl, sl0, by rw [← h1, ← h2, ← h3, ← h4]⟩
theorem cc_end {w : World} {mg mb : Str → Option Value} {mean : ExcName → Option Value} : ∀ {dp un : Nat} {gd : Option (List Code)} {cn cn0 : Str} {cs cs0 : Scope} {a a0 : Addr} {ccd cd0 : Value} {A₀ : Around} {base g : Heap} {L L0 : Addr} {m : Str → Option Value} {news : List (Addr × Obj)} {s : Shared} {x : Str} {i : Int} {tx ti : Tok}
    {Q E : Value → Shared → Prop} (B : Below A₀ base [envOf cn0 cs0 L0 a0 cd0] g) (F : Fr g L s.heap m) (X : (hd.heap_39 w.params).In g) (N : News g L s.heap news)
    (T : Top hd.view_39 (looseW hd.view_39 [Str.ofString "MD_ASCII_PUNCT", Str.ofString "_State", Str.ofString "parseLinkTitle", Str.ofString "_Result", Str.ofString "_law_pieces"]) mean mg mb g)
    (XB : (hd.heap_39 w.params).In base) (TB : Top hd.view_39 (looseW hd.view_39 [Str.ofString "MD_ASCII_PUNCT", Str.ofString "_State", Str.ofString "parseLinkTitle", Str.ofString "_Result", Str.ofString "_law_pieces"]) mean mg mb base) (D : KtsDicts [L0] g)
    (hk : cs.kind = .function) (h1 : (x.length : Int) ≤ i) (h2 : i < 1000)
    (hdd : dp + 1 < recursionLimit) (hu : un + 8 < cLine)
    (ret : ∀ g' h' tk', KtsTurn [L0] g g' → Fr g' L h' m → News g' L h' news → Below A₀ base [envOf cn0 cs0 L0 a0 cd0] g' → (hd.heap_39 w.params).In g' → Top hd.view_39 (looseW hd.view_39 [Str.ofString "MD_ASCII_PUNCT", Str.ofString "_State", Str.ofString "parseLinkTitle", Str.ofString "_Result", Str.ofString "_law_pieces"]) mean mg mb g' → KtsDicts [L0] g' → Q .none { s with heap := h', toks := tk' }),
    wpAny (model PySem.Challenge.rw_bq0008_01.row.prog w) (ktrTop dp un gd cn cs L a ccd [] [envOf cn0 cs0 L0 a0 cd0]) (call (.ref 21) [.str x tx, .int i ti]) Q E s := by
  k_fill
  intro dp un gd cn cn0 cs cs0 a a0 ccd cd0 A₀ base g L L0 m news s x i tx ti Q E B F X N T XB TB D hk h1 h2 hdd hu ret
  refine wpAny_call ?_
  refine tx_enter B rfl F N X T XB TB D rfl (by k_is) (by k_is) (by ktr_room) (by first | exact binds_K (by k_in) rfl (by k_is) rfl rfl rfl | exact BindsTo.of_eq rfl) (locs rfl) ?_ hk
  intro gb oL o0 L' h₁ Fs F' N' X' T'
  clear B F X N T XB TB D
  k_with_none
  k_with "TxBack" => refine hold_out ?_
  dsimp only
  k_steps
  · rename Heap.NewExc _ _ _ _ => hx9
    have hf9 : (ktrTop dp un gd cn cs L a ccd [] [envOf cn0 cs0 L0 a0 cd0]).frames = some [envOf cn cs L a ccd, envOf cn0 cs0 L0 a0 cd0] := rfl
    rename Fr _ _ _ _ => F9
    refine TI.noted_newT0 hf9 Fs hx9 F9 N' (by rfl) ?_
    intro h9 frs9 SU9 Fs9 H9
    obtain ⟨sl, sl0, rfl⟩ := sameUp_two SU9
    clear F9 N'
    dsimp only at H9 ⊢
    have HH9 := TT.HeldNA.held H9
    k_steps
    unfold Hold
    refine ⟨_, sl, sl0, by assumption, by assumption, ?_⟩
    rintro ⟨g2, t1, t2, t3, t4, t5, t6, t7⟩
    exact ret _ _ _ t1 t2 t3 t4 t5 t6 t7
  · exfalso
    omega
end Mine


theorem Mine.quiet_E2 : True ∧ True := by w_top off; k_with_none; walk1 <;> trivial

-- E2
open PySem PySem.W PySem.Calls PyProof.Rows
set_option Elab.async false
set_option maxRecDepth 100000
set_option maxHeartbeats 8000000
set_option linter.all false
namespace Mine
local macro_rules | `(tactic| k_room) => `(tactic| ktr_room)
local macro_rules | `(tactic| k_all) => `(tactic| (rename (∀ p : Addr × Obj, p ∈ _ → p.1 < _) => hlt9; first | exact fun q hq => Nat.ne_of_lt (hlt9 q hq) | exact fun q hq => Nat.ne_of_lt (Nat.lt_trans (hlt9 q hq) (by assumption))))
local macro_rules | `(tactic| walk_at $s:str) => `(tactic| k_extra $s)
theorem pd_any {w : World} {mg mb : Str → Option Value} {mean : ExcName → Option Value} : ∀ {dp un : Nat} {gd : Option (List Code)} {cn : Str} {cs : Scope} {a : Addr} {ccd : Value} {A₀ : Around} {base h₀ : Heap} {L : Addr} {m : Str → Option Value} {news : List (Addr × Obj)} {s : Shared} {x : Str} {i k : Int} {tx ti tk : Tok}
    {Q E : Value → Shared → Prop} (B : Below A₀ base [] h₀) (F : Fr h₀ L s.heap m) (X : (hd.heap_39 w.params).In h₀) (N : News h₀ L s.heap news)
    (T : Top hd.view_39 (looseW hd.view_39 [Str.ofString "MD_ASCII_PUNCT", Str.ofString "_State", Str.ofString "parseLinkTitle", Str.ofString "_Result", Str.ofString "_law_pieces"]) mean mg mb h₀)
    (XB : (hd.heap_39 w.params).In base) (TB : Top hd.view_39 (looseW hd.view_39 [Str.ofString "MD_ASCII_PUNCT", Str.ofString "_State", Str.ofString "parseLinkTitle", Str.ofString "_Result", Str.ofString "_law_pieces"]) mean mg mb base)
    (hk : cs.kind = .function) (h0 : 0 ≤ i) (h1 : i ≤ k) (h2 : k = x.length) (hx : x.length < 1000)
    (hdd : dp + 3 < recursionLimit) (hu : un + 20 < cLine)
    (ret : ∀ q d tp ts h' tk', Fr h₀ L h' m → News h₀ L h' ((q, reO d (destOf i.toNat (seg x i.toNat k.toNat)) tp ts) :: (d, dictOf [] 0) :: news) → (∀ p ∈ news, p.1 < d) → d < q → Q (.ref q) { s with heap := h', toks := tk' }),
    wpAny (model PySem.Challenge.rw_bq0008_01.row.prog w) (ktrTop dp un gd cn cs L a ccd [] []) (call (.ref 101) [.str x tx, .int i ti, .int k tk]) Q E s := by
  k_fill
  intro dp un gd cn cs a ccd A₀ base h₀ L m news s x i k tx ti tk Q E B F X N T XB TB hk h0 h1 h2 hx hdd hu ret
  rcases Int.lt_or_le i k with hlt | hge
  · exact pd_call B F X N T hk h0 hlt (by omega) hx (by omega) (by omega) ret
  obtain rfl : i = k := Int.le_antisymm h1 hge
  have hs9 : seg x i.toNat i.toNat = [] := by unfold seg; simp
  rw [hs9] at ret
  have hd9 : destOf i.toNat [] = destNone := rfl
  rw [hd9] at ret
  refine wpAny_call ?_
  refine' code_defS0 ?k1 ?k2 ?k3 ?k4 ?k5 ?kA ?k6 ?k7 ?k8 ?k9 ?kB ?_ ?cK ?c2 ?c3 ?c4 ?c5
  case kA => exact rfl
  case k2 => k_asm
  case k1 => k_asm
  case k3 => k_asm
  case k4 => k_asm
  case k5 => k_asm
  case k6 => k_is
  case k7 => k_is
  case k8 => ktr_room
  case k9 => first | exact binds_K (by k_in) rfl (by k_is) rfl rfl rfl | exact BindsTo.of_eq rfl
  case kB => exact locs rfl
  case cK => exact hk
  case c2 => exact rfl
  case c3 => exact rfl
  case c4 => exact rfl
  case c5 => decide
  k_whole
  intro g' L' h' FG' F' N' B' X' T' D'
  dsimp only
  k_with_none
  k_with "exec While" => refine hold_out ?_
  k_with "exec While BoolOp cons nil" => refine hold_out ?_
  k_with "exec While Compare cons nil" => refine hold_out ?_
  k_with "call ref" => ((with_reducible show wpAny _ _ (call (Value.ref 21) _) _ _ _); refine hold_out ?_)
  k_with "call ref" => (k_dflt (refine' cc_end ?B ?F ?X ?N ?T ?XB ?TB ?D ?hk ?h1 ?h2 ?hdd ?hu ?_; (case B => assumption); (case F => assumption); (case X => assumption); (case N => assumption); (case T => assumption); (case XB => assumption); (case TB => assumption); (case D => assumption); (case hk => exact rfl); (case h1 => omega); (case h2 => omega); (case hdd => ktr_room); (case hu => ktr_units); intro g' h' tk' KT' F' N' B' X' T' D'; (try dsimp only)))
  k_steps
  unfold Hold
  rename Fr _ _ _ _ => lF'
  rename News _ _ _ _ => lN'
  refine wl_while (fun _ : Unit => _) (fun _ => [(Str.ofString "pos", fun t => Value.int i t), (Str.ofString "maximum", fun t => Value.int i t)]) [] (fun _ => True) (fun _ => 0) () lF' lN' ⟨⟨_, rfl⟩, ⟨_, rfl⟩, trivial⟩ trivial ?hE ?turn
  case hE => first | passes_own | with_unfolding_all passes_own
  case turn =>
    intro c T9 u h tk9 hP F1 N1
    clear lF' lN'
    simp only [vals, kstB] at F1
    k_fold
    k_steps
    · exact ret _ _ _ _ _ _ (by assumption) (by assumption) (by assumption) (by assumption)
    · exact absurd rfl ‹i ≠ i›
end Mine


theorem Mine.quiet_D1 : True ∧ True := by w_top off; k_with_none; walk1 <;> trivial

-- D1
open PySem PySem.W PySem.Calls PyProof.Rows
set_option Elab.async false
set_option maxRecDepth 100000
set_option maxHeartbeats 8000000
set_option linter.all false
namespace Mine
local macro_rules | `(tactic| k_room) => `(tactic| ktr_room)
local macro_rules | `(tactic| k_mem) => `(tactic| first | exact List.Mem.head _ | assumption | (refine' List.Mem.tail _ ?_; k_mem))
local macro_rules | `(tactic| k_all) => `(tactic| (rename (∀ p : Addr × Obj, p ∈ _ → p.1 < _) => hlt9; first | exact fun q hq => Nat.ne_of_lt (hlt9 q hq) | exact fun q hq => Nat.ne_of_lt (Nat.lt_trans (hlt9 q hq) (by assumption))))
local macro_rules | `(tactic| walk_at "subscriptTail Name Slice ref ref") => `(tactic| (k_here; k_dflt (refine' kms_slice_lit ?F ?N ?l ?p ?q ?e ?_ ?s ?t ?z; (case F => k_asm); (case N => k_asm); (case l => exact News.isList (by k_asm) (by k_mem)); (case p => kmk_part); (case q => kmk_part); (case e => first | exact kp_take (by omega) | exact kp_drop (by omega) | exact kp_run (by omega) (by omega)); (case s => with_unfolding_all rfl); (case t => kmk_pure); (case z => (simp only [List.size_toArray, List.length_cons, List.length_nil]; rw [sizeLine_eq]; omega)); k_whole); intro D' h' F' N' l1; (try simp only [Int.reduceToNat, List.take_succ_cons, List.take_zero, List.take_nil] at N')))
local macro_rules | `(tactic| ke_room) => `(tactic| ktr_units)
local macro_rules | `(tactic| units_room) => `(tactic| ktr_units)
local macro_rules | `(tactic| walk_at $s:str) => `(tactic| k_extra $s)
theorem slice_from {x : Str} {a : Int} (h0 : 0 ≤ a) (h1 : a ≤ x.length) : (Txt.slice x (some a) none).cps.toList = x.cps.toList.drop a.toNat := by
  have e : Txt.slice x (some a) none = Txt.slice x (some a) (some (x.length : Int)) := by
    have e2 : Builtin.Str.strSliceIndices (some a) none 1 x.length = Builtin.Str.strSliceIndices (some a) (some (x.length : Int)) 1 x.length := by
      have h4 : ¬ ((x.length : Int) < 0) := by omega
      simp [Builtin.Str.strSliceIndices, h4]
    unfold Txt.slice
    rw [e2]
  rw [e, slice_toList h0 h1 (Int.le_refl _)]
  have hl := len_list x
  rw [List.take_of_length_le (by rw [List.length_drop]; omega)]
theorem slice_short {x : Str} {a : Int} (h0 : 0 ≤ a) (h1 : a ≤ x.length) (h : x.length < 1000) : (Txt.slice x (some a) none).length < 1000 := by
  rw [len_list, slice_from h0 h1, List.length_drop, ← len_list]
  omega
theorem flat_take_le (P : List (List Nat)) (n : Nat) : (P.take n).flatten.length ≤ P.flatten.length := by
  have h : P.flatten = (P.take n).flatten ++ (P.drop n).flatten := by rw [← List.flatten_append, List.take_append_drop]
  rw [h, List.length_append]
  omega
theorem law_a {w : World} {mg mb : Str → Option Value} {mean : ExcName → Option Value} : ∀ {dp un : Nat} {gd : Option (List Code)} {a : Addr} {ccd : Value} {A₀ : Around} {h₀ : Heap} {L D : Addr} {m₀ : Str → Option Value} {news : List (Addr × Obj)} {s : Shared} {P : List (List Nat)} {H : Int} {ys : List Value} {n : Nat} {tw th : Tok}
    {Q : Flow → Shared → Prop} {E : Value → Shared → Prop} (B : Below A₀ h₀ [] h₀) (F : Fr h₀ L s.heap (kstB m₀ [(Str.ofString "words", .str (strOf P.flatten) tw), (Str.ofString "head", .int H th), (Str.ofString "pieces", .ref D)])) (X : (hd.heap_39 w.params).In h₀) (N : News h₀ L s.heap news)
    (T : Top hd.view_39 (looseW hd.view_39 [Str.ofString "MD_ASCII_PUNCT", Str.ofString "_State", Str.ofString "parseLinkTitle", Str.ofString "_Result", Str.ofString "_law_pieces"]) mean mg mb h₀)
    (hD : (D, listOf ys.toArray n) ∈ news) (hys : StrsAre ys (P.map strOf)) (hP2 : ∀ l ∈ P, l.length ≤ 2) (hP20 : P.length ≤ 20) (hH0 : 0 ≤ H) (hH1 : H ≤ P.length)
    (hdd : dp + 5 < recursionLimit) (hu : un + 300 < cLine)
    {R9 : List (List Nat)} (hR : signsL (P.flatten.drop (strOf (P.take H.toNat).flatten).length) = R9) (hR2 : ∀ l ∈ R9, l.length ≤ 2) (hRo : ∀ l ∈ R9, ∀ c ∈ l, c < 1114112) (hR20 : R9.length ≤ 20)
    (hdN : addrL R9 = none → (destOf (strOf (P.take H.toNat).flatten).length (seg (strOf P.flatten) (strOf (P.take H.toNat).flatten).length (strOf P.flatten).length)).ok = false)
    (hdS : ∀ ds k, addrL R9 = some (ds, k) → destOf (strOf (P.take H.toNat).flatten).length (seg (strOf P.flatten) (strOf (P.take H.toNat).flatten).length (strOf P.flatten).length) = ⟨true, (strOf (P.take H.toNat).flatten).length + (R9.take k).flatten.length, plainL ds⟩ ∧ (∀ c ∈ ds, c ∈ R9) ∧ ds.length ≤ 20)
    (ret : ∀ m' Sg vs n' ta tw' h' tk' news', Fr h₀ L h' (kstB m' [(Str.ofString "words", .str (strOf P.flatten) tw'), (Str.ofString "at", .int (strOf (P.take H.toNat).flatten).length ta), (Str.ofString "signs", .ref Sg)]) → News h₀ L h' news' → (Sg, listOf (List.toArray vs) n') ∈ news' → StrsAre vs (R9.map strOf) →
      wpAny (model PySem.Challenge.rw_bq0008_01.row.prog w) (ktrTop dp un gd (Str.ofString "law") (scopeAt 16) L a ccd [] []) (execs ((bodyAt 16).drop 8) (envOf (Str.ofString "law") (scopeAt 16) L a ccd)) Q E { s with heap := h', toks := tk' }),
    wpAny (model PySem.Challenge.rw_bq0008_01.row.prog w) (ktrTop dp un gd (Str.ofString "law") (scopeAt 16) L a ccd [] []) (execs ((bodyAt 16).drop 3) (envOf (Str.ofString "law") (scopeAt 16) L a ccd)) Q E s := by
  k_fill
  intro dp un gd a ccd A₀ h₀ L D m₀ news s P H ys n tw th Q E B F X N T hD hys hP2 hP20 hH0 hH1 hdd hu R9 hR hR2 hRo hR20 hdN hdS ret
  have hyl : ys.length = P.length := by rw [hys.length, List.length_map]
  have hT2 : ∀ l ∈ P.take H.toNat, l.length ≤ 2 := fun l hl => hP2 l (List.mem_of_mem_take hl)
  have hTn : (P.take H.toNat).length ≤ 1000 := by rw [List.length_take]; omega
  simp only [kstB] at F
  with_unfolding_all refine wpAny_execs_cons ?_
  obtain ⟨sc, hsc⟩ : ∃ sc, sc = scopeAt 16 := ⟨_, rfl⟩
  rw [← hsc] at ret ⊢
  conv at hsc => rhs; whnf
  subst hsc
  have hFl : P.flatten.length ≤ 40 := by have := flatten_len hP2; omega
  have hW : (strOf P.flatten).length ≤ 40 := by rw [len_list, strOf_toList]; exact hFl
  have hAW : (strOf (P.take H.toNat).flatten).length ≤ (strOf P.flatten).length := by rw [len_list, strOf_toList, len_list, strOf_toList]; exact flat_take_le P _
  k_with_none
  k_with "call ref" => ((with_reducible show wpAny _ _ (call (Value.ref 121) _) _ _ _); refine hold_out ?_)
  k_with "call ref" => (k_dflt (refine' sg_call ?B ?F ?X ?N ?T ?hk ?hx ?hd ?hu ?_; (case B => assumption); (case F => assumption); (case X => assumption); (case N => assumption); (case T => assumption); (case hk => exact rfl); (case hx => exact slice_short (by omega) (by omega) (by omega)); (case hd => ktr_room); (case hu => ktr_units); intro q vs n h' tk' F' N' hvs l1; (try dsimp only)))
  k_with "call ref" => (k_dflt (refine' pd_any ?B ?F ?X ?N ?T ?XB ?TB ?hk ?h0 ?h1 ?h2 ?hx ?hdd ?hu ?_; (case B => assumption); (case F => assumption); (case X => assumption); (case N => assumption); (case T => assumption); (case XB => assumption); (case TB => assumption); (case hk => exact rfl); (case h0 => omega); (case h1 => omega); (case h2 => rfl); (case hx => omega); (case hdd => ktr_room); (case hu => ktr_units); intro q d tp ts h' tk' F' N' l1 l2; (try dsimp only)))
  k_with "call builtin:str.join" => (k_dflt (refine jn_list (News.isList (by k_asm) (by k_mem)) (strs_takeL hys _) hT2 hTn ?_))
  k_with "execs cons" => ((with_reducible show wpAny _ _ (execs (Stmt.Assign [Expr.Name _ _] (Expr.Call (Expr.Name (Str.ofString "_law_title") _) _ _ _) _ :: _) _) _ _ _); refine hold_out ?_)
  k_steps
  unfold Hold
  rw [slice_from (by omega) (by omega)] at hvs
  simp only [Int.toNat_natCast, strOf_toList] at hvs
  rw [hR] at hvs
  rename Fr _ _ _ _ => lF'
  rename News _ _ _ _ => lN'
  simp only [Int.toNat_natCast] at lN'
  refine la_call B lF' X lN' T rfl (by k_mem) hvs (by omega) hR2 hRo (by ktr_room) (by ktr_units) ?_ ?_
  · intro h' tk' hnone F' N'
    have hok := hdN hnone
    unfold reO at N'
    rw [hok] at N'
    clear lF' lN'
    dsimp only at N' ⊢
    k_steps
    unfold Hold
    rename Fr _ _ _ _ => lF'
    rename News _ _ _ _ => lN'
    exact ret _ _ _ _ _ _ _ _ _ (fr_kst lF' (List.forall_mem_cons.mpr ⟨rfl, List.forall_mem_cons.mpr ⟨rfl, List.forall_mem_cons.mpr ⟨rfl, List.forall_mem_nil _⟩⟩⟩)) lN' (by k_mem) hvs
  · intro ds k k9 qt pt ws n' t h' tk' all hsome hk9 hws F' N' hm1 hm2 hsub
    obtain ⟨hdo, hds, hdl⟩ := hdS _ _ hsome
    unfold reO at hsub
    rw [hdo] at hsub
    clear lF' lN'
    dsimp only at hsub ⊢
    replace N' := news_two N' hm1 hm2 hsub
    clear hm1 hm2 hsub
    subst hk9
    have hvl := hvs.length
    rw [List.length_map] at hvl
    have hke : (strOf (List.take ((k : Nat) : Int).toNat R9).flatten).length = (List.take k R9).flatten.length := by rw [len_list, strOf_toList]; rfl
    have hkl : (List.take k R9).flatten.length ≤ 40 := by
      have h1 := flat_take_le R9 k
      have h2 := flatten_len hR2
      omega
    have hds2 : ∀ l ∈ ds, l.length ≤ 2 := fun l hl => hR2 l (hds l hl)
    k_with "call ref" => (k_dflt (refine' pl_call ?B ?F ?X ?N ?T ?hk ?hl ?hv ?hx ?hb ?hd ?hu ?_; (case B => assumption); (case F => assumption); (case X => assumption); (case N => assumption); (case T => assumption); (case hk => exact rfl); (case hl => k_mem); (case hv => exact hws); (case hx => omega); (case hb => exact hds2); (case hd => ktr_room); (case hu => ktr_units); intro t h' tk' hpl F' N'; (try dsimp only)))
    k_with "call builtin:str.join" => (k_dflt (refine jn_list (News.isList (by k_asm) (by k_mem)) (strs_takeL hvs _) (fun l hl => hR2 l (List.mem_of_mem_take hl)) (by rw [List.length_take]; omega) ?_))
    k_steps
    · exact absurd ‹(strOf (plainL ds) != strOf (plainL ds)) = true› (by simp)
    · exfalso
      omega
    unfold Hold
    rename Fr _ _ _ _ => lF'
    rename News _ _ _ _ => lN'
    exact ret _ _ _ _ _ _ _ _ _ (fr_kst lF' (List.forall_mem_cons.mpr ⟨rfl, List.forall_mem_cons.mpr ⟨rfl, List.forall_mem_cons.mpr ⟨rfl, List.forall_mem_nil _⟩⟩⟩)) lN' (by k_mem) hvs
end Mine


theorem Mine.quiet_D2 : True ∧ True := by w_top off; k_with_none; walk1 <;> trivial

-- D2
open PySem PySem.W PySem.Calls PyProof.Rows
set_option Elab.async false
set_option maxRecDepth 100000
set_option maxHeartbeats 8000000
set_option linter.all false
namespace Mine
local macro_rules | `(tactic| k_room) => `(tactic| ktr_room)
local macro_rules | `(tactic| k_mem) => `(tactic| first | exact List.Mem.head _ | assumption | (refine' List.Mem.tail _ ?_; k_mem))
local macro_rules | `(tactic| k_all) => `(tactic| (rename (∀ p : Addr × Obj, p ∈ _ → p.1 < _) => hlt9; first | exact fun q hq => Nat.ne_of_lt (hlt9 q hq) | exact fun q hq => Nat.ne_of_lt (Nat.lt_trans (hlt9 q hq) (by assumption))))
local macro_rules | `(tactic| walk_at "subscriptTail Name Slice ref ref") => `(tactic| (k_here; k_dflt (refine' kms_slice_lit ?F ?N ?l ?p ?q ?e ?_ ?s ?t ?z; (case F => k_asm); (case N => k_asm); (case l => exact News.isList (by k_asm) (by k_mem)); (case p => kmk_part); (case q => kmk_part); (case e => first | exact kp_take (by omega) | exact kp_drop (by omega) | exact kp_run (by omega) (by omega)); (case s => with_unfolding_all rfl); (case t => kmk_pure); (case z => (simp only [List.size_toArray, List.length_cons, List.length_nil]; rw [sizeLine_eq]; omega)); k_whole); intro D' h' F' N' l1; (try simp only [Int.reduceToNat, List.take_succ_cons, List.take_zero, List.take_nil] at N')))
local macro_rules | `(tactic| ke_room) => `(tactic| ktr_units)
local macro_rules | `(tactic| units_room) => `(tactic| ktr_units)
local macro_rules | `(tactic| walk_at $s:str) => `(tactic| k_extra $s)
/-- what _law_title told, and where it stands -/
def Due (R : List (List Nat)) (dv : Value) (news : List (Addr × Obj)) : Prop :=
  (titleL R = none ∧ dv = .none) ∨ ∃ ds k q p ws n t, titleL R = some (ds, k) ∧ dv = .ref q ∧ (q, ({ cls := Value.type "tuple", data := Data.seq #[Value.ref p, Value.int ((k : Nat) : Int) t] } : Obj)) ∈ news ∧ (p, listOf (List.toArray ws) n) ∈ news ∧ StrsAre ws (ds.map strOf)
theorem Due.mono {R : List (List Nat)} {dv : Value} {news all : List (Addr × Obj)} (h : Due R dv news) (hs : ∀ x ∈ news, x ∈ all) : Due R dv all := by
  rcases h with h | ⟨ds, k, q, p, ws, n, t, h1, h2, h3, h4, h5⟩
  · exact .inl h
  · exact .inr ⟨ds, k, q, p, ws, n, t, h1, h2, hs _ h3, hs _ h4, h5⟩
theorem law_b {w : World} {mg mb : Str → Option Value} {mean : ExcName → Option Value} : ∀ {dp un : Nat} {gd : Option (List Code)} {a : Addr} {ccd : Value} {A₀ : Around} {h₀ : Heap} {L Sg : Addr} {m₀ : Str → Option Value} {news : List (Addr × Obj)} {s : Shared} {W : Str} {A : Int} {vs : List Value} {n : Nat} {tw ta : Tok} {R9 : List (List Nat)}
    {Q : Flow → Shared → Prop} {E : Value → Shared → Prop} (B : Below A₀ h₀ [] h₀) (F : Fr h₀ L s.heap (kstB m₀ [(Str.ofString "words", .str W tw), (Str.ofString "at", .int A ta), (Str.ofString "signs", .ref Sg)])) (X : (hd.heap_39 w.params).In h₀) (N : News h₀ L s.heap news)
    (T : Top hd.view_39 (looseW hd.view_39 [Str.ofString "MD_ASCII_PUNCT", Str.ofString "_State", Str.ofString "parseLinkTitle", Str.ofString "_Result", Str.ofString "_law_pieces"]) mean mg mb h₀)
    (hS : (Sg, listOf vs.toArray n) ∈ news) (hvs : StrsAre vs (R9.map strOf)) (hR2 : ∀ l ∈ R9, l.length ≤ 2) (hRo : ∀ l ∈ R9, ∀ c ∈ l, c < 1114112) (hR20 : R9.length ≤ 20)
    (hdd : dp + 5 < recursionLimit) (hu : un + 300 < cLine)
    (ret : ∀ m' ta tw' dv h' tk' news', Fr h₀ L h' (kstB m' [(Str.ofString "words", .str W tw'), (Str.ofString "at", .int A ta), (Str.ofString "signs", .ref Sg), (Str.ofString "due", dv)]) → News h₀ L h' news' → (Sg, listOf vs.toArray n) ∈ news' → Due R9 dv news' →
      wpAny (model PySem.Challenge.rw_bq0008_01.row.prog w) (ktrTop dp un gd (Str.ofString "law") (scopeAt 16) L a ccd [] []) (execs ((bodyAt 16).drop 9) (envOf (Str.ofString "law") (scopeAt 16) L a ccd)) Q E { s with heap := h', toks := tk' }),
    wpAny (model PySem.Challenge.rw_bq0008_01.row.prog w) (ktrTop dp un gd (Str.ofString "law") (scopeAt 16) L a ccd [] []) (execs ((bodyAt 16).drop 8) (envOf (Str.ofString "law") (scopeAt 16) L a ccd)) Q E s := by
  k_fill
  intro dp un gd a ccd A₀ h₀ L Sg m₀ news s W A vs n tw ta R9 Q E B F X N T hS hvs hR2 hRo hR20 hdd hu ret
  simp only [kstB] at F
  with_unfolding_all refine wpAny_execs_cons ?_
  obtain ⟨sc, hsc⟩ : ∃ sc, sc = scopeAt 16 := ⟨_, rfl⟩
  rw [← hsc] at ret ⊢
  conv at hsc => rhs; whnf
  subst hsc
  k_with_none
  k_with "call ref" => ((with_reducible show wpAny _ _ (call (Value.ref 128) _) _ _ _); refine hold_out ?_)
  k_with "execs cons" => ((with_reducible show wpAny _ _ (execs (Stmt.Assign [Expr.Name _ _] (Expr.Call (Expr.Name (Str.ofString "parseLinkTitle") _) _ _ _) _ :: _) _) _ _ _); refine hold_out ?_)
  k_steps
  unfold Hold
  rename Fr _ _ _ _ => lF'
  rename News _ _ _ _ => lN'
  refine lt_call B lF' X lN' T rfl (by k_mem) hvs (by omega) hR2 hRo (by ktr_room) (by ktr_units) ?_ ?_
  · intro h' tk' hnone F' N'
    clear lF' lN'
    (try dsimp only)
    k_steps
    unfold Hold
    rename Fr _ _ _ _ => lF'
    rename News _ _ _ _ => lN'
    exact ret _ _ _ _ _ _ _ (fr_kst lF' (List.forall_mem_cons.mpr ⟨rfl, List.forall_mem_cons.mpr ⟨rfl, List.forall_mem_cons.mpr ⟨rfl, List.forall_mem_cons.mpr ⟨rfl, List.forall_mem_nil _⟩⟩⟩⟩)) lN' (by k_mem) (.inl ⟨hnone, rfl⟩)
  · intro ds k k9 qt pt ws n' t h' tk' all hsome hk9 hws F' N' hm1 hm2 hsub
    subst hk9
    clear lF' lN'
    (try dsimp only)
    k_steps
    unfold Hold
    rename Fr _ _ _ _ => lF'
    rename News _ _ _ _ => lN'
    exact ret _ _ _ _ _ _ _ (fr_kst lF' (List.forall_mem_cons.mpr ⟨rfl, List.forall_mem_cons.mpr ⟨rfl, List.forall_mem_cons.mpr ⟨rfl, List.forall_mem_cons.mpr ⟨rfl, List.forall_mem_nil _⟩⟩⟩⟩)) lN' (hsub _ (by k_mem)) (.inr ⟨_, _, _, _, _, _, _, hsome, rfl, hm1, hm2, hws⟩)
end Mine


theorem Mine.quiet_D3 : True ∧ True := by w_top off; k_with_none; walk1 <;> trivial

-- D3
open PySem PySem.W PySem.Calls PyProof.Rows
set_option Elab.async false
set_option maxRecDepth 100000
set_option maxHeartbeats 8000000
set_option linter.all false
namespace Mine
local macro_rules | `(tactic| k_room) => `(tactic| ktr_room)
local macro_rules | `(tactic| k_mem) => `(tactic| first | exact List.Mem.head _ | assumption | (refine' List.Mem.tail _ ?_; k_mem))
local macro_rules | `(tactic| k_all) => `(tactic| (rename (∀ p : Addr × Obj, p ∈ _ → p.1 < _) => hlt9; first | exact fun q hq => Nat.ne_of_lt (hlt9 q hq) | exact fun q hq => Nat.ne_of_lt (Nat.lt_trans (hlt9 q hq) (by assumption))))
local macro_rules | `(tactic| walk_at "subscriptTail Name Slice ref ref") => `(tactic| (k_here; k_dflt (refine' kms_slice_lit ?F ?N ?l ?p ?q ?e ?_ ?s ?t ?z; (case F => k_asm); (case N => k_asm); (case l => exact News.isList (by k_asm) (by k_mem)); (case p => kmk_part); (case q => kmk_part); (case e => first | exact kp_take (by omega) | exact kp_drop (by omega) | exact kp_run (by omega) (by omega)); (case s => with_unfolding_all rfl); (case t => kmk_pure); (case z => (simp only [List.size_toArray, List.length_cons, List.length_nil]; rw [sizeLine_eq]; omega)); k_whole); intro D' h' F' N' l1; (try simp only [Int.reduceToNat, List.take_succ_cons, List.take_zero, List.take_nil] at N')))
local macro_rules | `(tactic| ke_room) => `(tactic| ktr_units)
local macro_rules | `(tactic| units_room) => `(tactic| ktr_units)
local macro_rules | `(tactic| tb_start) => `(tactic| (intro z h2 h3; have h4 := h3; simp only [List.forall_mem_cons, List.not_mem_nil, false_implies, implies_true, and_true, ne_eq] at h2; (try simp only [List.contains_cons, List.contains_nil, Bool.or_false, Bool.or_eq_false_iff, beq_eq_false_iff_ne, ne_eq] at h4); simp only [vals, kstB, h2, h3, h4, if_false, Bool.false_eq_true]))
local macro_rules | `(tactic| walk_at "WlPost") => `(tactic| (dsimp only [WlPost]))
local macro_rules | `(tactic| walk_at $s:str) => `(tactic| k_extra $s)
structure PS where
  r : TR
  P : Addr
  d : Addr
  tm : Tok
  tp : Tok
  ts : Tok
  e : Int
theorem law_w {w : World} {mg mb : Str → Option Value} {mean : ExcName → Option Value} : ∀ {dp un : Nat} {gd : Option (List Code)} {a : Addr} {ccd : Value} {A₀ : Around} {h₀ : Heap} {L Sg Wh dW Pa dP : Addr} {m₀ : Str → Option Value} {news : List (Addr × Obj)} {s : Shared} {W : Str} {A e : Int} {vs : List Value} {n : Nat} {rW r : TR} {tw ta te tmW tpW tsW tm tp ts : Tok} {dv : Value} {R9 : List (List Nat)}
    {Q : Flow → Shared → Prop} {E : Value → Shared → Prop} (B : Below A₀ h₀ [] h₀) (F : Fr h₀ L s.heap (kstB m₀ [(Str.ofString "words", .str W tw), (Str.ofString "at", .int A ta), (Str.ofString "signs", .ref Sg), (Str.ofString "due", dv), (Str.ofString "whole", .ref Wh), (Str.ofString "end", .int e te), (Str.ofString "part", .ref Pa)])) (X : (hd.heap_39 w.params).In h₀) (N : News h₀ L s.heap news)
    (T : Top hd.view_39 (looseW hd.view_39 [Str.ofString "MD_ASCII_PUNCT", Str.ofString "_State", Str.ofString "parseLinkTitle", Str.ofString "_Result", Str.ofString "_law_pieces"]) mean mg mb h₀)
    (hS : (Sg, listOf vs.toArray n) ∈ news) (hDue : Due R9 dv news) (hWh : (Wh, stO dW rW tmW tpW tsW) ∈ news) (hPa : (Pa, stO dP r tm tp ts) ∈ news) (hdP : (dP, dictOf [] 0) ∈ news)
    (hW : W.length ≤ 40) (J : TR → Int → Prop) (G : TR → Prop) (hJ : J r e)
    (hf : ∀ b : Int, 0 ≤ b → b ≤ W.length → Txt.find3 W (Str.ofString "\n") b + 1 = 0 ∨ (b < Txt.find3 W (Str.ofString "\n") b + 1 ∧ Txt.find3 W (Str.ofString "\n") b + 1 ≤ W.length))
    (hJs : ∀ r (e : Int), J r e → r.cc = true → 0 < e → e < W.length → J (titleGo r.mr r.st e.toNat (seg W e.toNat (if 0 < Txt.find3 W (Str.ofString "\n") e + 1 then (Txt.find3 W (Str.ofString "\n") e + 1).toNat else W.length))) (Txt.find3 W (Str.ofString "\n") e + 1))
    (hJe : ∀ r (e : Int), J r e → ¬ (r.cc = true ∧ 0 < e ∧ e < W.length) → G r)
    (hJl : ∀ r (e : Int), J r e → r.st.length < 10000 ∧ 0 ≤ e ∧ e ≤ W.length)
    (hdd : dp + 5 < recursionLimit) (hu : un + 300 < cLine)
    (hE : PassesOwn (model PySem.Challenge.rw_bq0008_01.row.prog w) (ktrTop dp un gd (Str.ofString "law") (scopeAt 16) L a ccd [] []) (envOf (Str.ofString "law") (scopeAt 16) L a ccd) E)
    (ret : ∀ m' ta tw' h' tk' news' Pa dP r tm tp ts, Fr h₀ L h' (kstB m' [(Str.ofString "words", .str W tw'), (Str.ofString "at", .int A ta), (Str.ofString "signs", .ref Sg), (Str.ofString "due", dv), (Str.ofString "whole", .ref Wh), (Str.ofString "part", .ref Pa)]) → News h₀ L h' news' → (∀ x ∈ news, x ∈ news') → (Pa, stO dP r tm tp ts) ∈ news' → (dP, dictOf [] 0) ∈ news' → G r →
      wpAny (model PySem.Challenge.rw_bq0008_01.row.prog w) (ktrTop dp un gd (Str.ofString "law") (scopeAt 16) L a ccd [] []) (execs ((bodyAt 16).drop 13) (envOf (Str.ofString "law") (scopeAt 16) L a ccd)) Q E { s with heap := h', toks := tk' }),
    wpAny (model PySem.Challenge.rw_bq0008_01.row.prog w) (ktrTop dp un gd (Str.ofString "law") (scopeAt 16) L a ccd [] []) (execs ((bodyAt 16).drop 12) (envOf (Str.ofString "law") (scopeAt 16) L a ccd)) Q E s := by
  k_fill
  intro dp un gd a ccd A₀ h₀ L Sg Wh dW Pa dP m₀ news s W A e vs n rW r tw ta te tmW tpW tsW tm tp ts dv R9 Q E B F X N T hS hDue hWh hPa hdP hW J G hJ hf hJs hJe hJl hdd hu hE ret
  simp only [kstB] at F
  with_unfolding_all refine wpAny_execs_cons ?_
  obtain ⟨sc, hsc⟩ : ∃ sc, sc = scopeAt 16 := ⟨_, rfl⟩
  rw [← hsc] at ret hE ⊢
  conv at hsc => rhs; whnf
  subst hsc
  have N0 : News h₀ L s.heap ((Pa, stO dP r tm tp ts) :: (dP, dictOf [] 0) :: news) := news_two N hPa hdP (fun _ h => h)
  refine wl_while (fun c : PS => (c.P, stO c.d c.r c.tm c.tp c.ts) :: (c.d, dictOf [] 0) :: news) (fun c : PS => [(Str.ofString "end", fun t => Value.int c.e t), (Str.ofString "part", fun _ => Value.ref c.P), (Str.ofString "words", fun t => Value.str W t), (Str.ofString "at", fun t => Value.int A t), (Str.ofString "signs", fun _ => Value.ref Sg), (Str.ofString "due", fun _ => dv), (Str.ofString "whole", fun _ => Value.ref Wh)]) [Str.ofString "begin"]
    (fun c => J c.r c.e) (fun c => if c.e = 0 then 0 else ((W.length : Int) + 1 - c.e).toNat) ⟨r, Pa, dP, tm, tp, ts, e⟩ F N0 ⟨⟨_, rfl⟩, ⟨0, rfl⟩, ⟨_, rfl⟩, ⟨_, rfl⟩, ⟨0, rfl⟩, ⟨0, rfl⟩, ⟨0, rfl⟩, trivial⟩ hJ hE ?turn
  rintro ⟨r, Pa, dP, tm, tp, ts, e⟩ T9 u h tk9 hP F1 N1
  clear F N N0 hJ hPa hdP
  simp only [vals, kstB] at F1
  (try dsimp only at hP F1 N1)
  obtain ⟨hl1, hl2, hl3⟩ := hJl _ _ hP
  obtain ⟨all, hall⟩ : ∃ all, all = (Pa, stO dP r tm tp ts) :: (dP, dictOf [] 0) :: news := ⟨_, rfl⟩
  have hPa : (Pa, stO dP r tm tp ts) ∈ all := by rw [hall]; exact .head _
  have hdP : (dP, dictOf [] 0) ∈ all := by rw [hall]; exact .tail _ (.head _)
  have hsub : ∀ x ∈ news, x ∈ all := fun x hx => by rw [hall]; exact .tail _ (.tail _ hx)
  have N2 : News h₀ L h ((Pa, stO dP r tm tp ts) :: all) := fun p hp => by
    rcases List.mem_cons.mp hp with rfl | hp
    · exact N1 _ (.head _)
    · rw [hall] at hp
      exact N1 _ hp
  clear N1 hall
  unfold stO at N2
  (try dsimp only at N2)
  k_with_none
  k_with "call ref" => ((with_reducible show wpAny _ _ (call (Value.ref 70) _) _ _ _); refine hold_out ?_)
  k_with "execs cons" => ((with_reducible show wpAny _ _ (execs (Stmt.Assign [Expr.Name (Str.ofString "answers") _] _ _ :: _) _) _ _ _); refine hold_out ?_)
  k_steps
  · unfold Hold
    rename Fr _ _ _ _ => lF'
    rename News _ _ _ _ => lN'
    have hf9 := hf e hl2 hl3
    have hJ9 := hJs r e hP (by assumption) (by assumption) (by assumption)
    rw [if_pos (by assumption)] at hJ9
    refine pt_next (r := r) B lF' X lN' T rfl (by omega) (by omega) (by omega) (by omega) (.tail _ hPa) (.tail _ hdP) hl1 (by ktr_room) (by ktr_units) fun q d tm' tp' ts' h' tk' F' N' lt1 lt2 => ?_
    clear lF' lN'
    (try dsimp only)
    k_steps
    refine wl_end ⟨_, q, d, tm', tp', ts', Txt.find3 W (Str.ofString "\n") e + 1⟩ (by assumption) (by assumption) (fun p hp => ?_) ⟨⟨_, rfl⟩, ⟨0, rfl⟩, ⟨_, rfl⟩, ⟨_, rfl⟩, ⟨0, rfl⟩, ⟨0, rfl⟩, ⟨0, rfl⟩, trivial⟩ (by tb_start) hJ9 ?_
    · rcases List.mem_cons.mp hp with rfl | hp
      · exact .head _
      rcases List.mem_cons.mp hp with rfl | hp
      · exact .tail _ (.head _)
      · exact .tail _ (.tail _ (.tail _ (hsub _ hp)))
    · dsimp only
      rw [if_neg (by omega), if_neg (by omega)]
      omega
  · unfold Hold
    rename Fr _ _ _ _ => lF'
    rename News _ _ _ _ => lN'
    have hf9 := hf e hl2 hl3
    have hJ9 := hJs r e hP (by assumption) (by assumption) (by assumption)
    rw [if_neg (by assumption)] at hJ9
    refine pt_next (r := r) B lF' X lN' T rfl (by omega) (by omega) (by omega) (by omega) (.tail _ hPa) (.tail _ hdP) hl1 (by ktr_room) (by ktr_units) fun q d tm' tp' ts' h' tk' F' N' lt1 lt2 => ?_
    clear lF' lN'
    (try dsimp only)
    k_steps
    refine wl_end ⟨_, q, d, tm', tp', ts', Txt.find3 W (Str.ofString "\n") e + 1⟩ (by assumption) (by assumption) (fun p hp => ?_) ⟨⟨_, rfl⟩, ⟨0, rfl⟩, ⟨_, rfl⟩, ⟨_, rfl⟩, ⟨0, rfl⟩, ⟨0, rfl⟩, ⟨0, rfl⟩, trivial⟩ (by tb_start) hJ9 ?_
    · rcases List.mem_cons.mp hp with rfl | hp
      · exact .head _
      rcases List.mem_cons.mp hp with rfl | hp
      · exact .tail _ (.head _)
      · exact .tail _ (.tail _ (.tail _ (hsub _ hp)))
    · dsimp only
      rw [if_pos (by omega), if_neg (by omega)]
      omega
  all_goals (
    unfold Hold
    rename Fr _ _ _ _ => lF'
    exact ret _ _ _ _ _ _ _ _ _ _ _ _ (fr_kst lF' (List.forall_mem_cons.mpr ⟨rfl, List.forall_mem_cons.mpr ⟨rfl, List.forall_mem_cons.mpr ⟨rfl, List.forall_mem_cons.mpr ⟨rfl, List.forall_mem_cons.mpr ⟨rfl, List.forall_mem_cons.mpr ⟨rfl, List.forall_mem_nil _⟩⟩⟩⟩⟩⟩)) N2 (fun x hx => .tail _ (hsub x hx)) (.tail _ hPa) (.tail _ hdP) (hJe r e hP (fun h => by first | (exact absurd h.2.2 (by assumption)) | (exact absurd h.2.1 (by assumption)) | simp_all)))
end Mine


theorem Mine.quiet_D4 : True ∧ True := by w_top off; k_with_none; walk1 <;> trivial

-- D4
open PySem PySem.W PySem.Calls PyProof.Rows
set_option Elab.async false
set_option maxRecDepth 100000
set_option maxHeartbeats 8000000
set_option linter.all false
namespace Mine
local macro_rules | `(tactic| k_room) => `(tactic| ktr_room)
local macro_rules | `(tactic| k_mem) => `(tactic| first | exact List.Mem.head _ | assumption | (refine' List.Mem.tail _ ?_; k_mem))
local macro_rules | `(tactic| k_all) => `(tactic| (rename (∀ p : Addr × Obj, p ∈ _ → p.1 < _) => hlt9; first | exact fun q hq => Nat.ne_of_lt (hlt9 q hq) | exact fun q hq => Nat.ne_of_lt (Nat.lt_trans (hlt9 q hq) (by assumption))))
local macro_rules | `(tactic| walk_at "subscriptTail Name Slice ref ref") => `(tactic| (k_here; k_dflt (refine' kms_slice_lit ?F ?N ?l ?p ?q ?e ?_ ?s ?t ?z; (case F => k_asm); (case N => k_asm); (case l => exact News.isList (by k_asm) (by k_mem)); (case p => kmk_part); (case q => kmk_part); (case e => first | exact kp_take (by omega) | exact kp_drop (by omega) | exact kp_run (by omega) (by omega)); (case s => with_unfolding_all rfl); (case t => kmk_pure); (case z => (simp only [List.size_toArray, List.length_cons, List.length_nil]; rw [sizeLine_eq]; omega)); k_whole); intro D' h' F' N' l1; (try simp only [Int.reduceToNat, List.take_succ_cons, List.take_zero, List.take_nil] at N')))
local macro_rules | `(tactic| ke_room) => `(tactic| ktr_units)
local macro_rules | `(tactic| units_room) => `(tactic| ktr_units)
local macro_rules | `(tactic| walk_at $s:str) => `(tactic| k_extra $s)
theorem law_p {w : World} {mg mb : Str → Option Value} {mean : ExcName → Option Value} : ∀ {dp un : Nat} {gd : Option (List Code)} {a : Addr} {ccd : Value} {A₀ : Around} {h₀ : Heap} {L Sg : Addr} {m₀ : Str → Option Value} {news : List (Addr × Obj)} {s : Shared} {W : Str} {A : Int} {vs : List Value} {n : Nat} {tw ta : Tok} {dv : Value} {R9 : List (List Nat)}
    {Q : Flow → Shared → Prop} {E : Value → Shared → Prop} (B : Below A₀ h₀ [] h₀) (F : Fr h₀ L s.heap (kstB m₀ [(Str.ofString "words", .str W tw), (Str.ofString "at", .int A ta), (Str.ofString "signs", .ref Sg), (Str.ofString "due", dv)])) (X : (hd.heap_39 w.params).In h₀) (N : News h₀ L s.heap news)
    (T : Top hd.view_39 (looseW hd.view_39 [Str.ofString "MD_ASCII_PUNCT", Str.ofString "_State", Str.ofString "parseLinkTitle", Str.ofString "_Result", Str.ofString "_law_pieces"]) mean mg mb h₀)
    (hS : (Sg, listOf vs.toArray n) ∈ news) (hDue : Due R9 dv news)
    (hW : W.length ≤ 40) (hA0 : 0 ≤ A) (hA1 : A ≤ W.length) (J : TR → Int → Prop) (G : TR → Prop)
    (hf : ∀ b : Int, 0 ≤ b → b ≤ W.length → Txt.find3 W (Str.ofString "\n") b + 1 = 0 ∨ (b < Txt.find3 W (Str.ofString "\n") b + 1 ∧ Txt.find3 W (Str.ofString "\n") b + 1 ≤ W.length))
    (hG : G (titleFirst A.toNat (seg W A.toNat W.length)))
    (hJ : J (titleFirst A.toNat (seg W A.toNat (if 0 < Txt.find3 W (Str.ofString "\n") A + 1 then (Txt.find3 W (Str.ofString "\n") A + 1).toNat else W.length))) (Txt.find3 W (Str.ofString "\n") A + 1))
    (hJs : ∀ r (e : Int), J r e → r.cc = true → 0 < e → e < W.length → J (titleGo r.mr r.st e.toNat (seg W e.toNat (if 0 < Txt.find3 W (Str.ofString "\n") e + 1 then (Txt.find3 W (Str.ofString "\n") e + 1).toNat else W.length))) (Txt.find3 W (Str.ofString "\n") e + 1))
    (hJe : ∀ r (e : Int), J r e → ¬ (r.cc = true ∧ 0 < e ∧ e < W.length) → G r)
    (hJl : ∀ r (e : Int), J r e → r.st.length < 10000 ∧ 0 ≤ e ∧ e ≤ W.length)
    (hdd : dp + 5 < recursionLimit) (hu : un + 300 < cLine)
    (hE : PassesOwn (model PySem.Challenge.rw_bq0008_01.row.prog w) (ktrTop dp un gd (Str.ofString "law") (scopeAt 16) L a ccd [] []) (envOf (Str.ofString "law") (scopeAt 16) L a ccd) E)
    (ret : ∀ m' ta tw' h' tk' news' Wh dW rW tmW tpW tsW Pa dP r tm tp ts, Fr h₀ L h' (kstB m' [(Str.ofString "words", .str W tw'), (Str.ofString "at", .int A ta), (Str.ofString "signs", .ref Sg), (Str.ofString "due", dv), (Str.ofString "whole", .ref Wh), (Str.ofString "part", .ref Pa)]) → News h₀ L h' news' → (∀ x ∈ news, x ∈ news') → (Wh, stO dW rW tmW tpW tsW) ∈ news' → (dW, dictOf [] 0) ∈ news' → (Pa, stO dP r tm tp ts) ∈ news' → (dP, dictOf [] 0) ∈ news' → G rW → G r →
      wpAny (model PySem.Challenge.rw_bq0008_01.row.prog w) (ktrTop dp un gd (Str.ofString "law") (scopeAt 16) L a ccd [] []) (execs ((bodyAt 16).drop 13) (envOf (Str.ofString "law") (scopeAt 16) L a ccd)) Q E { s with heap := h', toks := tk' }),
    wpAny (model PySem.Challenge.rw_bq0008_01.row.prog w) (ktrTop dp un gd (Str.ofString "law") (scopeAt 16) L a ccd [] []) (execs ((bodyAt 16).drop 9) (envOf (Str.ofString "law") (scopeAt 16) L a ccd)) Q E s := by
  k_fill
  intro dp un gd a ccd A₀ h₀ L Sg m₀ news s W A vs n tw ta dv R9 Q E B F X N T hS hDue hW hA0 hA1 J G hf hG hJ hJs hJe hJl hdd hu hE ret
  simp only [kstB] at F
  with_unfolding_all refine wpAny_execs_cons ?_
  obtain ⟨sc, hsc⟩ : ∃ sc, sc = scopeAt 16 := ⟨_, rfl⟩
  rw [← hsc] at ret hE ⊢
  conv at hsc => rhs; whnf
  subst hsc
  have hfA := hf A hA0 hA1
  k_with_none
  k_with "call ref" => ((with_reducible show wpAny _ _ (call (Value.ref 70) _) _ _ _); refine hold_out ?_)
  k_with "execs cons" => ((with_reducible show wpAny _ _ (execs (Stmt.While _ _ _ _ :: _) _) _ _ _); refine hold_out ?_)
  k_steps
  unfold Hold
  rename Fr _ _ _ _ => lF'
  rename News _ _ _ _ => lN'
  refine pt_call B lF' X lN' T rfl (by omega) (by omega) (by omega) (by omega) (by ktr_room) (by ktr_units) fun Wh dW tmW tpW tsW h' tk' F' N' lt1 lt2 => ?_
  clear lF' lN'
  (try dsimp only)
  k_steps
  · unfold Hold
    rename Fr _ _ _ _ => lF'
    rename News _ _ _ _ => lN'
    rw [if_pos (by assumption)] at hJ
    refine pt_call B lF' X lN' T rfl (by omega) (by omega) (by omega) (by omega) (by ktr_room) (by ktr_units) fun Pa dP tm tp ts h' tk' F' N' lt1 lt2 => ?_
    clear lF' lN'
    (try dsimp only)
    k_steps
    unfold Hold
    rename Fr _ _ _ _ => lF'
    rename News _ _ _ _ => lN'
    refine law_w B (fr_kst lF' (List.forall_mem_cons.mpr ⟨rfl, List.forall_mem_cons.mpr ⟨rfl, List.forall_mem_cons.mpr ⟨rfl, List.forall_mem_cons.mpr ⟨rfl, List.forall_mem_cons.mpr ⟨rfl, List.forall_mem_cons.mpr ⟨rfl, List.forall_mem_cons.mpr ⟨rfl, List.forall_mem_nil _⟩⟩⟩⟩⟩⟩⟩)) X lN' T (by k_mem) (hDue.mono fun x hx => by k_mem) (.tail _ (.tail _ (.head _))) (.head _) (.tail _ (.head _)) hW J G hJ hf hJs hJe hJl hdd hu hE ?_
    intro m' ta tw' h' tk' news' Pa dP r tm tp ts F2 N2 hs2 hp2 hd2 hg2
    exact ret _ _ _ _ _ _ _ _ _ _ _ _ _ _ _ _ _ _ F2 N2 (fun x hx => hs2 _ (by k_mem)) (hs2 _ (.tail _ (.tail _ (.head _)))) (hs2 _ (.tail _ (.tail _ (.tail _ (.head _))))) hp2 hd2 hG hg2
  · unfold Hold
    rename Fr _ _ _ _ => lF'
    rename News _ _ _ _ => lN'
    rw [if_neg (by assumption)] at hJ
    refine pt_call B lF' X lN' T rfl (by omega) (by omega) (by omega) (by omega) (by ktr_room) (by ktr_units) fun Pa dP tm tp ts h' tk' F' N' lt1 lt2 => ?_
    clear lF' lN'
    (try dsimp only)
    k_steps
    unfold Hold
    rename Fr _ _ _ _ => lF'
    rename News _ _ _ _ => lN'
    refine law_w B (fr_kst lF' (List.forall_mem_cons.mpr ⟨rfl, List.forall_mem_cons.mpr ⟨rfl, List.forall_mem_cons.mpr ⟨rfl, List.forall_mem_cons.mpr ⟨rfl, List.forall_mem_cons.mpr ⟨rfl, List.forall_mem_cons.mpr ⟨rfl, List.forall_mem_cons.mpr ⟨rfl, List.forall_mem_nil _⟩⟩⟩⟩⟩⟩⟩)) X lN' T (by k_mem) (hDue.mono fun x hx => by k_mem) (.tail _ (.tail _ (.head _))) (.head _) (.tail _ (.head _)) hW J G hJ hf hJs hJe hJl hdd hu hE ?_
    intro m' ta tw' h' tk' news' Pa dP r tm tp ts F2 N2 hs2 hp2 hd2 hg2
    exact ret _ _ _ _ _ _ _ _ _ _ _ _ _ _ _ _ _ _ F2 N2 (fun x hx => hs2 _ (by k_mem)) (hs2 _ (.tail _ (.tail _ (.head _)))) (hs2 _ (.tail _ (.tail _ (.tail _ (.head _))))) hp2 hd2 hG hg2
end Mine


theorem Mine.quiet_P7 : True ∧ True := by w_top off; k_with_none; walk1 <;> trivial

-- P7
open PySem PySem.W PySem.Calls PyProof.Rows
set_option Elab.async false
set_option linter.all false
namespace Mine
def Pcs (P : List (List Nat)) : Prop := ∀ l ∈ P, l ∈ menuL
theorem Pcs.tl {c : List Nat} {P : List (List Nat)} (h : Pcs (c :: P)) : Pcs P := fun l hl => h l (.tail _ hl)
theorem Pcs.hd {c : List Nat} {P : List (List Nat)} (h : Pcs (c :: P)) : c ∈ menuL := h c (.head _)
theorem Pcs.take {P : List (List Nat)} (h : Pcs P) (n : Nat) : Pcs (P.take n) := fun l hl => h l (List.mem_of_mem_take hl)
theorem Pcs.drop {P : List (List Nat)} (h : Pcs P) (n : Nat) : Pcs (P.drop n) := fun l hl => h l (List.mem_of_mem_drop hl)
/-- what a piece is: one sign that is no backslash, or a backslash with a sign behind it -/
theorem pc_form {p : List Nat} (h : p ∈ menuL) : (∃ c, p = [c] ∧ c ≠ 92) ∨ ∃ d, p = [92, d] ∧ d ≠ 32 ∧ d ≠ 10 ∧ ((d ∈ punctL ∧ d ∈ [40, 41, 34, 39, 60, 62, 92]) ∨ d = 97) := by
  revert p
  have h : ∀ p ∈ menuL, (p.length = 1 ∧ p.getD 0 0 ≠ 92) ∨ (p.length = 2 ∧ p.getD 0 0 = 92 ∧ p.getD 1 0 ≠ 32 ∧ p.getD 1 0 ≠ 10 ∧ ((p.getD 1 0 ∈ punctL ∧ p.getD 1 0 ∈ [40, 41, 34, 39, 60, 62, 92]) ∨ p.getD 1 0 = 97)) := by decide
  intro p hp
  rcases h p hp with ⟨h1, h2⟩ | ⟨h1, h2, h3⟩
  · match p, h1 with
    | [c], _ => exact .inl ⟨c, rfl, h2⟩
  · match p, h1 with
    | [b, d], _ =>
      obtain rfl : b = 92 := h2
      exact .inr ⟨d, rfl, h3⟩
theorem pc_pos {p : List Nat} (h : p ∈ menuL) : 0 < p.length := by
  rcases pc_form h with ⟨c, rfl, _⟩ | ⟨d, rfl, _⟩ <;> simp
theorem signs_pc {p l : List Nat} (h : p ∈ menuL) : signsL (p ++ l) = p :: signsL l := by
  rcases pc_form h with ⟨c, rfl, hc⟩ | ⟨d, rfl, _⟩
  · exact signsL_one (.inl hc)
  · exact signsL_two
theorem signs_all : ∀ {P : List (List Nat)}, Pcs P → signsL P.flatten = P
  | [], _ => rfl
  | p :: P, h => by rw [List.flatten_cons, signs_pc h.hd, signs_all h.tl]
theorem unesc_pc {p l : List Nat} (h : p ∈ menuL) : unescL (p ++ l) = plain1 p ++ unescL l := by
  rcases pc_form h with ⟨c, rfl, hc⟩ | ⟨d, rfl, _, _, ⟨h1, h2⟩ | rfl⟩
  · cases l with
    | nil => rfl
    | cons d r =>
      show unescL (c :: d :: r) = c :: unescL (d :: r)
      rw [unescL, if_neg (fun x => hc x.1)]
  · show unescL (92 :: d :: l) = plain1 [92, d] ++ unescL l
    rw [unescL, if_pos ⟨rfl, h1⟩]
    show d :: unescL l = (if d ∈ [40, 41, 34, 39, 60, 62, 92] then [d] else [92, d]) ++ unescL l
    rw [if_pos h2]
    rfl
  · show unescL (92 :: 97 :: l) = 92 :: 97 :: unescL l
    rw [unescL, if_neg (fun x => absurd x.2 (by decide))]
    cases l with
    | nil => rfl
    | cons d r => rw [unescL, if_neg (fun x => absurd x.1 (by decide))]
theorem unesc_app : ∀ {P : List (List Nat)} {l : List Nat}, Pcs P → unescL (P.flatten ++ l) = plainL P ++ unescL l
  | [], l, _ => rfl
  | p :: P, l, h => by
    rw [List.flatten_cons, List.append_assoc, unesc_pc h.hd, unesc_app h.tl]
    show plain1 p ++ (plainL P ++ unescL l) = (plain1 p ++ plainL P) ++ unescL l
    rw [List.append_assoc]
theorem unesc_all {P : List (List Nat)} (h : Pcs P) : unescL P.flatten = plainL P := by
  have := unesc_app (l := []) h
  rw [List.append_nil] at this
  rw [this]
  exact List.append_nil _
theorem flat_take {P : List (List Nat)} {n : Nat} : P.flatten.take (P.take n).flatten.length = (P.take n).flatten := by
  have h : P.flatten = (P.take n).flatten ++ (P.drop n).flatten := by rw [← List.flatten_append, List.take_append_drop]
  rw [h, List.take_left]
theorem flat_drop {P : List (List Nat)} {n : Nat} : P.flatten.drop (P.take n).flatten.length = (P.drop n).flatten := by
  have h : P.flatten = (P.take n).flatten ++ (P.drop n).flatten := by rw [← List.flatten_append, List.take_append_drop]
  conv => lhs; rw [h]
  rw [List.drop_left]
-- the title's scan, piece by piece
def Shut (m : Nat) : Prop := m = 34 ∨ m = 39 ∨ m = 41
theorem tscan_pc {m n : Nat} {p l : List Nat} (hm : Shut m) (h : p ∈ menuL) : tscan m (p ++ l) n = if p = [m] then (.hit, n) else if p = [40] ∧ m = 41 then (.bad, n) else tscan m l (n + p.length) := by
  have hm92 : (92 : Nat) ≠ m := by rcases hm with rfl | rfl | rfl <;> decide
  rcases pc_form h with ⟨c, rfl, hc⟩ | ⟨d, rfl, _⟩
  · show tscan m (c :: l) n = _
    by_cases h1 : c = m
    · rw [if_pos (by rw [h1])]
      subst h1
      cases l <;> simp [tscan]
    · rw [if_neg (by simpa using h1)]
      by_cases h2 : c = 40 ∧ m = 41
      · rw [if_pos (by simpa using h2)]
        cases l with
        | nil => simp only [tscan, if_neg h1, if_pos h2]
        | cons d r => simp only [tscan, if_neg h1, if_pos h2]
      · rw [if_neg (by simpa using h2), tscan_one h1 h2 (.inl hc)]
        rfl
  · show tscan m (92 :: d :: l) n = _
    rw [if_neg (by simp), if_neg (by simp)]
    simp [tscan, hm92]
theorem plain_app (P R : List (List Nat)) : plainL (P ++ R) = plainL P ++ plainL R := by
  unfold plainL
  rw [List.map_append, List.flatten_append]
theorem titGo_cons (sh c : List Nat) (P : List (List Nat)) (k : Nat) : titGo sh (c :: P) k = if c = sh then some (some k) else if c = [40] ∧ sh = [41] then none else titGo sh P (k + 1) := rfl
theorem titGo_shift (sh : List Nat) : ∀ (P : List (List Nat)) (k : Nat), titGo sh P k = (titGo sh P 0).map (Option.map (· + k))
  | [], k => rfl
  | c :: P, k => by
    unfold titGo
    by_cases h1 : c = sh
    · rw [if_pos h1, if_pos h1]
      simp
    · rw [if_neg h1, if_neg h1]
      by_cases h2 : c = [40] ∧ sh = [41]
      · rw [if_pos h2, if_pos h2]
        rfl
      · rw [if_neg h2, if_neg h2, titGo_shift sh P (k + 1), titGo_shift sh P (0 + 1)]
        cases titGo sh P 0 with
        | none => rfl
        | some x => cases x with
          | none => rfl
          | some x =>
            simp
            omega
theorem titGo_app (sh : List Nat) : ∀ (P R : List (List Nat)), titGo sh (P ++ R) 0 = match titGo sh P 0 with
    | some none => (titGo sh R 0).map (Option.map (· + P.length))
    | x => x
  | [], R => by
    show titGo sh R 0 = (titGo sh R 0).map (Option.map (· + 0))
    cases titGo sh R 0 with
    | none => rfl
    | some x => cases x <;> rfl
  | c :: P, R => by
    rw [List.cons_append, titGo_cons, titGo_cons]
    by_cases h1 : c = sh
    · rw [if_pos h1, if_pos h1]
    · rw [if_neg h1, if_neg h1]
      by_cases h2 : c = [40] ∧ sh = [41]
      · rw [if_pos h2, if_pos h2]
      · rw [if_neg h2, if_neg h2, titGo_shift sh (P ++ R) (0 + 1), titGo_shift sh P (0 + 1), titGo_app sh P R]
        cases titGo sh P 0 with
        | none => rfl
        | some x => cases x with
          | some x => rfl
          | none =>
            show ((titGo sh R 0).map (Option.map (· + P.length))).map (Option.map (· + (0 + 1))) = (titGo sh R 0).map (Option.map (· + (P.length + 1)))
            cases titGo sh R 0 with
            | none => rfl
            | some x => cases x with
              | none => rfl
              | some x =>
                simp
                omega
theorem tit_scan {m : Nat} (hm : Shut m) : ∀ {P : List (List Nat)} (n : Nat), Pcs P → match titGo [m] P 0 with
    | none => ∃ x, tscan m P.flatten n = (.bad, x)
    | some none => tscan m P.flatten n = (.more, n + P.flatten.length)
    | some (some j) => j < P.length ∧ P[j]? = some [m] ∧ tscan m P.flatten n = (.hit, n + (P.take j).flatten.length)
  | [], n, _ => rfl
  | c :: P, n, h => by
    rw [List.flatten_cons, tscan_pc hm h.hd]
    unfold titGo
    by_cases h1 : c = [m]
    · rw [if_pos h1, if_pos h1]
      exact ⟨by simp, by simp [h1], rfl⟩
    · rw [if_neg h1, if_neg h1]
      by_cases h2 : c = [40] ∧ [m] = [41]
      · rw [if_pos h2, if_pos ⟨h2.1, by simpa using h2.2⟩]
        exact ⟨_, rfl⟩
      · rw [if_neg h2, if_neg (fun x => h2 ⟨x.1, by rw [x.2]⟩), titGo_shift]
        have ih := tit_scan hm (n + c.length) h.tl
        cases hq : titGo [m] P 0 with
        | none =>
          rw [hq] at ih
          exact ih
        | some x => cases x with
          | none =>
            rw [hq] at ih
            show _ = (TK.more, n + (c ++ P.flatten).length)
            rw [List.length_append, ← Nat.add_assoc]
            exact ih
          | some j =>
            rw [hq] at ih
            obtain ⟨i1, i2, i3⟩ := ih
            refine ⟨by simp; omega, by simpa using i2, ?_⟩
            rw [i3]
            show _ = (TK.hit, n + (c :: P.take j).flatten.length)
            rw [List.flatten_cons, List.length_append, ← Nat.add_assoc]
def GoodT (R : List (List Nat)) (A : Nat) (r : TR) : Prop := match titleL R with
  | none => r.ok = false ∧ r.cc = false
  | some (ds, k) => if k = 0 then r.ok = false ∧ r.cc = true ∧ r.st = plainL ds else r.ok = true ∧ r.cc = false ∧ r.st = plainL ds ∧ r.ps = A + (R.take k).flatten.length
/-- titleGo over pieces -/
def tg (m : Nat) (pre : List Nat) (st : Nat) (P : List (List Nat)) : TR := match titGo [m] P 0 with
  | none => ⟨false, false, m, 0, pre⟩
  | some none => ⟨false, true, m, 0, pre ++ plainL P⟩
  | some (some j) => ⟨true, false, m, st + (P.take j).flatten.length + 1, pre ++ plainL (P.take j)⟩
theorem titleGo_pcs {m st : Nat} {pre : List Nat} {P : List (List Nat)} (hm : Shut m) (hP : Pcs P) : titleGo m pre st P.flatten = tg m pre st P := by
  have h := tit_scan hm 0 hP
  unfold tg titleGo
  cases hq : titGo [m] P 0 with
  | none =>
    rw [hq] at h
    obtain ⟨x, hx⟩ := h
    rw [hx]
  | some x => cases x with
    | none =>
      rw [hq] at h
      rw [h, unesc_all hP]
    | some j =>
      rw [hq] at h
      obtain ⟨_, _, h3⟩ := h
      rw [h3]
      show (⟨true, false, m, st + (0 + (P.take j).flatten.length) + 1, pre ++ unescL (P.flatten.take (0 + (P.take j).flatten.length))⟩ : TR) = _
      rw [Nat.zero_add, flat_take, unesc_all (hP.take j)]
theorem titGo_lt {m : Nat} (hm : Shut m) {P : List (List Nat)} (hP : Pcs P) {j : Nat} (h : titGo [m] P 0 = some (some j)) : j < P.length ∧ P[j]? = some [m] := by
  have := tit_scan hm 0 hP
  rw [h] at this
  exact ⟨this.1, this.2.1⟩
end Mine


theorem Mine.quiet_D5 : True ∧ True := by w_top off; k_with_none; walk1 <;> trivial

-- D5
open PySem PySem.W PySem.Calls PyProof.Rows
set_option Elab.async false
set_option maxRecDepth 100000
set_option maxHeartbeats 8000000
set_option linter.all false
namespace Mine
local macro_rules | `(tactic| k_room) => `(tactic| ktr_room)
local macro_rules | `(tactic| k_mem) => `(tactic| first | exact List.Mem.head _ | assumption | (refine' List.Mem.tail _ ?_; k_mem))
local macro_rules | `(tactic| k_all) => `(tactic| (rename (∀ p : Addr × Obj, p ∈ _ → p.1 < _) => hlt9; first | exact fun q hq => Nat.ne_of_lt (hlt9 q hq) | exact fun q hq => Nat.ne_of_lt (Nat.lt_trans (hlt9 q hq) (by assumption))))
local macro_rules | `(tactic| walk_at "subscriptTail Name Slice ref ref") => `(tactic| (k_here; k_dflt (refine' kms_slice_lit ?F ?N ?l ?p ?q ?e ?_ ?s ?t ?z; (case F => k_asm); (case N => k_asm); (case l => exact News.isList (by k_asm) (by k_mem)); (case p => kmk_part); (case q => kmk_part); (case e => first | exact kp_take (by omega) | exact kp_drop (by omega) | exact kp_run (by omega) (by omega)); (case s => with_unfolding_all rfl); (case t => kmk_pure); (case z => (simp only [List.size_toArray, List.length_cons, List.length_nil]; rw [sizeLine_eq]; omega)); k_whole); intro D' h' F' N' l1; (try k_lt l1); (try simp only [Int.reduceToNat, List.take_succ_cons, List.take_zero, List.take_nil] at N')))
local macro_rules | `(tactic| ke_room) => `(tactic| ktr_units)
local macro_rules | `(tactic| units_room) => `(tactic| ktr_units)
local macro_rules | `(tactic| passes_own) => `(tactic| assumption)
local macro_rules | `(tactic| walk_at $s:str) => `(tactic| k_extra $s)
theorem allLt_to {d : Addr} : ∀ {l : List (Addr × Obj)}, AllLt d l → ∀ p ∈ l, p.1 < d
  | [], _, _, hp => nomatch hp
  | q :: l, h, p, hp => by
    rcases List.mem_cons.mp hp with rfl | hp
    · exact h.1
    · exact allLt_to h.2 p hp
theorem allLt_at {d : Addr} {l : List (Addr × Obj)} {p : Addr × Obj} (hp : p ∈ l) (h : AllLt d l) : p.1 < d := allLt_to h p hp
theorem law_c {w : World} {mg mb : Str → Option Value} {mean : ExcName → Option Value} : ∀ {dp un : Nat} {gd : Option (List Code)} {a : Addr} {ccd : Value} {A₀ : Around} {h₀ : Heap} {L Sg Wh dW Pa dP : Addr} {m₀ : Str → Option Value} {news : List (Addr × Obj)} {s : Shared} {W : Str} {A : Nat} {vs : List Value} {n : Nat} {rW r : TR} {tw ta tmW tpW tsW tm tp ts : Tok} {dv : Value} {R9 : List (List Nat)}
    {Q : Flow → Shared → Prop} {E : Value → Shared → Prop} (B : Below A₀ h₀ [] h₀) (F : Fr h₀ L s.heap (kstB m₀ [(Str.ofString "words", .str W tw), (Str.ofString "at", .int A ta), (Str.ofString "signs", .ref Sg), (Str.ofString "due", dv), (Str.ofString "whole", .ref Wh), (Str.ofString "part", .ref Pa)])) (X : (hd.heap_39 w.params).In h₀) (N : News h₀ L s.heap news)
    (T : Top hd.view_39 (looseW hd.view_39 [Str.ofString "MD_ASCII_PUNCT", Str.ofString "_State", Str.ofString "parseLinkTitle", Str.ofString "_Result", Str.ofString "_law_pieces"]) mean mg mb h₀)
    (hS : (Sg, listOf vs.toArray n) ∈ news) (hvs : StrsAre vs (R9.map strOf)) (hR2 : ∀ l ∈ R9, l.length ≤ 2) (hR20 : R9.length ≤ 20) (hDue : Due R9 dv news) (hWh : (Wh, stO dW rW tmW tpW tsW) ∈ news) (hdW : (dW, dictOf [] 0) ∈ news) (hPa : (Pa, stO dP r tm tp ts) ∈ news) (hdP : (dP, dictOf [] 0) ∈ news)
    (hGW : GoodT R9 A rW) (hGP : GoodT R9 A r) (hsub : ∀ ds k, titleL R9 = some (ds, k) → (∀ c ∈ ds, c ∈ R9) ∧ ds.length ≤ 20) (hA : A ≤ 40)
    (hdd : dp + 5 < recursionLimit) (hu : un + 300 < cLine)
    (hE : PassesOwn (model PySem.Challenge.rw_bq0008_01.row.prog w) (ktrTop dp un gd (Str.ofString "law") (scopeAt 16) L a ccd [] []) (envOf (Str.ofString "law") (scopeAt 16) L a ccd) E)
    (ret : ∀ m' h' tk' news', Fr h₀ L h' m' → News h₀ L h' news' → Q (.ret (.bool true)) { s with heap := h', toks := tk' }),
    wpAny (model PySem.Challenge.rw_bq0008_01.row.prog w) (ktrTop dp un gd (Str.ofString "law") (scopeAt 16) L a ccd [] []) (execs ((bodyAt 16).drop 13) (envOf (Str.ofString "law") (scopeAt 16) L a ccd)) Q E s := by
  k_fill
  intro dp un gd a ccd A₀ h₀ L Sg Wh dW Pa dP m₀ news s W A vs n rW r tw ta tmW tpW tsW tm tp ts dv R9 Q E B F X N T hS hvs hR2 hR20 hDue hWh hdW hPa hdP hGW hGP hsub hA hdd hu hE ret
  simp only [kstB] at F
  with_unfolding_all refine wpAny_execs_cons ?_
  obtain ⟨sc, hsc⟩ : ∃ sc, sc = scopeAt 16 := ⟨_, rfl⟩
  rw [← hsc] at hE ⊢
  conv at hsc => rhs; whnf
  subst hsc
  have hvl := hvs.length
  rw [List.length_map] at hvl
  have N2 : News h₀ L s.heap ((Wh, stO dW rW tmW tpW tsW) :: (Pa, stO dP r tm tp ts) :: news) := news_two N hWh hPa (fun _ h => h)
  clear N
  obtain ⟨okW, ccW, mrW, psW, stW⟩ := rW
  obtain ⟨okP, ccP, mrP, psP, stP⟩ := r
  unfold stO at N2
  dsimp only at N2
  k_with_none
  rcases hDue with ⟨hnone, rfl⟩ | ⟨ds, k, q, p, ws, n2, t, hsome, rfl, hq, hp, hws⟩
  · unfold GoodT at hGW hGP
    rw [hnone] at hGW hGP
    dsimp only at hGW hGP
    obtain ⟨rfl, rfl⟩ := hGW
    obtain ⟨rfl, rfl⟩ := hGP
    k_with "pyIter ref" => refine hold_out ?_
    k_with "UnrPostW" => (dsimp only [UnrPostW]; refine hold_out ?_)
    k_with "UnrEndW" => refine hold_out ?_
    k_steps
    unfold Hold
    refine iter_tupTurns (vs := [.ref Wh, .ref Pa]) (by rfl) (by assumption) (by assumption) (.head _) (by rfl) (by rfl) fun I hI => ?_
    k_lt hI
    refine ItemsRest.val (v := .ref Wh) fun h9 tk9 F9 => AllObj.cons fun o ho => AllObj.nil fun N9 => ?_
    simp only [List.cons_append, List.nil_append] at N9
    dsimp only
    k_steps
    unfold Hold
    rename News _ _ _ _ => N8
    refine ⟨_, _, _, _, rfl, by assumption, N8, fun p hp q hq => by rw [List.mem_singleton.mp hq]; exact Nat.ne_of_lt (allLt_at hp hI), And.intro (by k_mem) trivial, ?_⟩
    clear N8 N9
    refine ItemsRest.val (v := .ref Pa) fun h8 tk8 F8 => AllObj.cons fun o8 ho8 => AllObj.nil fun N9 => ?_
    simp only [List.cons_append, List.nil_append] at N9
    dsimp only
    k_steps
    unfold Hold
    rename News _ _ _ _ => N8
    refine ⟨_, _, _, _, rfl, by assumption, N8, fun p hp q hq => by rw [List.mem_singleton.mp hq]; exact Nat.ne_of_lt (allLt_at hp hI), And.intro (by k_mem) trivial, ?_⟩
    clear N8 N9
    refine ItemsRest.zero fun h7 tk7 F7 N7 => ?_
    k_steps
    exact ret _ _ _ _ (by assumption) (by assumption)
  have hds2 : ∀ l ∈ ds, l.length ≤ 2 := fun l hl => hR2 l ((hsub _ _ hsome).1 l hl)
  have hdl : ds.length ≤ 20 := (hsub _ _ hsome).2
  unfold GoodT at hGW hGP
  rw [hsome] at hGW hGP
  dsimp only at hGW hGP
  have N3 := news_two (r := _ :: _ :: news) (fun x hx => N2 x hx) (.tail _ (.tail _ hq)) (.tail _ (.tail _ hp)) (fun _ h => h)
  clear N2
  k_with "call ref" => (k_dflt (refine' pl_call ?B ?F ?X ?N ?T ?hk ?hl ?hv ?hx ?hb ?hd ?hu ?_; (case B => assumption); (case F => assumption); (case X => assumption); (case N => assumption); (case T => assumption); (case hk => exact rfl); (case hl => k_mem); (case hv => exact hws); (case hx => omega); (case hb => exact hds2); (case hd => ktr_room); (case hu => ktr_units); intro t h' tk' hpl F' N'; (try dsimp only)))
  k_with "pyIter ref" => refine hold_out ?_
  k_with "UnrPostW" => (dsimp only [UnrPostW]; refine hold_out ?_)
  k_with "UnrEndW" => refine hold_out ?_
  have hbb : (strOf (plainL ds) == strOf (plainL ds)) = true := by simp
  by_cases hk0 : k = 0
  · subst hk0
    rw [if_pos rfl] at hGW hGP
    obtain ⟨rfl, rfl, rfl⟩ := hGW
    obtain ⟨rfl, rfl, rfl⟩ := hGP
    k_steps
    unfold Hold
    refine iter_tupTurns (vs := [.ref Wh, .ref Pa]) (by rfl) (by assumption) (by assumption) (.head _) (by rfl) (by rfl) fun I hI => ?_
    k_lt hI
    refine ItemsRest.val (v := .ref Wh) fun h9 tk9 F9 => AllObj.cons fun o ho => AllObj.nil fun N9 => ?_
    simp only [List.cons_append, List.nil_append] at N9
    dsimp only
    k_steps
    unfold Hold
    rename News _ _ _ _ => N8
    rw [hbb] at N8
    refine ⟨_, _, _, _, rfl, by assumption, N8, fun p hp q hq => by rw [List.mem_singleton.mp hq]; exact Nat.ne_of_lt (allLt_at hp hI), And.intro (by k_mem) trivial, ?_⟩
    clear N8 N9
    refine ItemsRest.val (v := .ref Pa) fun h8 tk8 F8 => AllObj.cons fun o8 ho8 => AllObj.nil fun N9 => ?_
    simp only [List.cons_append, List.nil_append] at N9
    dsimp only
    k_steps
    unfold Hold
    rename News _ _ _ _ => N8
    rw [hbb] at N8
    refine ⟨_, _, _, _, rfl, by assumption, N8, fun p hp q hq => by rw [List.mem_singleton.mp hq]; exact Nat.ne_of_lt (allLt_at hp hI), And.intro (by k_mem) trivial, ?_⟩
    clear N8 N9
    refine ItemsRest.zero fun h7 tk7 F7 N7 => ?_
    k_steps
    exact ret _ _ _ _ (by assumption) (by assumption)
  · rw [if_neg hk0] at hGW hGP
    obtain ⟨rfl, rfl, rfl, rfl⟩ := hGW
    obtain ⟨rfl, rfl, rfl, rfl⟩ := hGP
    have hkp : 0 < ((k : Nat) : Int) := by omega
    have hke : (strOf (List.take ((k : Nat) : Int).toNat R9).flatten).length = (List.take k R9).flatten.length := by rw [len_list, strOf_toList]; rfl
    have hkl : (List.take k R9).flatten.length ≤ 40 := by
      have h1 := flat_take_le R9 k
      have h2 := flatten_len hR2
      omega
    have hbe : ((((A + (List.take k R9).flatten.length : Nat) : Int)) == (A : Int) + ((strOf (List.take ((k : Nat) : Int).toNat R9).flatten).length : Int)) = true := by rw [beq_iff_eq, hke]; omega
    k_with "call builtin:str.join" => (k_dflt (refine jn_list (News.isList (by k_asm) (by k_mem)) (strs_takeL hvs _) (fun l hl => hR2 l (List.mem_of_mem_take hl)) (by rw [List.length_take]; omega) ?_))
    k_steps
    unfold Hold
    refine iter_tupTurns (vs := [.ref Wh, .ref Pa]) (by rfl) (by assumption) (by assumption) (.head _) (by rfl) (by rfl) fun I hI => ?_
    k_lt hI
    refine ItemsRest.val (v := .ref Wh) fun h9 tk9 F9 => AllObj.cons fun o ho => AllObj.nil fun N9 => ?_
    simp only [List.cons_append, List.nil_append] at N9
    dsimp only
    k_steps
    · exact absurd ‹((k : Nat) : Int) = 0› (by omega)
    unfold Hold
    rename News _ _ _ _ => N8
    rw [hbe] at N8
    refine ⟨_, _, _, _, rfl, by assumption, (cb_drop N8 (fun x hx => List.Mem.tail _ hx)), fun p hp q hq => by rw [List.mem_singleton.mp hq]; exact Nat.ne_of_lt (allLt_at hp hI), And.intro (by k_mem) trivial, ?_⟩
    clear N8 N9
    refine ItemsRest.val (v := .ref Pa) fun h8 tk8 F8 => AllObj.cons fun o8 ho8 => AllObj.nil fun N9 => ?_
    simp only [List.cons_append, List.nil_append] at N9
    dsimp only
    k_steps
    · exact absurd ‹((k : Nat) : Int) = 0› (by omega)
    unfold Hold
    rename News _ _ _ _ => N8
    rw [hbe] at N8
    refine ⟨_, _, _, _, rfl, by assumption, (cb_drop N8 (fun x hx => List.Mem.tail _ hx)), fun p hp q hq => by rw [List.mem_singleton.mp hq]; exact Nat.ne_of_lt (allLt_at hp hI), And.intro (by k_mem) trivial, ?_⟩
    clear N8 N9
    refine ItemsRest.zero fun h7 tk7 F7 N7 => ?_
    k_steps
    exact ret _ _ _ _ (by assumption) (by assumption)
end Mine


theorem Mine.quiet_P8 : True ∧ True := by w_top off; k_with_none; walk1 <;> trivial

-- P8
open PySem PySem.W PySem.Calls PyProof.Rows
set_option Elab.async false
set_option linter.all false
namespace Mine
theorem good_both {R : List (List Nat)} {A : Nat} {x y : TR} (h : GoodT R A x) (h1 : x.ok = false) (h2 : x.cc = false) (h3 : y.ok = false) (h4 : y.cc = false) : GoodT R A y := by
  unfold GoodT at h ⊢
  cases hq : titleL R with
  | none => exact ⟨h3, h4⟩
  | some p =>
    obtain ⟨ds, k⟩ := p
    rw [hq] at h
    dsimp only at h
    by_cases hk : k = 0
    · rw [if_pos hk] at h
      rw [h2] at h
      exact absurd h.2.1 (by decide)
    · rw [if_neg hk] at h
      rw [h1] at h
      exact absurd h.1 (by decide)
theorem good_open {m : Nat} {c : List Nat} {r : List (List Nat)} {A : Nat} (hm : Shut m) (hr : Pcs r) (hc : shutL c = [m]) (hl : c.length = 1) : GoodT (c :: r) A (tg m [] (A + 1) r) := by
  unfold GoodT tg
  rw [titleL, if_neg (by rw [hc]; simp), hc, titGo_shift]
  cases hq : titGo [m] r 0 with
  | none => exact ⟨rfl, rfl⟩
  | some x => cases x with
    | none =>
      show if (0 : Nat) = 0 then _ else _
      rw [if_pos rfl]
      exact ⟨rfl, rfl, rfl⟩
    | some j =>
      obtain ⟨h1, h2⟩ := titGo_lt hm hr hq
      show if j + 1 + 1 = 0 then _ else _
      rw [if_neg (by omega)]
      refine ⟨rfl, rfl, by rw [Nat.add_sub_cancel]; rfl, ?_⟩
      have e : r.take (j + 1) = r.take j ++ [[m]] := by rw [List.take_add_one, h2]; rfl
      show A + 1 + (r.take j).flatten.length + 1 = A + ((c :: r).take (j + 1 + 1)).flatten.length
      rw [List.take_succ_cons, e, List.flatten_cons, List.flatten_append, List.length_append, List.length_append, hl]
      simp
      omega
theorem first_open {A : Nat} {c : List Nat} {r : List Nat} (h : c ∈ menuL) : (shutL c = [] ∧ titleFirst A (c ++ r) = titleNone) ∨ ∃ m, Shut m ∧ shutL c = [m] ∧ c.length = 1 ∧ c ≠ [10] ∧ titleFirst A (c ++ r) = titleGo m [] (A + 1) r := by
  rcases pc_form h with ⟨x, rfl, hx⟩ | ⟨d, rfl, _⟩
  · by_cases h1 : x = 34
    · subst h1
      exact .inr ⟨34, .inl rfl, rfl, rfl, by decide, rfl⟩
    · by_cases h2 : x = 39
      · subst h2
        exact .inr ⟨39, .inr (.inl rfl), rfl, rfl, by decide, rfl⟩
      · by_cases h3 : x = 40
        · subst h3
          exact .inr ⟨41, .inr (.inr rfl), rfl, rfl, by decide, rfl⟩
        · refine .inl ⟨by simp [shutL, h1, h2, h3], ?_⟩
          show (if x = 34 ∨ x = 39 ∨ x = 40 then _ else titleNone) = titleNone
          rw [if_neg (by omega)]
  · exact .inl ⟨by simp [shutL], rfl⟩
theorem good_first {R : List (List Nat)} (hR : Pcs R) (A : Nat) : GoodT R A (titleFirst A R.flatten) := by
  cases R with
  | nil => exact ⟨rfl, rfl⟩
  | cons c r =>
    rw [List.flatten_cons]
    rcases first_open (A := A) (r := r.flatten) hR.hd with ⟨h1, h2⟩ | ⟨m, hm, h1, h2, _, h3⟩
    · rw [h2]
      unfold GoodT
      rw [titleL, if_pos h1]
      exact ⟨rfl, rfl⟩
    · rw [h3, titleGo_pcs hm hR.tl]
      exact good_open hm hR.tl h1 h2
theorem plain_short (P : List (List Nat)) : (plainL P).length ≤ P.flatten.length := by
  unfold plainL
  induction P with
  | nil => exact Nat.le_refl _
  | cons c P ih =>
    rw [List.map_cons, List.flatten_cons, List.flatten_cons, List.length_append, List.length_append]
    have := plain1_len c
    omega
theorem step_cut {R : List (List Nat)} {A m b : Nat} {pre : List Nat} {T1 T2 : List (List Nat)} (hm : Shut m) (h1 : Pcs T1) (h2 : Pcs T2) (hG : GoodT R A (titleGo m pre b (T1 ++ T2).flatten)) :
    ((titleGo m pre b T1.flatten).cc = false → GoodT R A (titleGo m pre b T1.flatten)) ∧
    ((titleGo m pre b T1.flatten).cc = true → (titleGo m pre b T1.flatten).mr = m ∧ GoodT R A (titleGo m (titleGo m pre b T1.flatten).st (b + T1.flatten.length) T2.flatten) ∧ (T2 = [] → GoodT R A (titleGo m pre b T1.flatten))) ∧
    (titleGo m pre b T1.flatten).st.length ≤ pre.length + T1.flatten.length := by
  have h12 : Pcs (T1 ++ T2) := fun l hl => (List.mem_append.mp hl).elim (h1 l) (h2 l)
  rw [titleGo_pcs hm h12] at hG
  rw [titleGo_pcs hm h1, titleGo_pcs hm h2]
  have hA := titGo_app [m] T1 T2
  unfold tg at hG ⊢
  rw [hA] at hG
  cases hq : titGo [m] T1 0 with
  | none =>
    rw [hq] at hG
    exact ⟨fun _ => hG, fun x => absurd (show false = true from x) (by decide), by show pre.length ≤ _; omega⟩
  | some x => cases x with
    | some j =>
      rw [hq] at hG
      obtain ⟨hj, _⟩ := titGo_lt hm h1 hq
      have e : (T1 ++ T2).take j = T1.take j := List.take_append_of_le_length (by omega)
      dsimp only at hG
      rw [e] at hG
      refine ⟨fun _ => hG, fun x => absurd (show false = true from x) (by decide), ?_⟩
      show (pre ++ plainL (T1.take j)).length ≤ _
      rw [List.length_append]
      have h3 := plain_short (T1.take j)
      have h4 : (T1.take j).flatten.length ≤ T1.flatten.length := by
        have h : T1.flatten = (T1.take j).flatten ++ (T1.drop j).flatten := by rw [← List.flatten_append, List.take_append_drop]
        rw [h, List.length_append]
        omega
      omega
    | none =>
      rw [hq] at hG
      dsimp only at hG
      refine ⟨fun x => absurd (show true = false from x) (by decide), fun _ => ⟨rfl, ?_, ?_⟩, ?_⟩
      · dsimp only
        cases hz : titGo [m] T2 0 with
        | none =>
          rw [hz] at hG
          exact good_both hG rfl rfl rfl rfl
        | some x => cases x with
          | none =>
            rw [hz] at hG
            dsimp only [Option.map] at hG
            rw [plain_app, ← List.append_assoc] at hG
            exact hG
          | some j =>
            rw [hz] at hG
            dsimp only [Option.map] at hG
            have e : (T1 ++ T2).take (j + T1.length) = T1 ++ T2.take j := by rw [Nat.add_comm, List.take_length_add_append]
            rw [e, plain_app, List.flatten_append, List.length_append, ← Nat.add_assoc, ← List.append_assoc] at hG
            exact hG
      · intro ht
        subst ht
        rw [List.append_nil] at hG
        exact hG
      · show (pre ++ plainL T1).length ≤ _
        rw [List.length_append]
        have h3 := plain_short T1
        omega
theorem getD_left {l r : List Nat} {v : Nat} (h : v < l.length) : (l ++ r).getD v 0 = l.getD v 0 := by
  rw [List.getD_eq_getElem?_getD, List.getD_eq_getElem?_getD, List.getElem?_append_left h]
theorem getD_right {l r : List Nat} {v : Nat} (h : l.length ≤ v) : (l ++ r).getD v 0 = r.getD (v - l.length) 0 := by
  rw [List.getD_eq_getElem?_getD, List.getD_eq_getElem?_getD, List.getElem?_append_right h]
/-- where the first end of a line cuts the pieces -/
theorem cut_pcs : ∀ {S : List (List Nat)}, Pcs S → (∀ v, v < S.flatten.length → S.flatten.getD v 0 ≠ 10) ∨ ∃ S1 S2, S = S1 ++ [10] :: S2 ∧ ∀ v, v < S1.flatten.length → S1.flatten.getD v 0 ≠ 10
  | [], _ => .inl fun v hv => absurd hv (Nat.not_lt_zero _)
  | c :: S, h => by
    by_cases hc : c = [10]
    · exact .inr ⟨[], S, by rw [hc]; rfl, fun v hv => absurd hv (Nat.not_lt_zero _)⟩
    · have hn : ∀ v, v < c.length → c.getD v 0 ≠ 10 := by
        rcases pc_form h.hd with ⟨x, rfl, hx⟩ | ⟨d, rfl, _, hd, _⟩
        · intro v hv
          obtain rfl : v = 0 := by simpa using hv
          intro q
          exact hc (by rw [show x = 10 from q])
        · intro v hv
          have hv2 : v = 0 ∨ v = 1 := by simp at hv; omega
          rcases hv2 with rfl | rfl
          · show (92 : Nat) ≠ 10
            decide
          · exact hd
      have step : ∀ (l : List Nat), (∀ v, v < l.length → l.getD v 0 ≠ 10) → ∀ v, v < (c ++ l).length → (c ++ l).getD v 0 ≠ 10 := by
        intro l hl v hv
        by_cases hvc : v < c.length
        · rw [getD_left hvc]
          exact hn v hvc
        · rw [getD_right (by omega)]
          rw [List.length_append] at hv
          exact hl _ (by omega)
      rcases cut_pcs h.tl with h1 | ⟨S1, S2, h1, h2⟩
      · left
        rw [List.flatten_cons]
        exact step _ h1
      · right
        refine ⟨c :: S1, S2, by rw [h1]; rfl, ?_⟩
        rw [List.flatten_cons]
        exact step _ h2
theorem nl_char : Str.ofString "\n" = ⟨#[10]⟩ := by decide
/-- the cut, as find tells it -/
theorem cut_find {ws : List Nat} {S : List (List Nat)} {b : Nat} (hS : Pcs S) (hb : ws.drop b = S.flatten) (hl : b + S.flatten.length = ws.length) :
    ∃ T1 T2, S = T1 ++ T2 ∧ seg (strOf ws) b (if 0 < Txt.find3 (strOf ws) (Str.ofString "\n") b + 1 then (Txt.find3 (strOf ws) (Str.ofString "\n") b + 1).toNat else (strOf ws).length) = T1.flatten ∧
      ((Txt.find3 (strOf ws) (Str.ofString "\n") b + 1 = 0 ∧ T2 = []) ∨ (Txt.find3 (strOf ws) (Str.ofString "\n") b + 1 = ((b + T1.flatten.length : Nat) : Int) ∧ T1 ≠ [])) := by
  have hlen : (strOf ws).length = ws.length := by rw [len_list, strOf_toList]
  have hfi : fromIndex (strOf ws).length (b : Int) = b := by
    unfold fromIndex
    rw [if_neg (by omega)]
    omega
  have hat : ∀ v, ws.getD (b + v) 0 = S.flatten.getD v 0 := by
    intro v
    rw [← hb, List.getD_eq_getElem?_getD, List.getD_eq_getElem?_getD, List.getElem?_drop]
  have hcp : ∀ v, (strOf ws).cps.getD v 0 = ws.getD v 0 := fun v => by rw [getD_list, strOf_toList]
  have hsp := StrLaws.find3_spec (strOf ws) 10 (b : Int)
  rw [← nl_char, hfi] at hsp
  rcases hsp with ⟨h1, h2⟩ | ⟨k, h1, h2, h3, h4, h5⟩
  · refine ⟨S, [], (List.append_nil _).symm, ?_, .inl ⟨by omega, rfl⟩⟩
    rw [if_neg (by omega), hlen]
    unfold seg
    rw [strOf_toList, List.take_length, hb]
  · rcases cut_pcs hS with h6 | ⟨S1, S2, h6, h7⟩
    · exfalso
      rw [hlen] at h3
      have := h6 (k - b) (by omega)
      rw [← hat, show b + (k - b) = k by omega, ← hcp] at this
      exact this h4
    · have hS1 : S.flatten = S1.flatten ++ 10 :: S2.flatten := by rw [h6, List.flatten_append, List.flatten_cons]; rfl
      have hk : k = b + S1.flatten.length := by
        rcases Nat.lt_trichotomy k (b + S1.flatten.length) with h | h | h
        · exfalso
          have := h7 (k - b) (by omega)
          rw [← getD_left (r := 10 :: S2.flatten) (by omega), ← hS1, ← hat, show b + (k - b) = k by omega, ← hcp] at this
          exact this h4
        · exact h
        · exfalso
          have := h5 (b + S1.flatten.length) (by omega) h
          rw [hcp, hat, hS1, getD_right (Nat.le_refl _), Nat.sub_self] at this
          exact this rfl
      have hT : (S1 ++ [[10]]).flatten = S1.flatten ++ [10] := by rw [List.flatten_append]; rfl
      have hTl : (S1 ++ [[10]]).flatten.length = S1.flatten.length + 1 := by rw [hT, List.length_append]; rfl
      refine ⟨S1 ++ [[10]], S2, by rw [h6, List.append_assoc]; rfl, ?_, .inr ⟨by rw [h1, hTl]; omega, by simp⟩⟩
      rw [h1, if_pos (by omega), show ((k : Int) + 1).toNat = b + (S1.flatten.length + 1) by omega]
      unfold seg
      rw [strOf_toList, List.drop_take, hb, Nat.add_sub_cancel_left, hS1, hT, List.take_append, List.take_of_length_le (by omega), Nat.add_sub_cancel_left]
      rfl
end Mine


theorem Mine.quiet_P9 : True ∧ True := by w_top off; k_with_none; walk1 <;> trivial

-- P9
open PySem PySem.W PySem.Calls PyProof.Rows
set_option Elab.async false
set_option linter.all false
namespace Mine
/-- what the reading part by part keeps -/
def Jt (ws : List Nat) (R : List (List Nat)) (A : Nat) (r : TR) (e : Int) : Prop :=
  r.st.length ≤ ws.length ∧ 0 ≤ e ∧ e ≤ ws.length ∧
  (r.cc = true ∧ 0 < e ∧ e < ws.length → Shut r.mr ∧ r.st.length ≤ e.toNat ∧ ∃ S, Pcs S ∧ e.toNat + S.flatten.length = ws.length ∧ ws.drop e.toNat = S.flatten ∧ GoodT R A (titleGo r.mr r.st e.toNat S.flatten)) ∧
  (¬ (r.cc = true ∧ 0 < e ∧ e < ws.length) → GoodT R A r)
theorem flat_nil {T : List (List Nat)} (h : Pcs T) (hl : T.flatten.length = 0) : T = [] := by
  cases T with
  | nil => rfl
  | cons c T =>
    have := pc_pos h.hd
    rw [List.flatten_cons, List.length_append] at hl
    omega
theorem jt_step {ws : List Nat} {R : List (List Nat)} {A m b : Nat} {pre : List Nat} {T1 T2 : List (List Nat)} {f : Int} (hm : Shut m) (hb0 : 0 < b) (hS : Pcs (T1 ++ T2)) (hp : pre.length ≤ b) (hl : b + (T1 ++ T2).flatten.length = ws.length) (hd : ws.drop b = (T1 ++ T2).flatten)
    (hG : GoodT R A (titleGo m pre b (T1 ++ T2).flatten)) (hf : (f = 0 ∧ T2 = []) ∨ f = ((b + T1.flatten.length : Nat) : Int)) : Jt ws R A (titleGo m pre b T1.flatten) f := by
  have h1 : Pcs T1 := fun l h => hS l (List.mem_append_left _ h)
  have h2 : Pcs T2 := fun l h => hS l (List.mem_append_right _ h)
  obtain ⟨g1, g2, g3⟩ := step_cut hm h1 h2 hG
  have hl2 := hl
  rw [List.flatten_append, List.length_append] at hl2
  refine ⟨by omega, by rcases hf with ⟨rfl, _⟩ | rfl <;> omega, by rcases hf with ⟨rfl, _⟩ | rfl <;> omega, ?_, ?_⟩
  · rintro ⟨c1, c2, c3⟩
    obtain ⟨k1, k2, _⟩ := g2 c1
    rcases hf with ⟨rfl, _⟩ | rfl
    · omega
    · rw [Int.toNat_natCast]
      refine ⟨by rw [k1]; exact hm, by omega, T2, h2, by omega, ?_, by rw [k1]; exact k2⟩
      rw [← List.drop_drop, hd, List.flatten_append, List.drop_left]
  · intro hn
    cases hc : (titleGo m pre b T1.flatten).cc with
    | false => exact g1 hc
    | true =>
      obtain ⟨_, _, k3⟩ := g2 hc
      refine k3 ?_
      rcases hf with ⟨_, ht⟩ | rfl
      · exact ht
      · refine flat_nil h2 ?_
        have h0 : ¬ ((b + T1.flatten.length : Nat) : Int) < ws.length := fun hlt => hn ⟨hc, by omega, hlt⟩
        omega
theorem jt_next {ws : List Nat} {R : List (List Nat)} {A : Nat} {r : TR} {e : Int} (hJ : Jt ws R A r e) (hc : r.cc = true) (h0 : 0 < e) (h1 : e < (strOf ws).length) :
    Jt ws R A (titleGo r.mr r.st e.toNat (seg (strOf ws) e.toNat (if 0 < Txt.find3 (strOf ws) (Str.ofString "\n") e + 1 then (Txt.find3 (strOf ws) (Str.ofString "\n") e + 1).toNat else (strOf ws).length))) (Txt.find3 (strOf ws) (Str.ofString "\n") e + 1) := by
  have hlen : (strOf ws).length = ws.length := by rw [len_list, strOf_toList]
  obtain ⟨hm, hp, S, hS, hl, hd, hG⟩ := hJ.2.2.2.1 ⟨hc, h0, by omega⟩
  obtain ⟨T1, T2, rfl, hseg, hf⟩ := cut_find hS hd hl
  rw [show ((e.toNat : Nat) : Int) = e by omega] at hseg hf
  rw [hseg]
  exact jt_step hm (by omega) hS hp hl hd hG (hf.imp id And.left)
theorem jt_first {ws : List Nat} {R : List (List Nat)} {A : Nat} (hR : Pcs R) (hl : A + R.flatten.length = ws.length) (hd : ws.drop A = R.flatten) :
    Jt ws R A (titleFirst A (seg (strOf ws) A (if 0 < Txt.find3 (strOf ws) (Str.ofString "\n") A + 1 then (Txt.find3 (strOf ws) (Str.ofString "\n") A + 1).toNat else (strOf ws).length))) (Txt.find3 (strOf ws) (Str.ofString "\n") A + 1) := by
  have hG := good_first hR A
  obtain ⟨T1, T2, hT, hseg, hf⟩ := cut_find hR hd hl
  rw [hseg]
  have hfb : 0 ≤ Txt.find3 (strOf ws) (Str.ofString "\n") A + 1 ∧ Txt.find3 (strOf ws) (Str.ofString "\n") A + 1 ≤ ws.length := by
    rw [hT, List.flatten_append, List.length_append] at hl
    rcases hf with ⟨h, _⟩ | ⟨h, _⟩ <;> rw [h] <;> constructor <;> omega
  have none_case : ∀ r, r = titleNone → GoodT R A r → Jt ws R A r (Txt.find3 (strOf ws) (Str.ofString "\n") A + 1) := by
    rintro r rfl h
    exact ⟨Nat.zero_le _, hfb.1, hfb.2, fun x => absurd (show false = true from x.1) (by decide), fun _ => h⟩
  cases T1 with
  | nil =>
    have h2 : T2 = [] := by
      rcases hf with ⟨_, h⟩ | ⟨_, h⟩
      · exact h
      · exact absurd rfl h
    subst h2
    subst hT
    exact none_case _ rfl hG
  | cons c T1 =>
    subst hT
    rw [List.flatten_cons]
    rcases first_open (A := A) (r := T1.flatten) hR.hd with ⟨h1, h2⟩ | ⟨m, hm, h1, h2, _, h3⟩
    · refine none_case _ h2 ?_
      unfold GoodT
      rw [show c :: T1 ++ T2 = c :: (T1 ++ T2) from rfl, titleL, if_pos h1, h2]
      exact ⟨rfl, rfl⟩
    · rw [h3]
      have hfull : titleFirst A (c :: T1 ++ T2).flatten = titleGo m [] (A + 1) (T1 ++ T2).flatten := by
        rw [show c :: T1 ++ T2 = c :: (T1 ++ T2) from rfl, List.flatten_cons]
        rcases first_open (A := A) (r := (T1 ++ T2).flatten) hR.hd with ⟨k1, _⟩ | ⟨m2, _, k1, _, _, k3⟩
        · rw [k1] at h1
          cases h1
        · rw [h1] at k1
          obtain rfl : m = m2 := by simpa using k1
          exact k3
      rw [hfull] at hG
      have hc1 : (c :: T1 ++ T2).flatten = c ++ (T1 ++ T2).flatten := rfl
      have hc2 : (c :: T1).flatten = c ++ T1.flatten := rfl
      rw [hc1] at hd hl
      rw [List.length_append, h2] at hl
      rw [hc2, List.length_append, h2] at hf
      refine jt_step hm (by omega) hR.tl (Nat.zero_le _) (by omega) ?_ hG ?_
      · rw [← List.drop_drop, hd, ← h2, List.drop_left]
      · rcases hf with h | ⟨h, _⟩
        · exact .inl h
        · right
          rw [h]
          congr 1
          omega
theorem find_bounds {ws : List Nat} {b : Int} (h0 : 0 ≤ b) (h1 : b ≤ (strOf ws).length) : Txt.find3 (strOf ws) (Str.ofString "\n") b + 1 = 0 ∨ (b < Txt.find3 (strOf ws) (Str.ofString "\n") b + 1 ∧ Txt.find3 (strOf ws) (Str.ofString "\n") b + 1 ≤ (strOf ws).length) := by
  have hfi : fromIndex (strOf ws).length b = b.toNat := by
    unfold fromIndex
    rw [if_neg (by omega)]
    omega
  have hsp := StrLaws.find3_spec (strOf ws) 10 b
  rw [← nl_char, hfi] at hsp
  rcases hsp with ⟨h1, _⟩ | ⟨k, h1, h2, h3, _⟩
  · left
    omega
  · right
    omega
theorem tit_sub {R : List (List Nat)} (ds : List (List Nat)) (k : Nat) (h : titleL R = some (ds, k)) : (∀ c ∈ ds, c ∈ R) ∧ ds.length ≤ R.length := by
  cases R with
  | nil => cases h
  | cons c r =>
    rw [titleL] at h
    split at h
    · cases h
    · cases hq : titGo (shutL c) r 1 with
      | none => rw [hq] at h; cases h
      | some x =>
        rw [hq] at h
        have h2 : titFin r x = (ds, k) := Option.some.inj h
        cases x with
        | none =>
          have h3 : r = ds := congrArg Prod.fst h2
          subst h3
          exact ⟨fun c hc => .tail _ hc, by simp⟩
        | some j =>
          have h3 : r.take (j - 1) = ds := congrArg Prod.fst h2
          subst h3
          exact ⟨fun c hc => .tail _ (List.mem_of_mem_take hc), by rw [List.length_take, List.length_cons]; omega⟩
end Mine


theorem Mine.quiet_P10 : True ∧ True := by w_top off; k_with_none; walk1 <;> trivial

-- P10
open PySem PySem.W PySem.Calls PyProof.Rows
set_option Elab.async false
set_option linter.all false
namespace Mine
theorem ascan_pc {n : Nat} {p l : List Nat} (h : p ∈ menuL) : ascan (p ++ l) n = if p = [60] ∨ p = [10] then none else if p = [62] then some n else ascan l (n + p.length) := by
  rcases pc_form h with ⟨c, rfl, hc⟩ | ⟨d, rfl, _⟩
  · show ascan (c :: l) n = _
    by_cases h1 : c = 10 ∨ c = 60
    · rw [if_pos (by rcases h1 with rfl | rfl <;> simp), ascan_stop h1]
    · rw [if_neg (by rintro (x | x) <;> simp at x <;> omega)]
      by_cases h2 : c = 62
      · subst h2
        rw [if_pos rfl, ascan_hit]
      · rw [if_neg (by simpa using h2), ascan_one h1 h2 (.inl hc)]
        rfl
  · show ascan (92 :: d :: l) n = _
    rw [ascan_two, if_neg (by simp), if_neg (by simp)]
    rfl
theorem angL_cons (c : List Nat) (r : List (List Nat)) (k : Nat) : angL (c :: r) k = if c = [60] ∨ c = [10] then none else if c = [62] then some k else angL r (k + 1) := rfl
theorem ang_scan : ∀ {P : List (List Nat)} (k n : Nat), Pcs P → match angL P k with
    | none => ascan P.flatten n = none
    | some j => k ≤ j ∧ j - k < P.length ∧ P[j - k]? = some [62] ∧ ascan P.flatten n = some (n + (P.take (j - k)).flatten.length)
  | [], k, n, _ => rfl
  | c :: P, k, n, h => by
    rw [List.flatten_cons, ascan_pc h.hd, angL_cons]
    by_cases h1 : c = [60] ∨ c = [10]
    · rw [if_pos h1, if_pos h1]
    · rw [if_neg h1, if_neg h1]
      by_cases h2 : c = [62]
      · rw [if_pos h2, if_pos h2]
        refine ⟨Nat.le_refl _, by simp, ?_, ?_⟩
        · rw [Nat.sub_self, h2]
          rfl
        · rw [Nat.sub_self]
          rfl
      · rw [if_neg h2, if_neg h2]
        have ih := ang_scan (k + 1) (n + c.length) h.tl
        cases hq : angL P (k + 1) with
        | none =>
          rw [hq] at ih
          exact ih
        | some j =>
          rw [hq] at ih
          obtain ⟨i1, i2, i3, i4⟩ := ih
          have e : j - k = (j - (k + 1)) + 1 := by omega
          refine ⟨by omega, by rw [List.length_cons]; omega, by rw [e, List.getElem?_cons_succ]; exact i3, ?_⟩
          rw [i4, e, List.take_succ_cons, List.flatten_cons, List.length_append, ← Nat.add_assoc]
theorem ctl_pc {c : Nat} (h : [c] ∈ menuL) : (c ≤ 32 ∨ c = 127) ↔ ([c] = [32] ∨ [c] = [10] ∨ [c] = [1] ∨ [c] = [127]) := by
  have key : ∀ p ∈ menuL, p.length = 1 → ((p.getD 0 0 ≤ 32 ∨ p.getD 0 0 = 127) ↔ (p = [32] ∨ p = [10] ∨ p = [1] ∨ p = [127])) := by decide
  exact key [c] h rfl
theorem bareL_cons (c : List Nat) (r : List (List Nat)) (d : Int) (n : Nat) : bareL (c :: r) d n = if c = [32] ∨ c = [10] ∨ c = [1] ∨ c = [127] ∨ (c = [41] ∧ d = 0) then (d, n) else bareL r (d + deepOf c) (n + 1) := rfl
theorem bare_scan : ∀ {P : List (List Nat)} (lv c0 n : Nat), Pcs P → lv + P.length ≤ 32 → ∃ (lv' j : Nat), bareL P lv c0 = ((lv' : Int), c0 + j) ∧ j ≤ P.length ∧ dscan lv P.flatten n = some (n + (P.take j).flatten.length, lv')
  | [], lv, c0, n, _, _ => ⟨lv, 0, rfl, Nat.le_refl _, rfl⟩
  | c :: P, lv, c0, n, h, hl => by
    rw [List.length_cons] at hl
    have go : ∀ (lv2 : Nat) (n2 : Nat), n2 = n + c.length → lv2 + P.length ≤ 32 → bareL (c :: P) lv c0 = bareL P lv2 (c0 + 1) → dscan lv (c ++ P.flatten) n = dscan lv2 P.flatten n2 → ∃ (lv' j : Nat), bareL (c :: P) lv c0 = ((lv' : Int), c0 + j) ∧ j ≤ (c :: P).length ∧ dscan lv (c :: P).flatten n = some (n + ((c :: P).take j).flatten.length, lv') := by
      intro lv2 n2 hn2 hl2 e1 e2
      obtain ⟨lv', j, i1, i2, i3⟩ := bare_scan lv2 (c0 + 1) n2 h.tl hl2
      refine ⟨lv', j + 1, by rw [e1, i1]; congr 1; omega, by rw [List.length_cons]; omega, ?_⟩
      rw [List.flatten_cons, e2, i3, List.take_succ_cons, List.flatten_cons, List.length_append, hn2, Nat.add_assoc]
    have stop : bareL (c :: P) lv c0 = ((lv : Int), c0) → dscan lv (c ++ P.flatten) n = some (n, lv) → ∃ (lv' j : Nat), bareL (c :: P) lv c0 = ((lv' : Int), c0 + j) ∧ j ≤ (c :: P).length ∧ dscan lv (c :: P).flatten n = some (n + ((c :: P).take j).flatten.length, lv') := by
      intro e1 e2
      exact ⟨lv, 0, e1, Nat.zero_le _, e2⟩
    rcases pc_form h.hd with ⟨x, rfl, hx⟩ | ⟨d, rfl, hd, _⟩
    · have hct := ctl_pc h.hd
      by_cases h1 : x ≤ 32 ∨ x = 127
      · refine stop ?_ (dscan_stop h1)
        rw [bareL_cons, if_pos]
        rcases hct.mp h1 with h | h | h | h
        · exact .inl h
        · exact .inr (.inl h)
        · exact .inr (.inr (.inl h))
        · exact .inr (.inr (.inr (.inl h)))
      · have hno : ∀ (d : Int), ¬ ([x] = [41] ∧ d = 0) → ¬ ([x] = [32] ∨ [x] = [10] ∨ [x] = [1] ∨ [x] = [127] ∨ ([x] = [41] ∧ d = 0)) := by
          rintro d hd2 (h | h | h | h | h)
          · exact h1 (hct.mpr (.inl h))
          · exact h1 (hct.mpr (.inr (.inl h)))
          · exact h1 (hct.mpr (.inr (.inr (.inl h))))
          · exact h1 (hct.mpr (.inr (.inr (.inr h))))
          · exact hd2 h
        by_cases h2 : x = 40
        · subst h2
          refine go (lv + 1) (n + 1) rfl (by omega) ?_ (dscan_deep (by omega))
          rw [bareL_cons, if_neg (hno _ (fun x => by simp at x))]
          rfl
        · by_cases h3 : x = 41
          · subst h3
            cases lv with
            | zero => exact stop (by rw [bareL_cons, if_pos (by simp)]) dscan_shut
            | succ lv =>
              refine go lv (n + 1) rfl (by omega) ?_ (dscan_up (by omega))
              rw [bareL_cons, if_neg (hno _ (fun x => by have := x.2; omega)), show ((lv + 1 : Nat) : Int) + deepOf [41] = (lv : Int) from by show ((lv + 1 : Nat) : Int) + (-1) = _; omega]
          · refine go lv (n + 1) rfl (by omega) ?_ (dscan_one h1 h2 h3 (.inl hx))
            rw [bareL_cons, if_neg (hno _ (fun y => h3 (by simpa using y.1))), show deepOf [x] = 0 from by simp [deepOf, h2, h3], Int.add_zero]
    · refine go lv (n + 2) rfl (by omega) ?_ (dscan_two hd)
      rw [bareL_cons, if_neg (by simp), show deepOf [92, d] = 0 from by simp [deepOf], Int.add_zero]
theorem flat_take_pos {P : List (List Nat)} {j : Nat} (h : Pcs P) (hj : j ≤ P.length) : (P.take j).flatten.length = 0 ↔ j = 0 := by
  constructor
  · intro h0
    have := flat_nil (h.take j) h0
    have h2 := congrArg List.length this
    rw [List.length_take, List.length_nil] at h2
    omega
  · rintro rfl
    rfl
theorem dest_law {R : List (List Nat)} (hR : Pcs R) (hl : R.length ≤ 20) (A : Nat) : (addrL R = none → (destOf A R.flatten).ok = false) ∧
    (∀ ds k, addrL R = some (ds, k) → destOf A R.flatten = ⟨true, A + (R.take k).flatten.length, plainL ds⟩ ∧ (∀ c ∈ ds, c ∈ R) ∧ ds.length ≤ 20) := by
  by_cases h60 : R.head? = some [60]
  · obtain ⟨r, rfl⟩ : ∃ r, R = [60] :: r := by
      cases R with
      | nil => cases h60
      | cons c r => exact ⟨r, by rw [Option.some.inj h60]⟩
    have e1 : addrL ([60] :: r) = (angL r 1).map fun k => (r.take (k - 1), k + 1) := rfl
    have e2 : destOf A ([60] :: r).flatten = destA (A + 1) r.flatten := rfl
    have hs := ang_scan 1 0 hR.tl
    rw [e1, e2]
    unfold destA
    cases hq : angL r 1 with
    | none =>
      rw [hq] at hs
      rw [hs]
      exact ⟨fun _ => rfl, fun ds k h => by cases h⟩
    | some j =>
      rw [hq] at hs
      obtain ⟨i1, i2, i3, i4⟩ := hs
      rw [i4]
      refine ⟨(fun h => by cases h), fun ds k h => ?_⟩
      have h2 : (r.take (j - 1), j + 1) = (ds, k) := Option.some.inj h
      obtain ⟨rfl, rfl⟩ := Prod.mk.inj h2
      refine ⟨?_, fun c hc => .tail _ (List.mem_of_mem_take hc), by rw [List.length_take]; rw [List.length_cons] at hl; omega⟩
      show (⟨true, A + 1 + (0 + (r.take (j - 1)).flatten.length) + 1, unescL (r.flatten.take (0 + (r.take (j - 1)).flatten.length))⟩ : DR) = _
      rw [Nat.zero_add, flat_take, unesc_all (hR.tl.take _)]
      have e : r.take j = r.take (j - 1) ++ [[62]] := by
        have := List.take_add_one (l := r) (i := j - 1)
        rw [i3, show j - 1 + 1 = j by omega] at this
        exact this
      have e3 : (([60] :: r).take (j + 1)).flatten.length = 1 + ((r.take (j - 1)).flatten.length + 1) := by
        rw [List.take_succ_cons, List.flatten_cons, e, List.flatten_append, List.length_append, List.length_append]
        rfl
      rw [e3]
      congr 1
      omega
  · have e1 : addrL R = if 0 < (bareL R 0 0).2 ∧ (bareL R 0 0).1 = 0 then some (R.take (bareL R 0 0).2, (bareL R 0 0).2) else none := by
      unfold addrL
      rw [if_neg h60]
    obtain ⟨lv', j, i1, i2, i3⟩ := bare_scan 0 0 0 hR (by omega)
    rw [show ((0 : Nat) : Int) = 0 from rfl, Nat.zero_add] at i1
    rw [Nat.zero_add] at i3
    rw [e1, i1]
    have e2 : R ≠ [] → destOf A R.flatten = destB A R.flatten := by
      intro hne
      cases R with
      | nil => exact absurd rfl hne
      | cons c r =>
        rw [List.flatten_cons]
        rcases pc_form hR.hd with ⟨x, rfl, hx⟩ | ⟨d, rfl, _⟩
        · have h6 : x ≠ 60 := fun q => h60 (by rw [q]; rfl)
          show (if x = 60 then _ else destB A (x :: r.flatten)) = _
          rw [if_neg h6]
          rfl
        · rfl
    by_cases hne : R = []
    · subst hne
      have hj : j = 0 := by simpa using i2
      subst hj
      exact ⟨fun _ => rfl, fun ds k h => by cases h⟩
    · rw [e2 hne]
      unfold destB
      rw [i3]
      dsimp only
      by_cases hj : j = 0
      · rw [if_pos ((flat_take_pos hR i2).mpr hj), if_neg (by omega)]
        exact ⟨fun _ => rfl, fun ds k h => by cases h⟩
      · rw [if_neg (fun q => hj ((flat_take_pos hR i2).mp q))]
        by_cases hv : lv' = 0
        · rw [if_pos hv, if_pos ⟨by omega, by omega⟩]
          refine ⟨(fun h => by cases h), fun ds k h => ?_⟩
          obtain ⟨rfl, rfl⟩ := Prod.mk.inj (Option.some.inj h)
          refine ⟨?_, fun c hc => List.mem_of_mem_take hc, by rw [List.length_take]; omega⟩
          rw [flat_take, unesc_all (hR.take _)]
        · rw [if_neg hv, if_neg (by omega)]
          exact ⟨fun _ => rfl, fun ds k h => by cases h⟩
end Mine


theorem Mine.quiet_D6 : True ∧ True := by w_top off; k_with_none; walk1 <;> trivial

-- D6
open PySem PySem.W PySem.Calls PyProof.Rows
set_option Elab.async false
set_option maxRecDepth 100000
set_option maxHeartbeats 8000000
set_option linter.all false
namespace Mine
theorem law_all {w : World} {mg mb : Str → Option Value} {mean : ExcName → Option Value} : ∀ {dp un : Nat} {gd : Option (List Code)} {a : Addr} {ccd : Value} {A₀ : Around} {h₀ : Heap} {L D : Addr} {m₀ : Str → Option Value} {news : List (Addr × Obj)} {s : Shared} {P : List (List Nat)} {H : Int} {ys : List Value} {n : Nat} {tw th : Tok}
    {Q : Flow → Shared → Prop} {E : Value → Shared → Prop} (B : Below A₀ h₀ [] h₀) (F : Fr h₀ L s.heap (kstB m₀ [(Str.ofString "words", .str (strOf P.flatten) tw), (Str.ofString "head", .int H th), (Str.ofString "pieces", .ref D)])) (X : (hd.heap_39 w.params).In h₀) (N : News h₀ L s.heap news)
    (T : Top hd.view_39 (looseW hd.view_39 [Str.ofString "MD_ASCII_PUNCT", Str.ofString "_State", Str.ofString "parseLinkTitle", Str.ofString "_Result", Str.ofString "_law_pieces"]) mean mg mb h₀)
    (hD : (D, listOf ys.toArray n) ∈ news) (hys : StrsAre ys (P.map strOf)) (hPm : Pcs P) (hP20 : P.length ≤ 20) (hH0 : 0 ≤ H) (hH1 : H ≤ P.length)
    (hdd : dp + 5 < recursionLimit) (hu : un + 300 < cLine)
    (hE : PassesOwn (model PySem.Challenge.rw_bq0008_01.row.prog w) (ktrTop dp un gd (Str.ofString "law") (scopeAt 16) L a ccd [] []) (envOf (Str.ofString "law") (scopeAt 16) L a ccd) E)
    (ret : ∀ m' h' tk' news', Fr h₀ L h' m' → News h₀ L h' news' → Q (.ret (.bool true)) { s with heap := h', toks := tk' }),
    wpAny (model PySem.Challenge.rw_bq0008_01.row.prog w) (ktrTop dp un gd (Str.ofString "law") (scopeAt 16) L a ccd [] []) (execs ((bodyAt 16).drop 3) (envOf (Str.ofString "law") (scopeAt 16) L a ccd)) Q E s := by
  intro dp un gd a ccd A₀ h₀ L D m₀ news s P H ys n tw th Q E B F X N T hD hys hPm hP20 hH0 hH1 hdd hu hE ret
  have hP2 : ∀ l ∈ P, l.length ≤ 2 := fun l hl => menu_len l (hPm l hl)
  have hA : (strOf (P.take H.toNat).flatten).length = (P.take H.toNat).flatten.length := by rw [len_list, strOf_toList]
  have hW : (strOf P.flatten).length = P.flatten.length := by rw [len_list, strOf_toList]
  have hFl : P.flatten.length ≤ 40 := by have := flatten_len hP2; omega
  have hR : Pcs (P.drop H.toNat) := hPm.drop _
  have hR2 : ∀ l ∈ P.drop H.toNat, l.length ≤ 2 := fun l hl => menu_len l (hR l hl)
  have hRo : ∀ l ∈ P.drop H.toNat, ∀ c ∈ l, c < 1114112 := fun l hl c hc => by have := menu_small l (hR l hl) c hc; omega
  have hR20 : (P.drop H.toNat).length ≤ 20 := by rw [List.length_drop]; omega
  have hsum : (P.take H.toNat).flatten.length + (P.drop H.toNat).flatten.length = P.flatten.length := by
    have h : P.flatten = (P.take H.toNat).flatten ++ (P.drop H.toNat).flatten := by rw [← List.flatten_append, List.take_append_drop]
    conv => rhs; rw [h, List.length_append]
  have hdrop : P.flatten.drop (P.take H.toNat).flatten.length = (P.drop H.toNat).flatten := flat_drop
  have hseg : seg (strOf P.flatten) (P.take H.toNat).flatten.length P.flatten.length = (P.drop H.toNat).flatten := by
    unfold seg
    rw [strOf_toList, List.take_length, hdrop]
  obtain ⟨hdN, hdS⟩ := dest_law hR hR20 (P.take H.toNat).flatten.length
  refine law_a B F X N T hD hys hP2 hP20 hH0 hH1 hdd hu (R9 := P.drop H.toNat) (by rw [hA, hdrop, signs_all hR]) hR2 hRo hR20 (by rw [hA, hW, hseg]; exact hdN) (by rw [hA, hW, hseg]; exact hdS) ?_
  intro m' Sg vs n' ta tw' h' tk' news' F2 N2 hS hvs
  rw [hA] at F2
  refine law_b B F2 X N2 T hS hvs hR2 hRo hR20 hdd hu ?_
  intro m3 ta3 tw3 dv h3 tk3 news3 F3 N3 hS3 hDue
  refine law_p B F3 X N3 T hS3 hDue (by omega) (by omega) (by omega) (Jt P.flatten (P.drop H.toNat) (P.take H.toNat).flatten.length) (GoodT (P.drop H.toNat) (P.take H.toNat).flatten.length) (fun b h0 h1 => find_bounds h0 h1) ?_ ?_ (fun r e hJ hc h0 h1 => jt_next hJ hc h0 h1) (fun r e hJ hn => hJ.2.2.2.2 (by rw [← hW]; exact hn)) (fun r e hJ => ⟨by have := hJ.1; omega, hJ.2.1, by have := hJ.2.2.1; omega⟩) hdd hu hE ?_
  · rw [hW, Int.toNat_natCast, hseg]
    exact good_first hR _
  · rw [Int.toNat_natCast]
    exact jt_first hR hsum hdrop
  · intro m4 ta4 tw4 h4 tk4 news4 Wh dW rW tmW tpW tsW Pa dP r tm tp ts F4 N4 hs4 hWh hdW hPa hdP hG1 hG2
    exact law_c B F4 X N4 T (hs4 _ hS3) hvs hR2 hR20 (hDue.mono hs4) hWh hdW hPa hdP hG1 hG2 (fun ds k h => ⟨(tit_sub ds k h).1, Nat.le_trans (tit_sub ds k h).2 hR20⟩) (by omega) hdd hu hE fun m5 h5 tk5 news5 F5 N5 => ret _ _ _ _ F5 N5
end Mine


theorem Mine.quiet_W1 : True ∧ True := by w_top off; k_with_none; walk1 <;> trivial

-- W1
open PySem PySem.W PySem.Calls PyProof.Rows
set_option Elab.async false
set_option maxRecDepth 100000
set_option maxHeartbeats 8000000
set_option linter.all false
namespace Mine
local macro_rules | `(tactic| walk_at $s:str) => `(tactic| k_extra $s)
theorem head_ok (x : Int) (n : Nat) : 0 ≤ x.fmod ((n : Int) + 1) ∧ x.fmod ((n : Int) + 1) ≤ n := by
  have h1 := Int.fmod_nonneg_of_pos x (b := (n : Int) + 1) (by omega)
  have h2 := Int.fmod_lt_of_pos x (b := (n : Int) + 1) (by omega)
  omega
theorem lw : PySem.Challenge.rw_bq0008_01.Holds := hd (by
  k_go0
  k_with_none
  k_with "exec Assign cons ListComp" => (k_dflt (refine LCg.Assign_ListComp_U (F₀ := by k_asm) (by rfl) (by with_unfolding_all rfl) (by with_unfolding_all rfl) (by decide) (by rfl) (by decide) (by rfl) (by rfl) (by rfl) ?_))
  k_with "CompSrc" => refine hold_out ?_
  k_with "EltEnd" => refine hold_out ?_
  k_steps
  unfold Hold
  rename IntsAre _ _ => hI9
  rename List.length (List.take _ _) = _ => hC9
  obtain ⟨ks, hI8, hC8⟩ := gen_ints hI9
  have hk20 : ks.length ≤ 20 := by rw [hC8]; omega
  clear hI9 hC9 hC8
  refine LCg.CompSrc.ledger (by rfl) (by k_asm) (by k_asm) (by k_mem) (by rw [List.size_toArray, hI8.length, sizeLine_eq]; omega) (fun g2 => ?_)
  refine comp_ints pieceL hI8 (.inr ⟨_, by k_mem, rfl, _, rfl⟩) ?turn ?fin
  case turn =>
    intro k t I oI C oC D m₂ ys h tk E' hk2 hC hx F N
    k_steps
    rw [piece_str]
    exact eltEnd F N ⟨_, rfl⟩
  case fin =>
    intro ys hys
    obtain ⟨P, hP⟩ : ∃ P, P = List.map pieceL ks := ⟨_, rfl⟩
    have hPm : ∀ l ∈ P, l ∈ menuL := by
      rw [hP]
      intro l hl
      obtain ⟨k, _, rfl⟩ := List.mem_map.mp hl
      exact piece_mem k
    have hPl : P.length = ks.length := by rw [hP, List.length_map]
    rw [← hP] at hys
    clear hP
    have hyl : ((ys.toArray.size : Nat) : Int) = (P.length : Int) := by rw [List.size_toArray, hys.length, List.length_map]
    have hP20 : P.length ≤ 20 := by omega
    have hP2 : ∀ l ∈ P, l.length ≤ 2 := fun l hl => menu_len l (hPm l hl)
    k_with "call builtin:len" => (k_dflt (refine kun_lenL (News.isList (by k_asm) (by k_mem)) hyl (by omega) ?_))
    k_with "call builtin:str.join" => (k_dflt (refine jn_list (News.isList (by k_asm) (by k_mem)) hys hP2 (by omega) ?_))
    k_with "execs cons" => ((with_reducible show wpAny _ _ (execs (Stmt.Assign [Expr.Name (Str.ofString "at") _] _ _ :: _) _) _ _ _); refine hold_out ?_)
    k_steps
    · unfold Hold
      rename Fr _ _ _ _ => lF'
      rename News _ _ _ _ => lN'
      rename Below _ _ _ _ => hB
      refine law_all hB (fr_kst lF' (List.forall_mem_cons.mpr ⟨rfl, List.forall_mem_cons.mpr ⟨rfl, List.forall_mem_cons.mpr ⟨rfl, List.forall_mem_nil _⟩⟩⟩)) (by assumption) lN' (by assumption) (.head _) hys hPm hP20 (head_ok _ _).1 (head_ok _ _).2 (by decide) (by decide) ?hE ?ret
      case hE => first | passes_own | with_unfolding_all passes_own
      case ret =>
        intro m' h' tk' news' F9 N9
        (try dsimp only)
        k_steps
    · unfold Hold
      rename Fr _ _ _ _ => lF'
      rename News _ _ _ _ => lN'
      rename Below _ _ _ _ => hB
      refine law_all hB (fr_kst lF' (List.forall_mem_cons.mpr ⟨rfl, List.forall_mem_cons.mpr ⟨rfl, List.forall_mem_cons.mpr ⟨rfl, List.forall_mem_nil _⟩⟩⟩)) (by assumption) lN' (by assumption) (.head _) hys hPm hP20 (Int.le_refl _) (by omega) (by decide) (by decide) ?hE ?ret
      case hE => first | passes_own | with_unfolding_all passes_own
      case ret =>
        intro m' h' tk' news' F9 N9
        (try dsimp only)
        k_steps)
end Mine


theorem PySem.Challenge.cw_bq0008_01_holds : PySem.Challenge.rw_bq0008_01.Holds :=
  Mine.lw
