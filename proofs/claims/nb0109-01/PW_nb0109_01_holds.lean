import PyProof.Rows.All
import Wide.All
import OpenK.AllK
import Wide.FinOn
import PySem.Challenge.RW_nb0109_01
set_option Elab.async false
section
open PySem PySem.W PyProof.Rows
namespace Mine
set_option maxRecDepth 100000 in
set_option maxHeartbeats 8000000 in
open_top hd for PySem.Challenge.rw_nb0109_01
end Mine
end
section
open PySem PySem.W PyProof.Rows
local macro_rules | `(tactic| walk_at $s:str) => `(tactic| k_extra $s)
theorem Mine.part_base : True := by
  w_top off
  k_with_none
  trivial
section
open PySem PySem.W PyProof.Rows PySem.Spec PySem.Calls
namespace Mine

def Halt (P : Prop) : Prop := P
theorem Halt.out {P : Prop} (h : Halt P) : P := h

/-- a loop's end: the state is again one of the loop's -/
def MEnd {σ : Type} (h₀ : Heap) (L : Addr) (s : Shared) (Led : σ → List (Addr × Obj)) (ps : σ → List (Str × Value)) (stored : List Str) (m₀ : Str → Option Value) (R : σ → Prop) (s₂ : Shared) : Prop :=
  ∃ (c' : σ) (h' : Heap) (tk : Nat) (m' : Str → Option Value) (news' : List (Addr × Obj)), s₂ = { s with heap := h', toks := tk } ∧ Fr h₀ L h' m' ∧ News h₀ L h' news' ∧ (∀ p ∈ Led c', p ∈ news') ∧ (∀ p ∈ ps c', m' p.1 = some p.2) ∧ (∀ z, (∀ p ∈ ps c', z ≠ p.1) → stored.contains z = false → m' z = m₀ z) ∧ R c'
theorem m_end {σ : Type} {h₀ : Heap} {L : Addr} {s : Shared} {Led : σ → List (Addr × Obj)} {ps : σ → List (Str × Value)} {stored : List Str} {m₀ m' : Str → Option Value} {R : σ → Prop} {h' : Heap} {tk : Nat} {news' : List (Addr × Obj)} (c' : σ)
    (F : Fr h₀ L h' m') (N : News h₀ L h' news') (hn : ∀ p ∈ Led c', p ∈ news') (hk : ∀ p ∈ ps c', m' p.1 = some p.2) (hr : ∀ z, (∀ p ∈ ps c', z ≠ p.1) → stored.contains z = false → m' z = m₀ z) (hp : R c') :
    MEnd h₀ L s Led ps stored m₀ R { s with heap := h', toks := tk } := ⟨c', h', tk, m', news', rfl, F, N, hn, hk, hr, hp⟩

def MPost {σ : Type} (h₀ : Heap) (L : Addr) (s : Shared) (Led : σ → List (Addr × Obj)) (ps : σ → List (Str × Value)) (stored : List Str) (m₀ : Str → Option Value) (R : σ → Prop) (Q : Flow → Shared → Prop) (f : Flow) (s₂ : Shared) : Prop :=
  match f with
  | .ret v => Q (.ret v) s₂
  | .brk => Q .next s₂
  | _ => MEnd h₀ L s Led ps stored m₀ R s₂

theorem while_x {prog : Program} {w : World} {A : Around} {E : Value → Shared → Prop} {Q : Flow → Shared → Prop} {s : Shared} {env : Env} {h₀ : Heap} {L : Addr} {σ : Type} {test : Expr} {body : List Stmt} {pos : Pos} {m₀ : Str → Option Value}
    (Led : σ → List (Addr × Obj)) (ps : σ → List (Str × Value)) (stored : List Str) (P X : σ → Prop) (μ : σ → Nat) (c₀ : σ)
    (F : Fr h₀ L s.heap m₀) (N : News h₀ L s.heap (Led c₀)) (hk : ∀ p ∈ ps c₀, m₀ p.1 = some p.2) (hp : P c₀)
    (done : ∀ (c : σ) (u : Str → Option Value) h tk, X c → Fr h₀ L h (kstB (fun z => if stored.contains z then u z else m₀ z) (ps c)) → News h₀ L h (Led c) → Q .next { s with heap := h, toks := tk })
    (turn : ∀ (c : σ) (u : Str → Option Value) h tk, P c → Fr h₀ L h (kstB (fun z => if stored.contains z then u z else m₀ z) (ps c)) → News h₀ L h (Led c) →
      wpAny (model prog w) A (isTrue test env (eval test env)) (fun b s₂ =>
        if b = true then wpAny (model prog w) A (execs body env) (MPost h₀ L s Led ps stored m₀ (fun c' => P c' ∧ μ c' < μ c) Q) E s₂ else MEnd h₀ L s Led ps stored m₀ X s₂) E { s with heap := h, toks := tk })
    (hE : PassesOwn (model prog w) A env E := by passes_own) :
    wpAny (model prog w) A (exec (.While test body [] pos) env) Q E s := by
  refine While_inv2 (fun n m nx => ∃ c : σ, nx = Led c ∧ μ c = n ∧ (∀ p ∈ ps c, m p.1 = some p.2) ∧ (∀ z, (∀ p ∈ ps c, z ≠ p.1) → stored.contains z = false → m z = m₀ z) ∧ P c) F N ⟨c₀, rfl, rfl, hk, fun _ _ _ => rfl, hp⟩ ?_ hE
  rintro n m₁ nx h tk F₁ N₁ ⟨c, hnx, hsz, h1, h2, hp'⟩
  rw [hnx] at N₁
  rw [← hsz]
  refine wpAny_mono (turn c m₁ h tk hp' (ksw_fr h1 h2 F₁) N₁) (fun b s₂ p => ?_) fun _ _ x => x
  cases b with
  | false =>
    simp only [Bool.false_eq_true, if_false] at p ⊢
    obtain ⟨c', h', tk', m', news', rfl, F', N', hn, hk9, hr9, hx⟩ := p
    exact done c' m' h' tk' hx (ksw_fr hk9 hr9 F') fun p hp => N' p (hn p hp)
  | true =>
    simp only [if_true] at p ⊢
    refine wpAny_mono p (fun f s₃ q => ?_) fun _ _ x => x
    cases f with
    | ret v => exact q
    | brk => exact q
    | next =>
      obtain ⟨c', h', tk', m', news', rfl, F', N', hn, hk9, hr9, hp9, hm9⟩ := q
      exact ⟨h', tk', m', Led c', μ c', rfl, F', fun p hp => N' p (hn p hp), hm9, c', rfl, rfl, hk9, hr9, hp9⟩
    | cont =>
      obtain ⟨c', h', tk', m', news', rfl, F', N', hn, hk9, hr9, hp9, hm9⟩ := q
      exact ⟨h', tk', m', Led c', μ c', rfl, F', fun p hp => N' p (hn p hp), hm9, c', rfl, rfl, hk9, hr9, hp9⟩

theorem news_tl {h₀ : Heap} {L : Addr} {h : Heap} {q : Addr × Obj} {l : List (Addr × Obj)} (N : News h₀ L h (q :: l)) : News h₀ L h l := fun p hp => N p (.tail _ hp)
theorem mem0_of {h₀ : Heap} {L : Addr} {h : Heap} {q : Addr × Obj} {l : List (Addr × Obj)} (_ : News h₀ L h (q :: l)) : q ∈ q :: l := .head _
theorem mem1_of {h₀ : Heap} {L : Addr} {h : Heap} {a q : Addr × Obj} {l : List (Addr × Obj)} (_ : News h₀ L h (a :: q :: l)) : q ∈ a :: q :: l := .tail _ (.head _)
theorem mem2_of {h₀ : Heap} {L : Addr} {h : Heap} {a b q : Addr × Obj} {l : List (Addr × Obj)} (_ : News h₀ L h (a :: b :: q :: l)) : q ∈ a :: b :: q :: l := .tail _ (.tail _ (.head _))
theorem mem3_of {h₀ : Heap} {L : Addr} {h : Heap} {a b c q : Addr × Obj} {l : List (Addr × Obj)} (_ : News h₀ L h (a :: b :: c :: q :: l)) : q ∈ a :: b :: c :: q :: l := .tail _ (.tail _ (.tail _ (.head _)))
abbrev PR : Program := Challenge.rw_nb0109_01.row.prog

/-- a call that hands back a plain value and leaves the ledger as it is -/
abbrev ConV (w : World) (p : Program) (loose : List Str) (mean : ExcName → Option Value) (mg mb : Str → Option Value) (f : Addr) (news : List (Addr × Obj)) (d : Nat) (pre : Prop) (vs : List Value) (kw : List (Str × Value)) (R : Tok → Value) : Prop :=
  ∀ (dp un : Nat) (gd : Option (List Code)) (cn : Str) (cs : Scope) (a : Addr) (ccd : Value) (cl : List (Str × Addr)) (outer : List Env) (A₀ : Around) (base h₀ : Heap) (L : Addr) (m : Str → Option Value) (s : Shared) (Q E : Value → Shared → Prop),
    Below A₀ base outer h₀ → Fr h₀ L s.heap m → (Mine.hd.heap_39 w.params).In h₀ → News h₀ L s.heap news → Top p loose mean mg mb h₀ → cs.kind = .function →
    pre → dp + d < recursionLimit → un + 8 * d < cLine →
    (∀ (t : Tok) (h' : Heap) (tk' : Nat), Fr h₀ L h' m → News h₀ L h' news → Q (R t) { s with heap := h', toks := tk' }) →
      wpAny (model Challenge.rw_nb0109_01.row.prog w) (ktrTop dp un gd cn cs L a ccd cl outer) (call (.ref f) vs kw) Q E s

/-- a call that hands back a new object -/
abbrev ConN (w : World) (p : Program) (loose : List Str) (mean : ExcName → Option Value) (mg mb : Str → Option Value) (f : Addr) (news : List (Addr × Obj)) (d : Nat) (pre : Prop) (vs : List Value) (kw : List (Str × Value)) (R : Obj → Prop) : Prop :=
  ∀ (dp un : Nat) (gd : Option (List Code)) (cn : Str) (cs : Scope) (a : Addr) (ccd : Value) (cl : List (Str × Addr)) (outer : List Env) (A₀ : Around) (base h₀ : Heap) (L : Addr) (m : Str → Option Value) (s : Shared) (Q E : Value → Shared → Prop),
    Below A₀ base outer h₀ → Fr h₀ L s.heap m → (Mine.hd.heap_39 w.params).In h₀ → News h₀ L s.heap news → Top p loose mean mg mb h₀ → cs.kind = .function →
    pre → dp + d < recursionLimit → un + 8 * d < cLine →
    (∀ (D : Addr) (o : Obj) (h' : Heap) (tk' : Nat), R o → (∀ q ∈ news, q.1 < D) → Fr h₀ L h' m → News h₀ L h' ((D, o) :: news) → Q (.ref D) { s with heap := h', toks := tk' }) →
      wpAny (model Challenge.rw_nb0109_01.row.prog w) (ktrTop dp un gd cn cs L a ccd cl outer) (call (.ref f) vs kw) Q E s

theorem keeps_F {M : Model} {q : Addr} {fo : Obj} {fd : FuncData} (hd : fo.data = .func fd) (h : Heap) (X : h.get? q = some fo) : ∃ k, (k = Keeper.frame ∨ k = Keeper.machine ∨ k = Keeper.boundFrame) ∧ Looks M h (keeperOf (.ref q)) k := by
  refine ⟨.frame, .inl rfl, (Looks.ld (part := none) X).andThen ?_⟩
  obtain ⟨c, d, da, sl⟩ := fo
  dsimp only at hd
  subst hd
  exact .now

theorem callWith_F {M : Model} {A : Around} {E : Value → Shared → Prop} {s : Shared} {env : Env} {pos : Pos} {first : List Value} {Q : Value → Shared → Prop} {h₀ : Heap} {L : Addr} {news : List (Addr × Obj)} {q : Addr} {fo : Obj} {fd : FuncData} {e : Expr} {rest : List Expr}
    (_ : News h₀ L s.heap news) (_ : (q, fo) ∈ news) (hf : fo.data = .func fd) (h : wpAny M A (spliced (backTo pos (starEach (e :: rest) env))) (fun vs s₁ => s₁.heap.get? q = some fo ∧ wpAny M A (call (.ref q) (first ++ vs)) Q E s₁) E s)
    (he : starEach (e :: rest) env = (false, eval e env) :: starEach rest env := by rfl) (hplain : (backTo pos (starEach rest env)).any (·.1) = false := by rfl) :
    wpAny M A (callWith pos (.ref q) first (backTo pos (starEach (e :: rest) env)) []) Q E s := by
  rw [he] at h ⊢
  exact callWith_of (by show ((false || (backTo pos (starEach rest env)).any (·.1)) || false) = false; rw [hplain]; rfl) (keeps_F hf) (evalArgs_plain h)

/-- room for a call: small lemmas in place of long ones -/
theorem room_in {dp d R : Nat} (h : dp + d < R) : dp < R := Nat.lt_of_le_of_lt (Nat.le_add_right dp d) h
theorem room_dn {dp d R : Nat} (h : dp + (d + 1) < R) : dp + 1 + d < R := by rw [Nat.add_right_comm]; exact h
theorem room_le {dp d e R : Nat} (h : dp + d < R) (he : e ≤ d) : dp + e < R := Nat.lt_of_le_of_lt (Nat.add_le_add_left he dp) h
theorem unit_dn {un d R : Nat} (h : un + 8 * (d + 1) < R) : un + 3 + 8 * d < R := by omega

theorem mid_in {lo hh : Int} (h : lo < hh) : lo ≤ Int.fdiv (lo + hh) 2 ∧ Int.fdiv (lo + hh) 2 < hh := by
  rw [Int.fdiv_eq_ediv_of_nonneg _ (by decide)]; omega
/-- the place in the middle is one of the list's -/
def MidIn (lo hh : Int) (n : Nat) : Prop := lo < hh → 0 ≤ Int.fdiv (lo + hh) 2 ∧ Int.fdiv (lo + hh) 2 < n ∧ Int.fdiv (lo + hh) 2 < 2 ^ 63
theorem midIn_of {l0 lo hh h1 : Int} {n : Nat} (h0 : 0 ≤ l0) (hl : l0 ≤ lo) (hh1 : hh ≤ h1) (h1n : h1 ≤ n) (hn : n ≤ 100) : MidIn lo hh n := fun h => by
  have := mid_in h
  omega
theorem midIn_1 {lo hh : Int} {n : Nat} (h : MidIn lo hh n) (q : lo < hh) : 0 ≤ Int.fdiv (lo + hh) 2 := (h q).1
theorem midIn_2 {lo hh : Int} {n : Nat} (h : MidIn lo hh n) (q : lo < hh) : Int.fdiv (lo + hh) 2 < n := (h q).2.1
theorem midIn_3 {lo hh : Int} {n : Nat} (h : MidIn lo hh n) (q : lo < hh) : Int.fdiv (lo + hh) 2 < 2 ^ 63 := (h q).2.2
theorem midIn_n {lo hh : Int} {n : Nat} (h : MidIn lo hh n) (q : lo < hh) : (Int.fdiv (lo + hh) 2).toNat < n := by
  have := h q; omega
theorem mid_ge {l0 lo hh : Int} (h0 : 0 ≤ l0) (hl : l0 ≤ lo) (q : lo < hh) : l0 ≤ ((Int.fdiv (lo + hh) 2).toNat : Int) := by
  have := mid_in q; omega
theorem mid_lt {l0 lo hh h1 : Int} (h0 : 0 ≤ l0) (hl : l0 ≤ lo) (hh1 : hh ≤ h1) (q : lo < hh) : ((Int.fdiv (lo + hh) 2).toNat : Int) < h1 := by
  have := mid_in q; omega
theorem bis_up {l0 lo hh h1 : Int} {k : Nat} (hl : l0 ≤ lo) (hk : (k : Int) ≤ hh) (hh1 : hh ≤ h1) (q : lo < hh) (c : (Int.fdiv (lo + hh) 2).toNat < k) :
    (l0 ≤ Int.fdiv (lo + hh) 2 + 1 ∧ Int.fdiv (lo + hh) 2 + 1 ≤ k ∧ (k : Int) ≤ hh ∧ hh ≤ h1) ∧ (hh - (Int.fdiv (lo + hh) 2 + 1)).toNat < (hh - lo).toNat := by
  have := mid_in q
  refine ⟨⟨?_, ?_, hk, hh1⟩, ?_⟩ <;> omega
theorem bis_dn {l0 lo hh h1 : Int} {k : Nat} (h0 : 0 ≤ l0) (hl : l0 ≤ lo) (hk : lo ≤ k) (hh1 : hh ≤ h1) (q : lo < hh) (c : ¬ (Int.fdiv (lo + hh) 2).toNat < k) :
    (l0 ≤ lo ∧ lo ≤ k ∧ (k : Int) ≤ Int.fdiv (lo + hh) 2 ∧ Int.fdiv (lo + hh) 2 ≤ h1) ∧ (Int.fdiv (lo + hh) 2 - lo).toNat < (hh - lo).toNat := by
  have := mid_in q
  refine ⟨⟨hl, hk, ?_, ?_⟩, ?_⟩ <;> omega
theorem bis_no {lo hh k : Int} (h1 : lo ≤ k) (h2 : k ≤ hh) (q : ¬ lo < hh) : lo = k := Int.le_antisymm h1 (Int.le_trans h2 (Int.not_lt.mp q))
theorem len_fit {n : Nat} (h : n ≤ 100) : (n : Int) < 2 ^ 63 := by omega
end Mine
end

theorem Mine.part_strip : True := by
  w_top off
  k_with_none
  trivial
section
open PySem PySem.W PyProof.Rows PySem.Spec PySem.Calls
namespace Mine

def lead : Int → List Nat → Nat
  | _, [] => 0
  | a, c :: r => if a ≠ 0 ∧ c = 32 then lead (a - 1) r + 1 else 0
theorem lead_le : ∀ (l : List Nat) (a : Int), lead a l ≤ l.length
  | [], _ => Nat.le_refl _
  | c :: r, a => by
    unfold lead
    split
    · have := lead_le r (a - 1); simp only [List.length_cons]; omega
    · exact Nat.zero_le _
theorem lead_lt : ∀ (l : List Nat) (a : Int) (i : Nat), i < lead a l → a - (i : Int) ≠ 0 ∧ l[i]? = some 32
  | [], _, _, h => by simp [lead] at h
  | c :: r, a, i, h => by
    unfold lead at h
    split at h
    · rename_i hc
      cases i with
      | zero => exact ⟨by omega, by simp [hc.2]⟩
      | succ i =>
        have := lead_lt r (a - 1) i (by omega)
        refine ⟨by have := this.1; omega, by simpa using this.2⟩
    · omega
theorem lead_at : ∀ (l : List Nat) (a : Int), lead a l < l.length → a - (lead a l : Int) = 0 ∨ l[lead a l]? ≠ some 32
  | [], _, h => by simp at h
  | c :: r, a, h => by
    unfold lead at h ⊢
    split
    · rename_i hc
      rw [if_pos hc] at h
      have := lead_at r (a - 1) (by simpa using h)
      rcases this with h1 | h1
      · left; omega
      · right; simpa using h1
    · rename_i hc
      by_cases ha : a = 0
      · left; omega
      · right
        simp only [List.getElem?_cons_zero]
        intro e
        exact hc ⟨ha, by simpa using e⟩
theorem lead_zero (l : List Nat) : lead 0 l = 0 := by
  cases l with
  | nil => rfl
  | cons c r => simp [lead]

def okS (a : Int) (l : List Nat) : Prop := a - lead a l = 0 ∨ lead a l < l.length
def tailS (a : Int) (l : List Nat) : Nat := lead (a - lead a l) l.reverse
def stripL (a : Int) (l : List Nat) : List Nat := (l.drop (lead a l)).take (l.length - tailS a l - lead a l)

theorem tail_fit {a : Int} {l : List Nat} (h : okS a l) : lead a l + tailS a l ≤ l.length ∧ (a - lead a l ≠ 0 → lead a l + tailS a l < l.length) := by
  have h0 := lead_le l a
  by_cases ha : a - lead a l = 0
  · unfold tailS; rw [ha, lead_zero]; exact ⟨by omega, fun h => absurd rfl h⟩
  · have hl : lead a l < l.length := h.resolve_left ha
    have h1 := (lead_at l a hl).resolve_left ha
    have h2 : ¬ (l.length - 1 - lead a l < tailS a l) := fun q => by
      have := (lead_lt l.reverse (a - lead a l) (l.length - 1 - lead a l) q).2
      rw [List.getElem?_reverse (by omega)] at this
      apply h1
      rw [← this]
      congr 1
      omega
    exact ⟨by omega, fun _ => by omega⟩

theorem item_blank {x : Str} {i : Int} {j : Nat} (h0 : 0 ≤ i) (h1 : i < x.length) (hj : j = i.toNat) : ((Txt.item x i == Str.ofString " ") = true) ↔ x.cps.toList[j]? = some 32 := by
  have hs : Str.ofString " " = ⟨#[32]⟩ := by decide +kernel
  have hl : i.toNat < x.cps.size := by have : x.length = x.cps.size := rfl; omega
  rw [hs, beq_iff_eq, PyProof.Rows.item_at h0 h1 rfl, hj]
  have e : x.cps.getD i.toNat 0 = x.cps[i.toNat] := by simp [Array.getD, hl]
  rw [e]
  have e2 : x.cps.toList[i.toNat]? = some x.cps[i.toNat] := by simp [hl]
  rw [e2]
  constructor
  · intro q; have := congrArg (fun y : Str => y.cps.getD 0 0) q; simpa using this
  · intro q; rw [Option.some.inj q]

theorem less_up {L l : Int} (h : l < L) : (L - (l + 1)).toNat < (L - l).toNat := by omega
theorem st_ne {l : Int} {L : Nat} (h1 : l ≤ L) (h2 : l ≠ L) : l < L := Int.lt_iff_le_and_ne.mpr ⟨h1, h2⟩
theorem st_up {a l : Int} {L : Nat} (h0 : 0 ≤ l) (h1 : l ≤ L) (h2 : l ≠ L) : (0 ≤ l + 1 ∧ l + 1 ≤ L ∧ a - l - 1 = a - (l + 1)) ∧ ((L : Int) - (l + 1)).toNat < ((L : Int) - l).toNat :=
  ⟨⟨Int.le_add_one h0, st_ne h1 h2, (Int.sub_sub a l 1)⟩, less_up (st_ne h1 h2)⟩
theorem st_out {a l : Int} {L : Nat} (h1 : l ≤ L) (h2 : ¬ l < L) : l = L ∧ a - l = a - L := by
  have e : l = L := Int.le_antisymm h1 (Int.not_lt.mp h2)
  exact ⟨e, by rw [e]⟩
theorem rt_up {c r n : Int} {T : Nat} (h0 : r ≤ n - 1) (h1 : n - 1 - r ≤ T) (h2 : n - 1 - r ≠ T) : (r - 1 ≤ n - 1 ∧ n - 1 - (r - 1) ≤ T ∧ c - (n - 1 - r) - 1 = c - (n - 1 - (r - 1))) ∧ ((T : Int) - (n - 1 - (r - 1))).toNat < ((T : Int) - (n - 1 - r)).toNat := by
  have e : n - 1 - (r - 1) = n - 1 - r + 1 := by omega
  rw [e]
  exact ⟨⟨Int.le_trans (Int.sub_le_self r (by decide)) h0, st_ne h1 h2, Int.sub_sub c _ 1⟩, less_up (st_ne h1 h2)⟩
theorem rt_out {r n : Int} {T : Nat} (h1 : n - 1 - r ≤ T) (h2 : ¬ n - 1 - r < T) : r = n - 1 - T := by
  have e : n - 1 - r = T := Int.le_antisymm h1 (Int.not_lt.mp h2)
  rw [← e, Int.sub_sub_self]
/-- what the left loop leans on -/
theorem st_at {a l : Int} {xs : List Nat} (h0 : 0 ≤ l) (q : l < lead a xs) : a - l ≠ 0 ∧ xs[l.toNat]? = some 32 := by
  have := lead_lt xs a l.toNat (by omega)
  rw [Int.toNat_of_nonneg h0] at this
  exact this
theorem st_at2 {a l : Int} {xs : List Nat} (e : l = lead a xs) (q : l < xs.length) (e2 : a - l ≠ 0) : xs[l.toNat]? ≠ some 32 := by
  subst e
  exact (lead_at xs a (Int.ofNat_lt.mp q)).resolve_left e2
theorem st_in {a l : Int} {xs : List Nat} (h1 : l ≤ lead a xs) (hok : okS a xs) (q : a - l ≠ 0) : l < xs.length := by
  by_cases e : l = lead a xs
  · have := hok.resolve_left (by rw [← e]; exact q)
    rw [e]; exact Int.ofNat_lt.mpr this
  · exact Int.lt_of_lt_of_le (st_ne h1 e) (Int.ofNat_le.mpr (lead_le xs a))
/-- what the right loop leans on -/
theorem rt_rev {n r : Int} {xs : List Nat} (hn : (xs.length : Int) = n) (h : r ≤ n - 1) (q : 0 ≤ r) : xs.reverse[(n - 1 - r).toNat]? = xs[r.toNat]? := by
  subst hn
  rw [List.getElem?_reverse (by omega)]
  congr 1
  omega
theorem rt_pos {a r n : Int} {xs : List Nat} (hn : (xs.length : Int) = n) (h1 : n - 1 - r ≤ tailS a xs) (hok : okS a xs) (q : a - lead a xs - (n - 1 - r) ≠ 0) (h0 : r ≤ n - 1) : 0 ≤ r := by
  by_cases e : a - lead a xs = 0
  · have ht : tailS a xs = 0 := by unfold tailS; rw [e, lead_zero]
    rw [ht] at h1
    exact absurd (show a - lead a xs - (n - 1 - r) = 0 by rw [e, Int.le_antisymm h1 (Int.sub_nonneg_of_le h0)]; rfl) q
  · have := (tail_fit hok).2 e
    omega
theorem rt_at {a r n : Int} {xs : List Nat} (hn : (xs.length : Int) = n) (h0 : r ≤ n - 1) (h1 : n - 1 - r ≤ tailS a xs) (hok : okS a xs) (q : n - 1 - r < tailS a xs) : a - lead a xs - (n - 1 - r) ≠ 0 ∧ xs[r.toNat]? = some 32 := by
  have h := st_at (a := a - lead a xs) (xs := xs.reverse) (Int.sub_nonneg_of_le h0) q
  exact ⟨h.1, (rt_rev hn h0 (rt_pos hn h1 hok h.1 h0)).symm.trans h.2⟩
theorem rt_at2 {a r n : Int} {xs : List Nat} (hn : (xs.length : Int) = n) (h0 : r ≤ n - 1) (h1 : n - 1 - r ≤ tailS a xs) (hok : okS a xs) (e : n - 1 - r = tailS a xs) (e2 : a - lead a xs - (n - 1 - r) ≠ 0) : xs[r.toNat]? ≠ some 32 := by
  have hp := rt_pos hn h1 hok e2 h0
  have h := st_at2 (a := a - lead a xs) (xs := xs.reverse) e (by rw [List.length_reverse]; omega) e2
  rw [rt_rev hn h0 hp] at h
  exact h
theorem slice_strip {a : Int} {x : Str} (hn : (x.cps.toList.length : Int) = x.length) (hok : okS a x.cps.toList) : Txt.slice x (some (lead a x.cps.toList)) (some ((x.length : Int) - 1 - tailS a x.cps.toList + 1)) = ⟨(stripL a x.cps.toList).toArray⟩ := by
  obtain ⟨hfit, _⟩ := tail_fit hok
  have e : (x.length : Int) - 1 - tailS a x.cps.toList + 1 = x.length - tailS a x.cps.toList := by omega
  rw [e, beq_iff_eq.mp (slice_closes (x := x) (i := lead a x.cps.toList) (j := (x.length : Int) - tailS a x.cps.toList) ⟨by omega, by omega, by omega⟩)]
  unfold stripL
  congr 3
  omega


set_option maxRecDepth 100000 in
set_option maxHeartbeats 8000000 in
theorem strip_ok (w : World) (p : Program) (loose : List Str) (mean : ExcName → Option Value) (mg mb : Str → Option Value) (news : List (Addr × Obj)) 
   (x : Str) (t0 : Tok) (a : Int) (t1 : Tok)  : 
   ConV w p loose mean mg mb 28 news 1 (okS a x.cps.toList ∧ x.length ≤ 1000) [.str x t0, .int a t1] [] (fun t => .str ⟨(stripL a x.cps.toList).toArray⟩ t) := by
  k_with_none
  (k_with "exec While BoolOp cons nil" => (refine Halt.out ?_))
  (k_with "MPost" => (dsimp only [MPost]))
  (k_with "MEnd" => (refine m_end (_, _, _, _) (by assumption) (by assumption) (fun _ h => h) (by kst_all) (by ksw_same) ?_; dsimp only; refine Halt.out ?_))
  dsimp only [ConV]
  k_fill
  intros
  rename_i hok hdp hun hret
  refine wpAny_call ?_
  k_dflt cell_enter
  k_steps
  unfold Halt
  rename Fr _ _ _ _ => F
  rename News _ _ _ _ => N
  have hlen : Halt ((x.cps.toList.length : Int) = x.length) := by simp [Halt, Str.length]
  have hok1 : Halt (okS a x.cps.toList) := hok.1
  have hx1000 : x.length ≤ 1000 := hok.2
  clear hok
  refine' while_x (σ := Int × Tok × Int × Tok) (fun _ => news) (fun c => [("lpos", .int c.1 c.2.1), ("amount", .int c.2.2.1 c.2.2.2)]) [] (fun c => 0 ≤ c.1 ∧ c.1 ≤ lead a x.cps.toList ∧ c.2.2.1 = a - c.1) 
    (fun c => c.1 = lead a x.cps.toList ∧ c.2.2.1 = a - lead a x.cps.toList) (fun c => ((lead a x.cps.toList : Int) - c.1).toNat) (0, ?tk, a, t1) F N ?hk ?hp ?done ?turn
  case hk => kst_all
  case hp => exact ⟨Int.le_refl _, Int.natCast_nonneg _, (Int.sub_zero a).symm⟩
  case turn =>
    clear F N
    rintro ⟨lp, tl, am, ta⟩ u h tk hP F N
    dsimp only [kstB] at hP F N
    obtain ⟨hp0, hp1, rfl⟩ := hP
    have hh : a - lp ≠ 0 → lp < x.length := fun q => hlen ▸ st_in hp1 hok1 q
    try k_fold
    k_steps
    · rename a - lp ≠ 0 => h1
      rename (Txt.item x lp == _) = true => h2
      unfold Halt
      have h3 := (item_blank hp0 (hh h1) rfl).mp h2
      exact st_up hp0 hp1 fun e => st_at2 e (hlen.symm ▸ hh h1) h1 h3
    · rename a - lp ≠ 0 => h1
      rename (Txt.item x lp == _) = false => h2
      unfold Halt
      exact st_out hp1 fun q => Bool.false_ne_true (h2.symm.trans ((item_blank hp0 (hh h1) rfl).mpr (st_at hp0 q).2))
    · rename a - lp = 0 => h1
      unfold Halt
      exact st_out hp1 fun q => (st_at hp0 q).1 h1
  case done =>
    clear F N
    rintro ⟨lp, tl, am, ta⟩ u h tk ⟨hx1, hx2⟩ F N
    dsimp only [kstB] at hx1 hx2 F N
    subst hx1 hx2
    try k_fold
    k_steps
    unfold Halt
    rename Fr _ _ _ _ => F
    rename News _ _ _ _ => N
    refine' while_x (σ := Int × Tok × Int × Tok) (fun _ => news) (fun c => [("rpos", .int c.1 c.2.1), ("amount", .int c.2.2.1 c.2.2.2)]) [] (fun c => c.1 ≤ x.length - 1 ∧ x.length - 1 - c.1 ≤ tailS a x.cps.toList ∧ c.2.2.1 = a - lead a x.cps.toList - (x.length - 1 - c.1)) 
      (fun c => c.1 = x.length - 1 - tailS a x.cps.toList) (fun c => ((tailS a x.cps.toList : Int) - (x.length - 1 - c.1)).toNat) ((x.length : Int) - 1, ?tkA, a - lead a x.cps.toList, ?tkB) F N ?hk ?hp ?done ?turn
    case hk => kst_all
    case hp => exact ⟨Int.le_refl _, by rw [Int.sub_self]; exact Int.natCast_nonneg _, by rw [Int.sub_self, Int.sub_zero]⟩
    case turn =>
      clear F N
      rintro ⟨rp, tl, am, ta⟩ u h tk hP F N
      dsimp only [kstB] at hP F N
      obtain ⟨hp0, hp1, rfl⟩ := hP
      have hh : a - lead a x.cps.toList - (x.length - 1 - rp) ≠ 0 → 0 ≤ rp := fun q => rt_pos hlen hp1 hok1 q hp0
      have hhx : rp < x.length := Int.lt_of_le_sub_one hp0
      try k_fold
      k_steps
      · rename a - _ - _ ≠ 0 => h1
        rename (Txt.item x rp == _) = true => h2
        unfold Halt
        have h3 := (item_blank (hh h1) hhx rfl).mp h2
        exact rt_up hp0 hp1 fun e => rt_at2 hlen hp0 hp1 hok1 e h1 h3
      · rename a - _ - _ ≠ 0 => h1
        rename (Txt.item x rp == _) = false => h2
        unfold Halt
        exact rt_out hp1 fun q => Bool.false_ne_true (h2.symm.trans ((item_blank (hh h1) hhx rfl).mpr (rt_at hlen hp0 hp1 hok1 q).2))
      · rename a - _ - _ = 0 => h1
        unfold Halt
        exact rt_out hp1 fun q => (rt_at hlen hp0 hp1 hok1 q).1 h1
    case done =>
      clear F N
      rintro ⟨rp, tl, am, ta⟩ u h tk hx1 F N
      dsimp only [kstB] at hx1 F N
      subst hx1
      try k_fold
      k_steps
      have e := slice_strip hlen hok1
      rw [e]
      exact hret _ _ _ (by assumption) (by assumption)
end Mine
end

theorem Mine.part_line : True := by
  w_top off
  k_with_none
  trivial
section
open PySem PySem.W PyProof.Rows PySem.Spec PySem.Calls
namespace Mine

def lineL (t : List Nat) (count width tail amount : Int) : List Nat :=
  let b := max (width - count) 0
  let behind := min tail b
  let ahead := b - behind
  let off := min amount ahead
  List.replicate (ahead - off).toNat 32 ++ t ++ List.replicate (behind - min (amount - off) behind).toNat 32

theorem max_if (x : Int) : (if 0 > x then 0 else x) = max x 0 := by split <;> omega
theorem min_if (a b : Int) : (if b < a then b else a) = min a b := by split <;> omega

theorem line_str {text : Str} {count width tail amount : Int} : 
  Txt.mul (Str.ofString " ") (max (width - count) 0 - min tail (max (width - count) 0) - min amount (max (width - count) 0 - min tail (max (width - count) 0))) ++ text ++
    Txt.mul (Str.ofString " ") (min tail (max (width - count) 0) - min (amount - min amount (max (width - count) 0 - min tail (max (width - count) 0))) (min tail (max (width - count) 0))) =
  ⟨(lineL text.cps.toList count width tail amount).toArray⟩ := by
  have hs : Str.ofString " " = ⟨#[32]⟩ := by decide +kernel
  rw [hs]
  have ext : ∀ {a b : Str}, a.cps.toList = b.cps.toList → a = b := by
    rintro ⟨a⟩ ⟨b⟩ h
    exact congrArg Str.mk (Array.ext' h)
  apply ext
  have ap : ∀ a b : Str, (a ++ b).cps.toList = a.cps.toList ++ b.cps.toList := by
    intro a b
    show (a.cps ++ b.cps).toList = _
    simp
  rw [ap, ap, mul_one_list, mul_one_list]
  simp [lineL]

set_option maxRecDepth 100000 in
set_option maxHeartbeats 8000000 in
theorem line_ok (w : World) (p : Program) (loose : List Str) (mean : ExcName → Option Value) (mg mb : Str → Option Value) (news : List (Addr × Obj))
   (text : Str) (t0 : Tok) (count : Int) (t1 : Tok) (width : Int) (t2 : Tok) (tail : Int) (t3 : Tok) (amount : Int) (t4 : Tok) : 
   ConV w p loose mean mg mb 79 news 1 (0 ≤ width ∧ width ≤ 13 ∧ 0 ≤ count ∧ count ≤ 9 ∧ 0 ≤ tail ∧ tail ≤ 3 ∧ 0 ≤ amount ∧ amount ≤ 100 ∧ text.length ≤ 100) [.str text t0, .int count t1, .int width t2, .int tail t3, .int amount t4] []
    (fun t => .str ⟨(lineL text.cps.toList count width tail amount).toArray⟩ t) := by
  dsimp only [ConV]
  k_fill
  intros
  rename_i hret
  refine wpAny_call ?_
  k_dflt cell_enter
  k_steps
  simp only [max_if, min_if]
  rw [line_str]
  exact hret _ _ _ (by assumption) (by assumption)
end Mine
end

theorem Mine.part_bis : True := by
  w_top off
  k_with_none
  trivial
section
open PySem PySem.W PyProof.Rows PySem.Spec PySem.Calls
namespace Mine



set_option maxRecDepth 100000 in
set_option maxHeartbeats 8000000 in
theorem bisl_plain (w : World) (p : Program) (loose : List Str) (mean : ExcName → Option Value) (mg mb : Str → Option Value) (news : List (Addr × Obj))
   (D : Addr) (vs : List Value) (nn : Nat) (ns : List Int) (x : Int) (t1 : Tok) (k : Nat) (hm : (D, listOf vs.toArray nn) ∈ news) (hi : IntsAre vs ns) (hlen : ns.length ≤ 100) (hk : k ≤ ns.length)
   (hq : ∀ i : Nat, i < ns.length → (ns.getD i 0 < x ↔ i < k)) : 
   ConV w p loose mean mg mb 46 news 1 True [.ref D, .int x t1] []
    (fun t => .int k t) := by
  k_with_none
  (k_with "exec While Compare cons nil" => (refine Halt.out ?_))
  (k_with "MPost" => (dsimp only [MPost]))
  (k_with "MEnd" => (refine m_end (_, _, _, _) (by assumption) (by assumption) (fun _ h => h) (by kst_all) (by ksw_same) ?_; dsimp only; refine Halt.out ?_))
  (k_with "call builtin:len" => (refine kst_len (by assumption) (by assumption) (IntsAre.length (by assumption)) (len_fit (by assumption)) ?_))
  (k_with "subscriptTail" => (refine item_list_ints (News.isList (by assumption) (by assumption)) (by assumption) (midIn_1 (by assumption) (by assumption)) (midIn_2 (by assumption) (by assumption)) (midIn_3 (by assumption) (by assumption)) ?_; intro _))
  dsimp only [ConV]
  k_fill
  intros
  rename_i hret
  refine wpAny_call ?_
  k_dflt (refine' code_def ?k1 ?k2 ?k3 ?k4 ?k5 ?kA ?kF ?kK ?k6 ?k7 ?k8 ?k9 ?kB ?_ ?c2 ?c3 ?c4 ?c5; (case kA => exact rfl); (case kF => exact rfl); (case kK => assumption); (case k1 => k_asm); (case k2 => k_asm); (case k3 => k_asm); (case k4 => k_asm); (case k5 => k_asm); (case k6 => k_is); (case k7 => k_is); (case k8 => exact room_in (by assumption)); (case k9 => (refine' kp_binds ?kx ?ke; (case kx => k_in); (case ke => exact fun _ => rfl))); (case c5 => decide); (case kB => exact locs rfl); (case c2 => exact rfl); (case c3 => exact rfl); (case c4 => exact rfl); k_whole; intro g' L' h' FG' F' N' B' X' T'; (try dsimp only); (try k_lift B'); (try k_fold))
  k_steps
  unfold Halt
  rename Fr _ _ _ _ => F
  rename News _ _ _ _ => N
  refine' while_x (σ := Int × Tok × Int × Tok) (fun _ => news) (fun c => [("lo", .int c.1 c.2.1), ("hi", .int c.2.2.1 c.2.2.2)]) ["mid"] (fun c => 0 ≤ c.1 ∧ c.1 ≤ k ∧ k ≤ c.2.2.1 ∧ c.2.2.1 ≤ ns.length) 
    (fun c => c.1 = k) (fun c => (c.2.2.1 - c.1).toNat) (0, ?tkA, ns.length, ?tkB) F N ?hk ?hp ?done ?turn
  case hk => kst_all
  case hp => exact ⟨Int.le_refl _, Int.natCast_nonneg _, Int.ofNat_le.mpr hk, Int.le_refl _⟩
  case turn =>
    clear F N
    rintro ⟨lo, tl, hh, ta⟩ u h tk hP F N
    dsimp only [kstB] at hP F N
    obtain ⟨hp0, hp1, hp2, hp3⟩ := hP
    have hmid : MidIn lo hh ns.length := midIn_of (Int.le_refl _) hp0 hp3 (Int.le_refl _) hlen
    try k_fold
    k_steps
    · unfold Halt
      rename ns.getD _ _ < x => hc
      have := (hq _ (midIn_n hmid (by assumption))).mp hc
      exact bis_up hp0 hp2 hp3 (by assumption) this
    · unfold Halt
      rename ¬ (ns.getD _ _ < x) => hc
      have : ¬ ((Int.fdiv (lo + hh) 2).toNat < k) := fun q => hc ((hq _ (midIn_n hmid (by assumption))).mpr q)
      exact bis_dn (Int.le_refl _) hp0 hp1 hp3 (by assumption) this
    · unfold Halt
      exact bis_no hp1 hp2 (by assumption)
  case done =>
    clear F N
    rintro ⟨lo, tl, hh, ta⟩ u h tk hx1 F N
    dsimp only [kstB] at hx1 F N
    subst hx1
    try k_fold
    k_steps
    exact hret _ _ _ (by assumption) (by assumption)
end Mine
end

theorem Mine.part_bisk : True := by
  w_top off
  k_with_none
  trivial
section
open PySem PySem.W PyProof.Rows PySem.Spec PySem.Calls
namespace Mine




set_option maxRecDepth 100000 in
set_option maxHeartbeats 8000000 in
theorem bisl_keyA (w : World) (p : Program) (loose : List Str) (mean : ExcName → Option Value) (mg mb : Str → Option Value) (news : List (Addr × Obj))
   (D : Addr) (vs : List Value) (nn : Nat) (ns : List Int) (x : Int) (t1 : Tok) (k : Nat) (hm : (D, listOf vs.toArray nn) ∈ news) (hi : IntsAre vs ns) (hlen : ns.length ≤ 100) (hk : k ≤ ns.length)
   (f : Addr) (fo : Obj) (fd : FuncData) (hf : (f, fo) ∈ news) (hfd : fo.data = .func fd) (g : Nat → Int) (d : Nat)
   (hkey : ∀ (i : Nat) (t : Tok), i < ns.length → ConV w p loose mean mg mb f news d True [.int (ns.getD i 0) t] [] (fun t => .int (g i) t))
   (hq : ∀ i : Nat, i < ns.length → (g i < x ↔ i < k)) : 
   ConV w p loose mean mg mb 46 news (d + 1) True [.ref D, .int x t1] [("key", .ref f)]
    (fun t => .int k t) := by
  k_with_none
  (k_with "exec While Compare cons nil" => (refine Halt.out ?_))
  (k_with "MPost" => (dsimp only [MPost]))
  (k_with "MEnd" => (refine m_end (_, _, _, _) (by assumption) (by assumption) (fun _ h => h) (by kst_all) (by ksw_same) ?_; dsimp only; refine Halt.out ?_))
  (k_with "call builtin:len" => (refine kst_len (by assumption) (by assumption) (IntsAre.length (by assumption)) (len_fit (by assumption)) ?_))
  (k_with "subscriptTail" => (refine item_list_ints (News.isList (by assumption) (by assumption)) (by assumption) (midIn_1 (by assumption) (by assumption)) (midIn_2 (by assumption) (by assumption)) (midIn_3 (by assumption) (by assumption)) ?_; intro _))
  (k_with "callWith ref" => (refine callWith_F (by assumption) (by assumption) (by assumption) ?_))
  (k_with "And" => (refine ⟨News.get (by assumption) (by assumption), ?_⟩; try dsimp only [List.nil_append, List.cons_append]))
  (k_with "call ref" => (refine Halt.out ?_))
  dsimp only [ConV] at hkey ⊢
  k_fill
  intros
  rename_i hret
  refine wpAny_call ?_
  k_dflt (refine' code_def ?k1 ?k2 ?k3 ?k4 ?k5 ?kA ?kF ?kK ?k6 ?k7 ?k8 ?k9 ?kB ?_ ?c2 ?c3 ?c4 ?c5; (case kA => exact rfl); (case kF => exact rfl); (case kK => assumption); (case k1 => k_asm); (case k2 => k_asm); (case k3 => k_asm); (case k4 => k_asm); (case k5 => k_asm); (case k6 => k_is); (case k7 => k_is); (case k8 => exact room_in (by assumption)); (case k9 => (refine' kp_binds ?kx ?ke; (case kx => k_in); (case ke => exact fun _ => rfl))); (case c5 => decide); (case kB => exact locs rfl); (case c2 => exact rfl); (case c3 => exact rfl); (case c4 => exact rfl); k_whole; intro g' L' h' FG' F' N' B' X' T'; (try dsimp only); (try k_lift B'); (try k_fold))
  k_steps
  unfold Halt
  rename Fr _ _ _ _ => F
  rename News _ _ _ _ => N
  refine' while_x (σ := Int × Tok × Int × Tok) (fun _ => news) (fun c => [("lo", .int c.1 c.2.1), ("hi", .int c.2.2.1 c.2.2.2)]) ["mid"] (fun c => 0 ≤ c.1 ∧ c.1 ≤ k ∧ k ≤ c.2.2.1 ∧ c.2.2.1 ≤ ns.length) 
    (fun c => c.1 = k) (fun c => (c.2.2.1 - c.1).toNat) (0, ?tkA, ns.length, ?tkB) F N ?hk ?hp ?done ?turn
  case hk => kst_all
  case hp => exact ⟨Int.le_refl _, Int.natCast_nonneg _, Int.ofNat_le.mpr hk, Int.le_refl _⟩
  case turn =>
    clear F N
    rintro ⟨lo, tl, hh, ta⟩ u h tk hP F N
    dsimp only [kstB] at hP F N
    obtain ⟨hp0, hp1, hp2, hp3⟩ := hP
    have hmid : MidIn lo hh ns.length := midIn_of (Int.le_refl _) hp0 hp3 (Int.le_refl _) hlen
    have hkey' := hkey (Int.fdiv (lo + hh) 2).toNat
    try k_fold
    k_steps
    · unfold Halt
      k_dflt (refine' hkey' _ ?h1 _ _ _ _ _ _ _ _ _ _ _ _ _ _ _ _ _ ?hB ?hF ?hX ?hN ?hT ?hK trivial ?hd ?hu ?hR)
      case h1 => exact midIn_n hmid (by assumption)
      case hB => k_asm
      case hF => k_asm
      case hX => k_asm
      case hN => k_asm
      case hT => k_asm
      case hK => exact rfl
      case hd => exact room_dn (by assumption)
      case hu => exact unit_dn (by assumption)
      case hR =>
        intro t h' tk' F N
        try dsimp only
        try k_fold
        k_steps
        · unfold Halt
          rename g _ < x => hc
          have := (hq _ (midIn_n hmid (by assumption))).mp hc
          exact bis_up hp0 hp2 hp3 (by assumption) this
        · unfold Halt
          rename ¬ (g _ < x) => hc
          have := fun q => hc ((hq _ (midIn_n hmid (by assumption))).mpr q)
          exact bis_dn (Int.le_refl _) hp0 hp1 hp3 (by assumption) this
    · unfold Halt
      exact bis_no hp1 hp2 (by assumption)
  case done =>
    clear F N
    rintro ⟨lo, tl, hh, ta⟩ u h tk hx1 F N
    dsimp only [kstB] at hx1 F N
    subst hx1
    try k_fold
    k_steps
    exact hret _ _ _ (by assumption) (by assumption)

set_option maxRecDepth 100000 in
set_option maxHeartbeats 8000000 in
theorem bisr_keyA (w : World) (p : Program) (loose : List Str) (mean : ExcName → Option Value) (mg mb : Str → Option Value) (news : List (Addr × Obj))
   (D : Addr) (vs : List Value) (nn : Nat) (ns : List Int) (x : Int) (t1 : Tok) (k : Nat) (hm : (D, listOf vs.toArray nn) ∈ news) (hi : IntsAre vs ns) (hlen : ns.length ≤ 100) (hk : k ≤ ns.length)
   (f : Addr) (fo : Obj) (fd : FuncData) (hf : (f, fo) ∈ news) (hfd : fo.data = .func fd) (g : Nat → Int) (d : Nat)
   (hkey : ∀ (i : Nat) (t : Tok), i < ns.length → ConV w p loose mean mg mb f news d True [.int (ns.getD i 0) t] [] (fun t => .int (g i) t))
   (hq : ∀ i : Nat, i < ns.length → (x < g i ↔ k ≤ i)) : 
   ConV w p loose mean mg mb 37 news (d + 1) True [.ref D, .int x t1] [("key", .ref f)]
    (fun t => .int k t) := by
  k_with_none
  (k_with "exec While Compare cons nil" => (refine Halt.out ?_))
  (k_with "MPost" => (dsimp only [MPost]))
  (k_with "MEnd" => (refine m_end (_, _, _, _) (by assumption) (by assumption) (fun _ h => h) (by kst_all) (by ksw_same) ?_; dsimp only; refine Halt.out ?_))
  (k_with "call builtin:len" => (refine kst_len (by assumption) (by assumption) (IntsAre.length (by assumption)) (len_fit (by assumption)) ?_))
  (k_with "subscriptTail" => (refine item_list_ints (News.isList (by assumption) (by assumption)) (by assumption) (midIn_1 (by assumption) (by assumption)) (midIn_2 (by assumption) (by assumption)) (midIn_3 (by assumption) (by assumption)) ?_; intro _))
  (k_with "callWith ref" => (refine callWith_F (by assumption) (by assumption) (by assumption) ?_))
  (k_with "And" => (refine ⟨News.get (by assumption) (by assumption), ?_⟩; try dsimp only [List.nil_append, List.cons_append]))
  (k_with "call ref" => (refine Halt.out ?_))
  dsimp only [ConV] at hkey ⊢
  k_fill
  intros
  rename_i hret
  refine wpAny_call ?_
  k_dflt (refine' code_def ?k1 ?k2 ?k3 ?k4 ?k5 ?kA ?kF ?kK ?k6 ?k7 ?k8 ?k9 ?kB ?_ ?c2 ?c3 ?c4 ?c5; (case kA => exact rfl); (case kF => exact rfl); (case kK => assumption); (case k1 => k_asm); (case k2 => k_asm); (case k3 => k_asm); (case k4 => k_asm); (case k5 => k_asm); (case k6 => k_is); (case k7 => k_is); (case k8 => exact room_in (by assumption)); (case k9 => (refine' kp_binds ?kx ?ke; (case kx => k_in); (case ke => exact fun _ => rfl))); (case c5 => decide); (case kB => exact locs rfl); (case c2 => exact rfl); (case c3 => exact rfl); (case c4 => exact rfl); k_whole; intro g' L' h' FG' F' N' B' X' T'; (try dsimp only); (try k_lift B'); (try k_fold))
  k_steps
  unfold Halt
  rename Fr _ _ _ _ => F
  rename News _ _ _ _ => N
  refine' while_x (σ := Int × Tok × Int × Tok) (fun _ => news) (fun c => [("lo", .int c.1 c.2.1), ("hi", .int c.2.2.1 c.2.2.2)]) ["mid"] (fun c => 0 ≤ c.1 ∧ c.1 ≤ k ∧ k ≤ c.2.2.1 ∧ c.2.2.1 ≤ ns.length) 
    (fun c => c.1 = k) (fun c => (c.2.2.1 - c.1).toNat) (0, ?tkA, ns.length, ?tkB) F N ?hk ?hp ?done ?turn
  case hk => kst_all
  case hp => exact ⟨Int.le_refl _, Int.natCast_nonneg _, Int.ofNat_le.mpr hk, Int.le_refl _⟩
  case turn =>
    clear F N
    rintro ⟨lo, tl, hh, ta⟩ u h tk hP F N
    dsimp only [kstB] at hP F N
    obtain ⟨hp0, hp1, hp2, hp3⟩ := hP
    have hmid : MidIn lo hh ns.length := midIn_of (Int.le_refl _) hp0 hp3 (Int.le_refl _) hlen
    have hkey' := hkey (Int.fdiv (lo + hh) 2).toNat
    try k_fold
    k_steps
    · unfold Halt
      k_dflt (refine' hkey' _ ?h1 _ _ _ _ _ _ _ _ _ _ _ _ _ _ _ _ _ ?hB ?hF ?hX ?hN ?hT ?hK trivial ?hd ?hu ?hR)
      case h1 => exact midIn_n hmid (by assumption)
      case hB => k_asm
      case hF => k_asm
      case hX => k_asm
      case hN => k_asm
      case hT => k_asm
      case hK => exact rfl
      case hd => exact room_dn (by assumption)
      case hu => exact unit_dn (by assumption)
      case hR =>
        intro t h' tk' F N
        try dsimp only
        try k_fold
        k_steps
        · unfold Halt
          rename x < g _ => hc
          have := Nat.not_lt.mpr ((hq _ (midIn_n hmid (by assumption))).mp hc)
          exact bis_dn (Int.le_refl _) hp0 hp1 hp3 (by assumption) this
        · unfold Halt
          rename ¬ (x < g _) => hc
          have := Nat.lt_of_not_le fun q => hc ((hq _ (midIn_n hmid (by assumption))).mpr q)
          exact bis_up hp0 hp2 hp3 (by assumption) this
    · unfold Halt
      exact bis_no hp1 hp2 (by assumption)
  case done =>
    clear F N
    rintro ⟨lo, tl, hh, ta⟩ u h tk hx1 F N
    dsimp only [kstB] at hx1 F N
    subst hx1
    try k_fold
    k_steps
    exact hret _ _ _ (by assumption) (by assumption)

set_option maxRecDepth 100000 in
set_option maxHeartbeats 8000000 in
theorem bisl_keyB (w : World) (p : Program) (loose : List Str) (mean : ExcName → Option Value) (mg mb : Str → Option Value) (news : List (Addr × Obj))
   (D : Addr) (vs : List Value) (nn : Nat) (ns : List Int) (x : Int) (t1 : Tok) (l0 : Int) (t2 : Tok) (h1 : Int) (t3 : Tok) (k : Nat) (hm : (D, listOf vs.toArray nn) ∈ news) (hi : IntsAre vs ns) (hlen : ns.length ≤ 100) (hl0 : 0 ≤ l0) (hk0 : l0 ≤ k) (hk1 : k ≤ h1) (hh1 : h1 ≤ ns.length)
   (f : Addr) (fo : Obj) (fd : FuncData) (hf : (f, fo) ∈ news) (hfd : fo.data = .func fd) (g : Nat → Int) (d : Nat)
   (hkey : ∀ (i : Nat) (t : Tok), l0 ≤ i → i < h1 → ConV w p loose mean mg mb f news d True [.int (ns.getD i 0) t] [] (fun t => .int (g i) t))
   (hq : ∀ i : Nat, l0 ≤ i → i < h1 → (g i < x ↔ i < k)) : 
   ConV w p loose mean mg mb 46 news (d + 1) True [.ref D, .int x t1, .int l0 t2, .int h1 t3] [("key", .ref f)]
    (fun t => .int k t) := by
  k_with_none
  (k_with "exec While Compare cons nil" => (refine Halt.out ?_))
  (k_with "MPost" => (dsimp only [MPost]))
  (k_with "MEnd" => (refine m_end (_, _, _, _) (by assumption) (by assumption) (fun _ h => h) (by kst_all) (by ksw_same) ?_; dsimp only; refine Halt.out ?_))
  (k_with "call builtin:len" => (refine kst_len (by assumption) (by assumption) (IntsAre.length (by assumption)) (len_fit (by assumption)) ?_))
  (k_with "subscriptTail" => (refine item_list_ints (News.isList (by assumption) (by assumption)) (by assumption) (midIn_1 (by assumption) (by assumption)) (midIn_2 (by assumption) (by assumption)) (midIn_3 (by assumption) (by assumption)) ?_; intro _))
  (k_with "callWith ref" => (refine callWith_F (by assumption) (by assumption) (by assumption) ?_))
  (k_with "And" => (refine ⟨News.get (by assumption) (by assumption), ?_⟩; try dsimp only [List.nil_append, List.cons_append]))
  (k_with "call ref" => (refine Halt.out ?_))
  dsimp only [ConV] at hkey ⊢
  k_fill
  intros
  rename_i hret
  refine wpAny_call ?_
  k_dflt (refine' code_def ?k1 ?k2 ?k3 ?k4 ?k5 ?kA ?kF ?kK ?k6 ?k7 ?k8 ?k9 ?kB ?_ ?c2 ?c3 ?c4 ?c5; (case kA => exact rfl); (case kF => exact rfl); (case kK => assumption); (case k1 => k_asm); (case k2 => k_asm); (case k3 => k_asm); (case k4 => k_asm); (case k5 => k_asm); (case k6 => k_is); (case k7 => k_is); (case k8 => exact room_in (by assumption)); (case k9 => (refine' kp_binds ?kx ?ke; (case kx => k_in); (case ke => exact fun _ => rfl))); (case c5 => decide); (case kB => exact locs rfl); (case c2 => exact rfl); (case c3 => exact rfl); (case c4 => exact rfl); k_whole; intro g' L' h' FG' F' N' B' X' T'; (try dsimp only); (try k_lift B'); (try k_fold))
  k_steps
  unfold Halt
  rename Fr _ _ _ _ => F
  rename News _ _ _ _ => N
  refine' while_x (σ := Int × Tok × Int × Tok) (fun _ => news) (fun c => [("lo", .int c.1 c.2.1), ("hi", .int c.2.2.1 c.2.2.2)]) ["mid"] (fun c => l0 ≤ c.1 ∧ c.1 ≤ k ∧ k ≤ c.2.2.1 ∧ c.2.2.1 ≤ h1) 
    (fun c => c.1 = k) (fun c => (c.2.2.1 - c.1).toNat) (l0, ?tkA, h1, ?tkB) F N ?hk ?hp ?done ?turn
  case hk => kst_all
  case hp => exact ⟨Int.le_refl _, hk0, hk1, Int.le_refl _⟩
  case turn =>
    clear F N
    rintro ⟨lo, tl, hh, ta⟩ u h tk hP F N
    dsimp only [kstB] at hP F N
    obtain ⟨hp0, hp1, hp2, hp3⟩ := hP
    have hmid : MidIn lo hh ns.length := midIn_of hl0 hp0 hp3 hh1 hlen
    have hkey' := hkey (Int.fdiv (lo + hh) 2).toNat
    try k_fold
    k_steps
    · unfold Halt
      k_dflt (refine' hkey' _ ?ha ?hb _ _ _ _ _ _ _ _ _ _ _ _ _ _ _ _ _ ?hB ?hF ?hX ?hN ?hT ?hK trivial ?hd ?hu ?hR)
      case ha => exact mid_ge hl0 hp0 (by assumption)
      case hb => exact mid_lt hl0 hp0 hp3 (by assumption)
      case hB => k_asm
      case hF => k_asm
      case hX => k_asm
      case hN => k_asm
      case hT => k_asm
      case hK => exact rfl
      case hd => exact room_dn (by assumption)
      case hu => exact unit_dn (by assumption)
      case hR =>
        intro t h' tk' F N
        try dsimp only
        try k_fold
        k_steps
        · unfold Halt
          rename g _ < x => hc
          have := (hq _ (mid_ge hl0 hp0 (by assumption)) (mid_lt hl0 hp0 hp3 (by assumption))).mp hc
          exact bis_up hp0 hp2 hp3 (by assumption) this
        · unfold Halt
          rename ¬ (g _ < x) => hc
          have := fun q => hc ((hq _ (mid_ge hl0 hp0 (by assumption)) (mid_lt hl0 hp0 hp3 (by assumption))).mpr q)
          exact bis_dn hl0 hp0 hp1 hp3 (by assumption) this
    · unfold Halt
      exact bis_no hp1 hp2 (by assumption)
  case done =>
    clear F N
    rintro ⟨lo, tl, hh, ta⟩ u h tk hx1 F N
    dsimp only [kstB] at hx1 F N
    subst hx1
    try k_fold
    k_steps
    exact hret _ _ _ (by assumption) (by assumption)

end Mine
end

theorem Mine.part_cut : True := by
  w_top off
  k_with_none
  trivial
section
open PySem PySem.W PyProof.Rows PySem.Spec PySem.Calls
namespace Mine

def cutGo : List Int → Int → Int → Int → Bool
 | [], _, _, _ => false
 | s :: r, pl, wh, la => if s = 127 then false else if s = 0 then decide (Int.fmod (pl - wh) la = 0) else if wh + s ≥ pl then decide (wh + s = pl) else cutGo r pl (wh + s) s


theorem cutGo_cons (s : Int) (r : List Int) (pl wh la : Int) : cutGo (s :: r) pl wh la = if s = 127 then false else if s = 0 then decide (Int.fmod (pl - wh) la = 0) else if wh + s ≥ pl then decide (wh + s = pl) else cutGo r pl (wh + s) s := rfl


set_option maxRecDepth 100000 in
set_option maxHeartbeats 8000000 in
theorem cut_ok (w : World) (p : Program) (loose : List Str) (mean : ExcName → Option Value) (mg mb : Str → Option Value) (news : List (Addr × Obj))
   (D : Addr) (vs : List Value) (nn : Nat) (ns : List Int) (pl : Int) (t1 : Tok) (hm : (D, listOf vs.toArray nn) ∈ news) (hi : IntsAre vs ns) (hlen : ns.length ≤ 100) (h0 : ns.head? ≠ some 0) : 
   ConV w p loose mean mg mb 58 news 1 True [.ref D, .int pl t1] []
    (fun _ => .bool (cutGo ns pl 0 0)) := by
  k_with_none
  (k_with "exec For Name Name cons nil" => ((rename Fr _ _ _ _ => lF'); (with_unfolding_all refine' For_invVF lF' ?k1 ?k2 ?_; (case k1 => exact rfl); (case k2 => exact rfl); k_whole)))
  (k_with "pyIter ref" => (refine Halt.out ?_))
  (k_with "InvEndN" => ((rename News _ _ _ _ => nE'); (refine kst_end (_, _, _, _) (by assumption) nE' (by intro q hq; simp [hq]) (by intro q hq; simp [hq]) (by rfl) trivial (by kst_all) (by kst_same) ?_); dsimp only; refine Halt.out ?_))
  dsimp only [ConV] 
  k_fill
  intros
  rename_i hret
  refine wpAny_call ?_
  k_dflt cell_enter
  k_steps
  unfold Halt
  rename Fr _ _ _ _ => F
  rename News _ _ _ _ => N
  refine' kst_listL (σ := Int × Tok × Int × Tok) (fun _ => news) (fun c => [("whole", .int c.1 c.2.1), ("last", .int c.2.2.1 c.2.2.2)]) (fun _ => True) [] 
    (fun pre c => (∀ rest, ns = pre ++ rest → cutGo ns pl 0 0 = cutGo rest pl c.1 c.2.2.1) ∧ (pre ≠ [] → c.2.2.1 ≠ 0)) (0, ?tkA, 0, ?tkB) (by rfl) (fun _ => hm) hi F (news_tl N) trivial ?hk ?hp ?turn ?done
  case hk => kst_all
  case hp => exact ⟨fun rest h => by rw [h]; rfl, fun h => absurd rfl h⟩
  case turn =>
    clear F N
    rintro ⟨wh, t1, la, t2⟩ pre post n t u h tk own hns hmem hoff _ ⟨hP1, hP2⟩ F N
    dsimp only [kstB] at hP1 hP2 F N
    have hcut := hP1 _ hns
    have hla : n = 0 → la ≠ 0 := by
      intro e
      apply hP2
      intro e2
      subst e2
      apply h0
      rw [hns, e]; rfl
    rw [cutGo_cons] at hcut
    try k_fold
    k_steps
    · rw [if_pos (by assumption)] at hcut
      rw [hcut] at hret
      exact hret 0 _ _ (by assumption) (kst_newsOf (by assumption) (by intro q hq; simp [hq]))
    · rw [if_neg (by assumption), if_pos (by assumption)] at hcut
      rw [hcut] at hret
      exact hret 0 _ _ (by assumption) (kst_newsOf (by assumption) (by intro q hq; simp [hq]))
    · rw [if_neg (by assumption), if_neg (by assumption), if_pos (by assumption)] at hcut
      rw [hcut] at hret
      exact hret 0 _ _ (by assumption) (kst_newsOf (by assumption) (by intro q hq; simp [hq]))
    · unfold Halt
      rw [if_neg (by assumption), if_neg (by assumption), if_neg (by assumption)] at hcut
      refine ⟨fun rest hr => ?_, fun _ => by assumption⟩
      have : rest = post := by
        rw [hns] at hr
        simpa using hr.symm
      rw [this]; exact hcut
  case done =>
    clear F N
    rintro ⟨wh, t1, la, t2⟩ u h tk _ ⟨hP1, hP2⟩ F N
    dsimp only [kstB] at hP1 hP2 F N
    have hcut := hP1 [] (by simp)
    try k_fold
    k_steps
    rw [hcut] at hret
    exact hret 0 _ _ (by assumption) (by assumption)
end Mine
end

theorem Mine.part_texts : True := by
  w_top off
  k_with_none
  trivial
section
open PySem PySem.W PyProof.Rows PySem.Spec PySem.Calls
namespace Mine

def textL (row : List Int) (sep : List Nat) : Nat → List Nat
  | 0 => []
  | n + 1 => (57 - n) :: (if n > 0 ∧ cutGo row n 0 0 = true then sep ++ textL row sep n else textL row sep n)
def textS (row : List Int) (sep : List Nat) (n : Nat) : Str := ⟨(textL row sep n).toArray⟩
theorem textL_len (row : List Int) (sep : List Nat) : ∀ n, (textL row sep n).length ≤ n + n * sep.length
  | 0 => Nat.zero_le _
  | n + 1 => by
    have ih := textL_len row sep n
    show ((57 - n) :: (if n > 0 ∧ cutGo row n 0 0 = true then sep ++ textL row sep n else textL row sep n)).length ≤ _
    rw [Nat.add_mul]
    split
    · simp only [List.length_cons, List.length_append]; omega
    · simp only [List.length_cons]; omega

theorem item_dig {k : Int} {n : Nat} (hk : k = 0 + (n : Int)) (hn : n < 9) : Txt.item (Str.ofString "9876543210") k = ⟨#[57 - n]⟩ := by
  have key : ∀ j : Fin 9, Txt.item (Str.ofString "9876543210") (j.val : Int) = ⟨#[57 - j.val]⟩ := by decide +kernel
  have := key ⟨n, hn⟩
  rw [hk, Int.zero_add]; exact this
theorem str_eta (x : Str) : (⟨x.cps.toList.toArray⟩ : Str) = x := by cases x; rfl
theorem textS_cut {row : List Int} {sep : Str} {n : Nat} (h : n > 0 ∧ cutGo row n 0 0 = true) : textS row sep.cps.toList (n + 1) = ⟨#[57 - n]⟩ ++ (sep ++ textS row sep.cps.toList n) := by
  show (⟨(((57 - n) :: (if n > 0 ∧ cutGo row n 0 0 = true then sep.cps.toList ++ textL row sep.cps.toList n else textL row sep.cps.toList n))).toArray⟩ : Str) = ⟨#[57 - n] ++ (sep.cps ++ (textL row sep.cps.toList n).toArray)⟩
  rw [if_pos h]
  refine congrArg Str.mk (Array.ext' ?_)
  simp
theorem textS_not {row : List Int} {sep : Str} {n : Nat} (h : ¬ (n > 0 ∧ cutGo row n 0 0 = true)) : textS row sep.cps.toList (n + 1) = ⟨#[57 - n]⟩ ++ textS row sep.cps.toList n := by
  show (⟨(((57 - n) :: (if n > 0 ∧ cutGo row n 0 0 = true then sep.cps.toList ++ textL row sep.cps.toList n else textL row sep.cps.toList n))).toArray⟩ : Str) = ⟨#[57 - n] ++ (textL row sep.cps.toList n).toArray⟩
  rw [if_neg h]
  refine congrArg Str.mk (Array.ext' ?_)
  simp
theorem strs_snoc {vs : List Value} {ys : List Str} (h : StrsAre vs ys) (y : Str) (t : Tok) : StrsAre (vs ++ [.str y t]) (ys ++ [y]) := by
  induction h with
  | nil => exact .cons _ _ .nil
  | cons z u _ ih => exact .cons _ _ ih
theorem texts_snoc {row : List Int} {sep : List Nat} {us : List Value} {pre : List Int} {k : Int} {x : Str} {t : Tok} (h : StrsAre us ((List.range (pre.length + 1)).map (textS row sep))) (hx : x = textS row sep (pre.length + 1)) :
    x = textS row sep (pre ++ [k]).length ∧ StrsAre (us ++ [.str x t]) ((List.range ((pre ++ [k]).length + 1)).map (textS row sep)) := by
  have e : (pre ++ [k]).length = pre.length + 1 := by simp
  rw [e, List.range_succ, List.map_append, ← hx]
  refine ⟨rfl, ?_⟩
  have := strs_snoc h x t
  simpa [hx] using this
theorem led_in {l : Addr} {o : Obj} {news own : List (Addr × Obj)} : ∀ q ∈ (l, o) :: news, q ∈ (l, o) :: news.append own := fun q hq => by
  rcases List.mem_cons.mp hq with rfl | hq
  · exact .head _
  · exact .tail _ (List.mem_append_left _ hq)
theorem own_in {l : Addr} {o : Obj} {news own : List (Addr × Obj)} : ∀ q ∈ own, q ∈ (l, o) :: news.append own := fun q hq => .tail _ (List.mem_append_right _ hq)


set_option maxRecDepth 100000 in
set_option maxHeartbeats 8000000 in
theorem texts_ok (w : World) (p : Program) (loose : List Str) (mean : ExcName → Option Value) (mg mb : Str → Option Value) (news : List (Addr × Obj))
   (D : Addr) (vs : List Value) (nn : Nat) (ns : List Int) (t1 : Tok) (sep : Str) (t2 : Tok) (hm : (D, listOf vs.toArray nn) ∈ news) (hi : IntsAre vs ns) (hlen : ns.length ≤ 100) (h0 : ns.head? ≠ some 0) (hsep : sep.length ≤ 2) : 
   ConN w p loose mean mg mb 65 news 2 True [.ref D, .int 9 t1, .str sep t2] []
    (fun o => ∃ vs nn, o = listOf vs.toArray nn ∧ StrsAre vs ((List.range 10).map (textS ns sep.cps.toList))) := by
  k_with_none
  (k_with "exec For Name Call cons nil" => ((rename Fr _ _ _ _ => lF'); (with_unfolding_all refine' For_invVF lF' ?k1 ?k2 ?_; (case k1 => exact rfl); (case k2 => exact rfl); k_whole)))
  (k_with "pyIter ref" => (refine Halt.out ?_))
  (k_with "call ref" => ((k_dflt (refine' (cut_ok _ _ _ _ _ _ _ _ _ _ _ _ _ ?hm ?hi ?hlen ?h0) _ _ _ _ _ _ _ _ _ _ _ _ _ _ _ _ _ ?hB ?hF ?hX ?hN ?hT ?hK ?hpre ?hd ?hu ?hR)); (case hB => k_asm); (case hF => k_asm); (case hX => k_asm); (case hN => k_asm); (case hT => k_asm); (case hK => exact rfl); (case hpre => trivial); (case hd => ktr_room); (case hu => ktr_units); (case hi => assumption); (case hm => exact List.mem_append_left _ (List.Mem.tail _ (by assumption))); (case hlen => assumption); (case h0 => assumption); (intro t9 h9 tk9 F9 N9); (try dsimp only)))
  (k_with "call builtin:list.append" => (k_dflt (refine' append_K ?k1 ?k2 (Upd.head ?k3) ?_ ?z; (case k1 => k_asm); (case k2 => k_asm); (case k3 => assumption); (case z => (rw [List.size_toArray, sizeLine_eq]; omega)); k_whole); intro h' F' N'; (try k_sweep)))
  (k_with "InvEndN" => (refine Halt.out ?_))
  dsimp only [ConN] 
  k_fill
  intros
  rename_i hret
  refine wpAny_call ?_
  k_dflt (refine' code_def (binds := [("row", .ref D), ("figures", .int 9 t1), ("separator", .str sep t2)]) ?k1 ?k2 ?k3 ?k4 ?k5 ?kA ?kF ?kK ?k6 ?k7 ?k8 ?k9 ?kB ?_ ?c2 ?c3 ?c4 ?c5; (case kA => exact rfl); (case kF => exact rfl); (case kK => assumption); (case k1 => k_asm); (case k2 => k_asm); (case k3 => k_asm); (case k4 => k_asm); (case k5 => k_asm); (case k6 => k_is); (case k7 => k_is); (case k8 => ktr_room); (case k9 => exact BindsTo.of_eq rfl); (case c5 => decide); (case kB => exact locs rfl); (case c2 => exact rfl); (case c3 => exact rfl); (case c4 => exact rfl); k_whole; intro g' L' h' FG' F' N' B' X' T'; (try dsimp only); (try k_fold))
  k_steps
  unfold Halt
  rename IsRange _ _ _ _ _ _ _ _ => hR
  rename Fr _ _ _ _ => F
  rename News _ _ _ _ => N
  rename ∀ p ∈ news, p.1 < _ => hlt
  have hs0 : Str.ofString "" = textS ns sep.cps.toList 0 := (by decide +kernel : Str.ofString "" = ⟨#[]⟩)
  refine' kst_range (n := 9) (σ := Str × Tok × List Value × Nat) (fun c => (_, listOf c.2.2.1.toArray c.2.2.2) :: news) (fun c => [("text", .str c.1 c.2.1)]) (fun _ => True) [] 
    (fun pre c => c.1 = textS ns sep.cps.toList pre.length ∧ StrsAre c.2.2.1 ((List.range (pre.length + 1)).map (textS ns sep.cps.toList))) (Str.ofString "", ?tkA, [_], 0) (by rfl) hR (by decide) (by rfl) F (news_tl N) trivial ?hk ?hp ?turn ?done
  case hk => kst_all
  case hp => exact ⟨hs0, by rw [hs0]; exact .cons _ _ .nil⟩
  case turn =>
    clear F N hR
    rintro ⟨text, tt, us, un⟩ pre k t u h tk own hk hpre hoff _ ⟨hP1, hP2⟩ F N
    dsimp only [kstB] at hP1 hP2 F N
    have hne : ∀ q ∈ news ++ own, q.1 ≠ _ := fun q hq => (List.mem_append.mp hq).elim (fun h => Nat.ne_of_lt (hlt q h)) (fun h => hoff q h _ (.head _))
    have hlen1 : text.length ≤ 30 := by
      rw [hP1]
      have := textL_len ns sep.cps.toList pre.length
      have e : sep.cps.toList.length = sep.length := by simp [Str.length]
      have e2 : (textS ns sep.cps.toList pre.length).length = (textL ns sep.cps.toList pre.length).length := by simp [textS, Str.length]
      have e3 : pre.length * sep.cps.toList.length ≤ pre.length * 2 := Nat.mul_le_mul_left _ (by omega)
      omega
    have hlen2 : us.length ≤ 100 := by
      have := hP2.len_eq
      simp only [List.length_map, List.length_range] at this
      omega
    try k_fold
    k_steps
    · unfold Halt
      rename News _ _ _ _ => nE
      simp only [List.push_toArray] at nE
      refine kst_end (_, _, _, _) (by assumption) nE led_in own_in (by rfl) trivial (by kst_all) (by kst_same) (texts_snoc hP2 ?_)
      rw [item_dig hk hpre, hP1, textS_cut]
      have hc : k = (pre.length : Int) := by omega
      subst hc
      exact ⟨by omega, by assumption⟩
    · unfold Halt
      rename News _ _ _ _ => nE
      simp only [List.push_toArray] at nE
      refine kst_end (_, _, _, _) (by assumption) nE led_in own_in (by rfl) trivial (by kst_all) (by kst_same) (texts_snoc hP2 ?_)
      rw [item_dig hk hpre, hP1, textS_not]
      have hc : k = (pre.length : Int) := by omega
      subst hc
      intro hh
      have := hh.2
      simp_all
    · unfold Halt
      rename News _ _ _ _ => nE
      simp only [List.push_toArray] at nE
      refine kst_end (_, _, _, _) (by assumption) nE led_in own_in (by rfl) trivial (by kst_all) (by kst_same) (texts_snoc hP2 ?_)
      rw [item_dig hk hpre, hP1, textS_not]
      omega
  case done =>
    clear F N hR
    rintro ⟨text, tt, us, un⟩ u h tk _ ⟨hP1, hP2⟩ F N
    dsimp only [kstB] at hP1 hP2 F N
    try k_fold
    k_steps
    refine hret _ _ _ _ ⟨us, un, rfl, ?_⟩ (by assumption) (by assumption) (by assumption)
    rw [rangeKs_length] at hP2
    exact hP2
end Mine
end

theorem Mine.part_fig : True := by
  w_top off
  k_with_none
  trivial
section
open PySem PySem.W PyProof.Rows PySem.Spec PySem.Calls
namespace Mine

def isDig (c : Nat) : Bool := decide (48 ≤ c ∧ c ≤ 57)
def figL (l : List Nat) (width : Int) : Nat := ((l.drop (max ((l.length : Int) - width) 0).toNat).filter isDig).length

theorem carried_len {ys : List Value} {ds : List PyData} (h : CarriedAll ys ds) : ys.length = ds.length := by
  induction h with
  | nil => rfl
  | cons _ _ ih => simp [ih]
theorem dig_mem (c : Nat) : decide (c ∈ (Str.ofString "0123456789").cps.toList) = isDig c := by
  have hs : (Str.ofString "0123456789").cps.toList = List.range' 48 10 := by decide +kernel
  rw [hs, isDig, decide_eq_decide, List.mem_range'_1]
  exact and_congr_right fun _ => Nat.lt_succ_iff
theorem dig_filter (l : List Nat) : ((signs ⟨l.toArray⟩).filter fun a => !(Builtin.Str.occurrences (Str.ofString "0123456789") a 0 (Str.ofString "0123456789").length 1).isEmpty).length = (l.filter isDig).length := by
  have e : signs ⟨l.toArray⟩ = l.map fun n => (⟨#[n]⟩ : Str) := by simp [signs]
  rw [e, List.filter_map, List.length_map]
  congr 1
  apply List.filter_congr
  intro c _
  show (!(Builtin.Str.occurrences (Str.ofString "0123456789") ⟨#[c]⟩ 0 (Str.ofString "0123456789").length 1).isEmpty) = isDig c
  rw [StrLaws.found_one, dig_mem]
theorem fig_len {text : Str} {width : Int} (h0 : 0 ≤ width) {ys : List Value}
    (h : CarriedAll ys (List.map PyData.str (List.filter (fun a => !(Builtin.Str.occurrences (Str.ofString "0123456789") a 0 (Str.ofString "0123456789").length 1).isEmpty) (signs (Txt.slice text (some (if 0 > (text.length : Int) - width then 0 else (text.length : Int) - width)) none))))) :
    ys.length = figL text.cps.toList width ∧ ys.length ≤ text.length := by
  have hl : text.cps.toList.length = text.length := by simp [Str.length]
  have h1 := carried_len h
  rw [List.length_map] at h1
  have e : (if 0 > (text.length : Int) - width then 0 else (text.length : Int) - width) = max ((text.length : Int) - width) 0 := by split <;> omega
  rw [e, slice_from_eq (b := text.length) (by omega) (by omega) rfl, dig_filter, List.take_of_length_le (by rw [List.length_drop]; omega)] at h1
  refine ⟨by rw [h1, figL, hl], ?_⟩
  rw [h1]
  refine Nat.le_trans (List.length_filter_le _ _) ?_
  rw [List.length_drop]; omega


set_option maxRecDepth 100000 in
set_option maxHeartbeats 8000000 in
theorem figures_ok (w : World) (p : Program) (loose : List Str) (mean : ExcName → Option Value) (mg mb : Str → Option Value) (news : List (Addr × Obj))
   (text : Str) (t1 : Tok) (width : Int) (t2 : Tok) (hlen : text.length ≤ 100) (hw0 : 0 ≤ width) (hw1 : width ≤ 13) : 
   ConV w p loose mean mg mb 84 news 1 True [.str text t1, .int width t2] []
    (fun t => .int (figL text.cps.toList width) t) := by
  k_with_none
  (k_with "call builtin:len" => ((with_reducible show wpAny _ _ (call (Value.builtin "len") [Value.ref _]) _ _ _); refine Halt.out ?_))
  dsimp only [ConV] 
  k_fill
  intros
  rename_i hret
  refine wpAny_call ?_
  k_dflt (refine' code_def (binds := [("text", .str text t1), ("width", .int width t2)]) ?k1 ?k2 ?k3 ?k4 ?k5 ?kA ?kF ?kK ?k6 ?k7 ?k8 ?k9 ?kB ?_ ?c2 ?c3 ?c4 ?c5; (case kA => exact rfl); (case kF => exact rfl); (case kK => assumption); (case k1 => k_asm); (case k2 => k_asm); (case k3 => k_asm); (case k4 => k_asm); (case k5 => k_asm); (case k6 => k_is); (case k7 => k_is); (case k8 => ktr_room); (case k9 => exact BindsTo.of_eq rfl); (case c5 => decide); (case kB => exact locs rfl); (case c2 => exact rfl); (case c3 => exact rfl); (case c4 => exact rfl); k_whole; intro g' L' h' FG' F' N' B' X' T'; (try dsimp only); (try k_fold))
  k_steps
  unfold Halt
  rename CarriedAll _ _ => hC
  obtain ⟨e1, e2⟩ := fig_len hw0 hC
  refine len_list (by assumption) (by rw [List.size_toArray]; omega) ?_
  rw [List.size_toArray, e1]
  k_steps
  exact hret _ _ _ (by assumption) (by first | assumption | exact news_tl (by assumption))
end Mine
end

theorem Mine.part_num : True := by
  w_top off
  k_with_none
  trivial
section
open PySem PySem.W PyProof.Rows PySem.Spec PySem.Calls
namespace Mine

def numsF (ns : List Int) : List Int := (ns.take 9).map (fun n => Int.fmod n (10 ^ 8)) ++ [2, 2, 0, 1, 4, 3, 19, 150, 43].drop (min 9 ns.length)


set_option maxRecDepth 100000 in
set_option maxHeartbeats 8000000 in
theorem numbers_ok (w : World) (p : Program) (loose : List Str) (mean : ExcName → Option Value) (mg mb : Str → Option Value) (news : List (Addr × Obj))
    (l : Addr) (vs : List Value) (ns : List Int) (hi : IntsAre vs ns) (hlen : ns.length ≤ 63)
    (dp un : Nat) (gd : Option (List Code)) (cn : Str) (cs : Scope) (a : Addr) (ccd : Value) (cl : List (Str × Addr)) (outer : List Env) (A₀ : Around) (base h₀ : Heap) (L : Addr) (m : Str → Option Value) (s : Shared) (Q E : Value → Shared → Prop)
    (hB : Below A₀ base outer h₀) (hF : Fr h₀ L s.heap m) (hX : (Mine.hd.heap_39 w.params).In h₀) (hN : News h₀ L s.heap news) (hT : Top p loose mean mg mb h₀) (hk : cs.kind = .function)
    (hl : base.IsList l vs.toArray) (hdp : dp + 1 < recursionLimit) (hun : un + 8 < cLine) 
    (hret : ∀ (D : Addr) (ws : List Value) (n : Nat) (h' : Heap) (tk' : Nat), IntsAre ws (numsF ns) → (∀ q ∈ news, q.1 < D) → Fr h₀ L h' m → News h₀ L h' ((D, listOf ws.toArray n) :: news) → Q (.ref D) { s with heap := h', toks := tk' }) :
    wpAny (model Challenge.rw_nb0109_01.row.prog w) (ktrTop dp un gd cn cs L a ccd cl outer) (call (.ref 51) [.ref l]) Q E s := by
  k_with_none
  (k_with "subscriptTail Name Slice ref ref" => ((with_reducible show wpAny _ _ (subscriptTail _ (PySem.Expr.Slice (some _) _ none _) (Value.ref _) (Value.ref _)) _ _ _); refine Halt.out ?_))
  (k_with "subscriptTail Name Slice ref ref" => ((with_reducible show wpAny _ _ (subscriptTail _ (PySem.Expr.Slice none _ none _) (Value.ref _) (Value.ref _)) _ _ _); k_dflt (refine' kmk_slice_ints ?F ?N ?l ?p ?q ?i ?m ?c ?_ ?s ?t ?z; (case F => k_asm); (case N => k_asm); (case l => kmk_list); (case p => kmk_part); (case q => kmk_part); (case i => l_ints); (case m => with_reducible (first | exact kmk_upto (by l_ints) (by omega) | exact kmk_from (by l_ints) (by omega))); (case c => exact rfl); (case s => with_unfolding_all rfl); (case t => kmk_pure); (case z => first | (rw [List.size_toArray, IntsAre.length (by assumption), sizeLine_eq]; omega) | (rw [sizeLine_eq]; decide))); intro D' ws' h' F' N' l1 hI' hC' hL'; (try k_sweep)))
  (k_with "binaryOp Add ref ref" => (refine Halt.out ?_))
  revert hX; k_fill; intro hX
  have hl' : h₀.IsList l vs.toArray := stays_list hB.stays hl
  refine wpAny_call ?_
  k_dflt (refine' code_def (binds := [("script", .ref l)]) ?k1 ?k2 ?k3 ?k4 ?k5 ?kA ?kF ?kK ?k6 ?k7 ?k8 ?k9 ?kB ?_ ?c2 ?c3 ?c4 ?c5; (case kA => exact rfl); (case kF => exact rfl); (case kK => assumption); (case k1 => k_asm); (case k2 => k_asm); (case k3 => k_asm); (case k4 => k_asm); (case k5 => k_asm); (case k6 => k_is); (case k7 => k_is); (case k8 => ktr_room); (case k9 => exact BindsTo.of_eq rfl); (case c5 => decide); (case kB => exact locs rfl); (case c2 => exact rfl); (case c3 => exact rfl); (case c4 => exact rfl); k_whole; intro g' L' h' FG' F' N' B' X' T'; (try dsimp only); (try k_fold))
  k_lift B'
  k_steps
  unfold Halt
  have hown : ∀ t : Nat, IntsAre [Value.int 2 t, Value.int 2 (t + 1), Value.int 0 (t + 1 + 1), Value.int 1 (t + 1 + 1 + 1), Value.int 4 (t + 1 + 1 + 1 + 1), Value.int 3 (t + 1 + 1 + 1 + 1 + 1), Value.int 19 (t + 1 + 1 + 1 + 1 + 1 + 1), Value.int 150 (t + 1 + 1 + 1 + 1 + 1 + 1 + 1), Value.int 43 (t + 1 + 1 + 1 + 1 + 1 + 1 + 1 + 1)] [2, 2, 0, 1, 4, 3, 19, 150, 43] := fun t => .cons _ _ (.cons _ _ (.cons _ _ (.cons _ _ (.cons _ _ (.cons _ _ (.cons _ _ (.cons _ _ (.cons _ _ .nil))))))))
  rename Fr _ _ _ _ => F
  rename News _ _ _ _ => N
  refine' kmk_slice_ints F N (News.isList N (.tail _ (.tail _ (.head _)))) (IsPart.int _ _) IsPart.none (hown _) (kmk_from (hown _) (by omega)) rfl ?_ ?ks ?kt ?kz
  case ks => with_unfolding_all rfl
  case kt => kmk_pure
  case kz => rw [sizeLine_eq]; show 9 ≤ 16777216; omega
  intro D' ws' h' F' N' l1 hI' hC' hL'
  clear F N
  k_steps
  unfold Halt
  rename IntsAre _ (List.map _ _) => hI
  refine' kmk_add_ints F' N' (News.isList N' (.tail _ (.head _))) (News.isList N' (.head _)) hI hI' ?_ ?kz2
  case kz2 =>
    rw [sizeLine_eq]
    have hft : ∀ l : List Int, List.filter (fun _ => true) l = l := fun l => List.filter_eq_self.mpr (fun _ _ => rfl)
    have e9 : Int.toNat 9 = 9 := rfl
    simp only [hft, List.length_map, List.length_drop, List.length_take, List.length_cons, List.length_nil, e9]
    omega
  intro D us h'' F N l2 hI2
  have hft : ∀ l : List Int, List.filter (fun _ => true) l = l := fun l => List.filter_eq_self.mpr (fun _ _ => rfl)
  simp only [hft] at hI2
  rw [Int.toNat_natCast, List.length_take] at hI2
  replace hI2 : IntsAre us (numsF ns) := hI2
  clear F' N'
  k_steps
  refine hret D us 0 _ _ hI2 (fun q hq => l2 q (.tail _ (.tail _ (.tail _ (.tail _ hq))))) (by assumption) (kst_newsOf (by assumption) ?_)
  intro q hq
  rcases List.mem_cons.mp hq with rfl | hq
  · exact .head _
  · exact .tail _ (.tail _ (.tail _ (.tail _ (.tail _ hq))))
end Mine
end

theorem Mine.part_genr : True := by
  w_top off
  k_with_none
  trivial
section
open PySem PySem.W PyProof.Rows PySem.Spec PySem.Calls
namespace Mine

section
variable {M : Model} {A : Around} {R : GenEnd} {Y : Protocol} {n : Nat} {s₀ : Shared} {c : Code} {fs : List Frame} {s : Shared} {env : Env}
  {K : Flow → Sem Fin} {H : Value → Sem Fin} {gd : Bool → Bool} {lv : List Value → List Value}

theorem seg_If {test : Expr} {body orelse : List Stmt} {pos : Pos}
    (h : wpAny M (A.over c fs) (isTrue test env (eval test env)) (fun b s' => if b = true then Seg M A R Y n s₀ c ((execs body env).wrap K H gd lv) fs s' else Seg M A R Y n s₀ c ((execs orelse env).wrap K H gd lv) fs s') (fun _ _ => False) s) :
    Seg M A R Y n s₀ c ((exec (.If test body orelse pos) env).wrap K H gd lv) fs s := by
  rw [exec_If]
  refine seg_bind_wrap (wpAny_standAt ?_)
  refine seg_bind_wrap (wpAny_mono h (fun b s' hb => ?_) fun _ _ x => x.elim)
  cases b with
  | true => simpa using hb
  | false => simpa using hb

theorem seg_stmt {st : Stmt} (h : wpAny M (A.over c fs) (exec st env) (fun f s' => Seg M A R Y n s₀ c (K f) fs s') (fun _ _ => False) s) :
    Seg M A R Y n s₀ c ((exec st env).wrap K H gd lv) fs s := seg_wrap (wpAny_mono h (fun _ _ x => x) fun _ _ x => x.elim)

def backK (env : Env) (K : Flow → Sem Fin) (H : Value → Sem Fin) (gd : Bool → Bool) (lv : List Value → List Value) (r : Result) : Sem Fin :=
  ((match r with | .ok f => (.pure f : Sem Flow) | .error e => .raise e).onRaise fun (x : Value) => do
        if (← field x 1) == Value.none then unsupported "frame.own-activation:exception-without-traceback"
        setFlight x env.frame).wrap K H gd lv
theorem backK_ok (env : Env) (K : Flow → Sem Fin) (H : Value → Sem Fin) (gd : Bool → Bool) (lv : List Value → List Value) (f : Flow) : backK env K H gd lv (.ok f) = K f := rfl

theorem seg_WhileB {test : Expr} {body orelse : List Stmt} {pos : Pos}
    (h : ∀ p, Seg M A R Y n s₀ (.whileLoop test body orelse env) (M.den (.whileLoop test body orelse env)) (.ret (backK env K H gd lv) none (gd false) (lv []) c p [] :: fs) s) :
    Seg M A R Y n s₀ c ((exec (.While test body orelse pos) env).wrap K H gd lv) fs s := seg_While h

theorem seg_For {target iter : Expr} {body orelse : List Stmt} {pos : Pos}
    (h : wpAny M (A.over c fs) (eval iter env) (fun x s₁ => wpAny M (A.over c fs) (pyIter x) (fun it s₂ => ∀ p, Seg M A R Y n s₀ (.forLoop target it body orelse env) (M.den (.forLoop target it body orelse env)) (.ret (backK env K H gd lv) none (gd false) (lv []) c p [] :: fs) s₂) (fun _ _ => False) s₁) (fun _ _ => False) s)
    (hs : ∀ x, foldedSetIterable iter env x = pure x := by intro _; rfl) :
    Seg M A R Y n s₀ c ((exec (.For target iter body orelse pos) env).wrap K H gd lv) fs s := by
  rw [exec_For]
  refine seg_bind_wrap (wpAny_standAt ?_)
  refine seg_bind_wrap (wpAny_mono h (fun x s₁ h₁ => ?_) fun _ _ x => x.elim)
  rw [hs]
  refine seg_bind_wrap (wpAny_pure ?_)
  refine seg_bind_wrap (wpAny_standAt ?_)
  refine seg_bind_wrap (wpAny_holding (wpAny_mono h₁ (fun it s₂ h₂ => ?_) fun _ _ x => x.elim))
  exact seg_call h₂
end

section
variable {prog : Program} {w : World} {A : Around} {R : GenEnd} {Y : Protocol} {n : Nat} {s₀ : Shared} {fs : List Frame} {s : Shared} {env : Env}

def forK (cL : Code) (f : Flow) : Sem Fin := match f with
  | .next | .cont => .pure (.again cL)
  | .brk => .pure (.done .next)
  | .ret v => .pure (.done (.ret v))
def forH (env : Env) (e : Value) : Sem Fin := (do noteFrame e env; theTreesLotGoes e : Sem Unit).wrap (fun _ => .raise e) .raise id id

theorem seg_forLoop {x : Str} {px : Pos} {it : Value} {body : List Stmt}
    (h : wpAny (model prog w) (A.over (.forLoop (.Name x px) it body [] env) fs) (pyNext it) (fun r s₁ => match r with
      | none => Seg (model prog w) A R Y n s₀ (.block [] env) (.pure (.done .next)) fs s₁
      | some v => wpAny (model prog w) (A.over (.forLoop (.Name x px) it body [] env) fs) (storeName env x v) (fun _ s₂ =>
          Seg (model prog w) A R Y n s₀ (.forLoop (.Name x px) it body [] env) ((execs body env).wrap (forK (.forLoop (.Name x px) it body [] env)) (forH env) id id) fs s₂) (fun _ _ => False) s₁) (fun _ _ => False) s) :
    Seg (model prog w) A R Y n s₀ (.forLoop (.Name x px) it body [] env) ((model prog w).den (.forLoop (.Name x px) it body [] env)) fs s := by
  show Seg _ A R Y n s₀ _ ((forTurn (.Name x px) it body [] env).onRaise (fun x => do noteFrame x env; theTreesLotGoes x)) fs s
  unfold forTurn
  rw [Sem.onRaise_eq_wrap]
  refine seg_bind_wrap (wpAny_standAt ?_)
  refine seg_bind_wrap (wpAny_onRaise (wpAny_mono h (fun r s₁ h₁ => ?_) fun _ _ x => x.elim))
  cases r with
  | none => exact seg_again (c' := .block [] env) rfl h₁
  | some v =>
    refine seg_bind_wrap (wpAny_of_eq (a := ()) rfl ?_)
    refine seg_bind_wrap (wpAny_assign_Name (wpAny_mono h₁ (fun _ s₂ h₂ => ?_) fun _ _ x => x.elim))
    rw [Sem.bind_eq_wrap', Sem.wrap_wrap]
    rw [Sem.wrap_congr (execs body env) _ _ (K' := forK (.forLoop (.Name x px) it body [] env)) (H' := forH env) (fun f => by cases f <;> rfl)
      (fun e => by show (do noteFrame e env; theTreesLotGoes e : Sem Unit).bind (fun _ => .raise e) = _; rw [Sem.bind_eq_wrap]; rfl)]
    exact h₂

/-- a yield in a generator's loop -/
theorem seg_yieldE {c : Code} {K : Flow → Sem Fin} {H : Value → Sem Fin} {gd : Bool → Bool} {lv : List Value → List Value} {e : Expr} {ypos pos : Pos} (hfs : splitAtGen fs = none) (hgd : gd false = false) (hfg : fs.any Frame.guarded = false)
    (h : wpAny (model prog w) (A.over c fs) (eval e env) (fun v s' => ∀ kap : Resume → Shared → Prop,
        (∀ x s'', (match x with | .ref _ => False | _ => Seg (model prog w) A R Y n s'' c (K .next) fs s'') → kap (.send x) s'') → Y n s₀ v s' kap)
      (fun _ _ => False) s) (hco : env.scope.isCoroutine = false := by rfl) (hi : interactive env = false := by rfl) :
    Seg (model prog w) A R Y (n + 1) s₀ c ((exec (.Expr (.Yield (some e) ypos) pos) env).wrap K H gd lv) fs s :=
  seg_Expr_Yield hfs hgd hfg (wpAny_mono h (fun _ _ x => x) fun _ _ x => x.elim) hco hi
end

section
variable {prog : Program} {w : World} {A : Around} {E : Value → Shared → Prop} {s : Shared}
theorem pyNext_genQ {a : Addr} {g n : Nat} {gs : GenState} {P : Nat → Shared → Shared → Prop} {Y : Protocol} {Q : Option Value → Shared → Prop} (hh : A.handled = none)
    (hl : s.heap.NoLimit) (hroom : A.depth < recursionLimit)
    (hg : s.heap.IsGen a g) (hgs : s.gens[g]? = some gs)
    (hgo : gs.Goes (model prog w) A.in1 (fun n s₀ r s₁ => r = .ok (.ret .none) ∧ P n s₀ s₁) Y n (.send .none) (s.setGen g .running))
    (hY : ∀ v s₁ gs', gs'.bare = true → Y (n - 1) (s.setGen g .running) v s₁ (fun r' s'' => match n with
        | 0 => False
        | m + 1 => gs'.Goes (model prog w) A.in1 (fun n s₀ r s₁ => r = .ok (.ret .none) ∧ P n s₀ s₁) Y m r' s'') → Q (some v) (s₁.setGen g gs'))
    (hP : ∀ s₁, P n (s.setGen g .running) s₁ → ∀ h', (∀ b o, s₁.heap.get? b = some o → h'.get? b = some o) → Q none { s₁.setGen g .finished with heap := h' }) :
    wpAny (model prog w) A (pyNext (.ref a)) Q E s := by
  unfold pyNext
  refine wpAny_bind (wpAny_attempt (wpAny_callSpecial?_slot (name := Str.ofString "__next__") hg.typeIs slot_gen_next
    (wpAny_call_entry slot_gen_next hg.typeIs entry_gen_next ?_ (args_gen_next _))))
  show wpAny _ _ (Builtin.Generator.genWake (.ref a) (.send .none)) _ _ s
  unfold Builtin.Generator.genWake
  refine wpAny_bind (wpAny_holding (wpAny_genNumber hg (wpAny_bind (wpAny_genState hgs ?_))))
  cases gs with
  | running => exact hgo.elim
  | finished => exact hgo.elim
  | _ =>
    refine wpAny_bind (wpAny_roomToWake hl hroom ?_)
    show wpAny _ _ (.resume g (.send .none) [] _) _ _ s
    refine wpAny_resumeQ hgs hgo (fun x s₁ hx => ?_) (fun v s₁ gs' hb hv => ?_)
    · obtain ⟨rfl, hp⟩ := hx
      show wpAny _ _ (newExc (.type "StopIteration") [] >>= _) _ _ _
      refine wpAny_bind ?_
      simp only [newExc, newTuple]
      refine wpAny_bind (wpAny_newObj_type ?_ (by size_fits))
      refine wpAny_bind (m := firstArgMember _ _) (wpAny_of_eq (a := Value.none) (by first | rfl | (simp only [firstArgMember]; rfl)) ?_)
      refine wpAny_newObj_type ?_ (by size_fits)
      simp only [raiseNew]
      refine wpAny_bind (wpAny_bind (wpAny_handled ?_))
      rw [show A.in1.handled = none from hh]
      refine wpAny_throw ?_
      refine wpAny_bind (wpAny_isInstance (T := "StopIteration") (b := true) ⟨_, Heap.get?_push_size _ rfl, rfl⟩ isSubtype_stop ?_)
      exact wpAny_pure (hP s₁ hp _ fun b o hb => Heap.get?_push_of_some _ (Heap.get?_push_of_some _ hb))
    · exact wpAny_pure ⟨v, rfl, wpAny_pure (hY v s₁ gs' hb hv)⟩
end

theorem stS {M : Model} {A : Around} {E : Value → Shared → Prop} {s : Shared} {name : Str} {scope : Scope} {L a : Addr} {cd : Value} {h₀ : Heap} {m : Str → Option Value} {x : Str} {v : Value} {Q : Unit → Shared → Prop} (F : Fr h₀ L s.heap m)
    (h : ∀ h', Fr h₀ L h' (fun y => if y = x then some v else m y) → Heap.SameBut L s.heap h' → Q () { s with heap := h', toks := s.toks + 1 })
    (hk : scope.kind = .function := by rfl) (hl : (envOf name scope L a cd).kindOf x = some .local := by rfl) :
    wpAny M A (storeName (envOf name scope L a cd) x v) Q E s :=
  wpAny_storeName_local hl F.ns (fun h' hn hs => h h' (F.set hn hs) hs)
    (by show (scope.kind == .class || (scope.kind == .module && L != mainGlobals)) = false; rw [hk]; rfl)
end Mine
end

theorem Mine.part_gen : True := by
  w_top off
  k_with_none
  trivial
section
open PySem PySem.W PyProof.Rows PySem.Spec PySem.Calls
namespace Mine

def gseq : List Int → Option Int → Nat → Option Int
  | [], _, _ => none
  | s :: r, la, k => if s = 127 then none else if s = 0 then la else match k with | 0 => some s | k + 1 => gseq r (some s) k

theorem seg_ind {M : Model} {A : Around} {R : GenEnd} {Y : Protocol} {c : Code} {t : Sem Fin} {fs : List Frame} (St : Nat → Shared → Shared → Prop)
    (turn : ∀ n, (∀ k, n = k + 1 → ∀ s₀ s, St k s₀ s → Seg M A R Y (k + 1) s₀ c t fs s) → ∀ s₀ s, St n s₀ s → Seg M A R Y (n + 1) s₀ c t fs s) :
    ∀ n s₀ s, St n s₀ s → Seg M A R Y (n + 1) s₀ c t fs s := by
  intro n
  induction n with
  | zero => exact turn 0 (fun k h => by omega)
  | succ n ih => exact turn (n + 1) (fun k h s₀ s hs => by cases h; exact ih s₀ s hs)

/-- what the generator's user sees at a yield -/
def gY (g : Heap) (Lg Ig D : Addr) (oD : Obj) (ns : List Int) (N : Nat) : Protocol := fun n s₀ v s' kap =>
  (∃ x t, v = .int x t ∧ gseq ns none (N - 1 - n) = some x) ∧ GenSince Lg [Ig] s₀ s' ∧ (∃ oL oI, s'.heap.get? Lg = some oL ∧ s'.heap.get? Ig = some oI) ∧
    (n = 0 ∨ ∀ s'' : Shared, (∀ b o, b = Lg ∨ b = Ig → s'.heap.get? b = some o → s''.heap.get? b = some o) → s''.heap.get? D = some oD → (∀ b o, g.get? b = some o → s''.heap.get? b = some o) → kap (.send .none) s'')
def gP (Lg Ig : Addr) (ns : List Int) (N : Nat) : Nat → Shared → Shared → Prop := fun n s₀ s₁ => gseq ns none (N - n) = none ∧ GenSince Lg [Ig] s₀ s₁
abbrev gR (Lg Ig : Addr) (ns : List Int) (N : Nat) : GenEnd := fun n s₀ r s₁ => r = .ok (.ret .none) ∧ gP Lg Ig ns N n s₀ s₁

def laV (la : Option Int) (t : Tok) : Value := match la with | none => .none | some x => .int x t
def GSt (g : Heap) (Lg Ig D : Addr) (oD : Obj) (ns : List Int) (N n : Nat) (s₀ s : Shared) : Prop :=
  ∃ (i : Nat) (la : Option Int) (t : Tok) (m : Str → Option Value), n + i = N ∧ i ≤ ns.length ∧ (∀ k, gseq ns none (i + k) = gseq (ns.drop i) la k) ∧ (la = none → i = 0) ∧
    Fr g Lg s.heap (fun y => if y = "last_interval" then some (laV la t) else m y) ∧ s.heap.IsListIter Ig D i ∧ s.heap.get? D = some oD ∧ GenSince Lg [Ig] s₀ s

theorem ns_of_get {h h' : Heap} {L : Addr} {m : Str → Option Value} (x : h.Ns L m) (e : ∀ o, h.get? L = some o → h'.get? L = some o) : h'.Ns L m := by
  obtain ⟨o, es, ep, ho, r⟩ := x
  exact ⟨o, es, ep, e o ho, r⟩

theorem fr_same {g h h' : Heap} {L I : Addr} {m : Str → Option Value} (F : Fr g L h m) (hs : Heap.SameBut I h h') (hLI : L < I) : Fr g L h' m :=
  ⟨F.ns.sameBut hs (Nat.ne_of_lt hLI), fun b o e => (hs.2 b (Nat.ne_of_lt (Nat.lt_of_lt_of_le (Heap.lt_size e) (Nat.le_trans F.above (Nat.le_of_lt hLI))))).trans (F.keep b o e), F.above⟩
theorem fr_resume {g h h' : Heap} {L : Addr} {m : Str → Option Value} (F : Fr g L h m) (e : ∀ o, h.get? L = some o → h'.get? L = some o) (k : ∀ b o, g.get? b = some o → h'.get? b = some o) : Fr g L h' m :=
  ⟨ns_of_get F.ns e, k, F.above⟩
theorem last_first {g h : Heap} {L : Addr} {m : Str → Option Value} {v u : Value} (F : Fr g L h (fun y => if y = "interval" then some v else if y = "last_interval" then some u else m y)) :
    Fr g L h (fun y => if y = "last_interval" then some u else if y = "interval" then some v else m y) := by
  have e : (fun y => if y = Str.ofString "last_interval" then some u else if y = Str.ofString "interval" then some v else m y) = (fun y => if y = Str.ofString "interval" then some v else if y = Str.ofString "last_interval" then some u else m y) := by
    funext y
    by_cases h1 : y = Str.ofString "interval"
    · have : ¬ (Str.ofString "interval" = Str.ofString "last_interval") := by decide +kernel
      rw [h1]; simp [this]
    · simp [h1]
  rw [e]; exact F
theorem fr_get {g h : Heap} {L : Addr} {m : Str → Option Value} (F : Fr g L h m) : ∃ o, h.get? L = some o := by
  obtain ⟨o, _, _, ho, _⟩ := F.ns; exact ⟨o, ho⟩
theorem iter_get {h : Heap} {I D : Addr} {i : Nat} (x : h.IsListIter I D i) : ∃ o, h.get? I = some o := by
  obtain ⟨o, ho, _⟩ := x; exact ⟨o, ho⟩
theorem since_two {Lg Ig : Addr} {s₀ s : Shared} (x : GenSince Lg [Ig] s₀ s) {h2 h3 : Heap} {tk : Nat} (hs2 : Heap.SameBut Ig s.heap h2) (hs3 : Heap.SameBut Lg h2 h3) : GenSince Lg [Ig] s₀ { s with heap := h3, toks := tk } :=
  x.step fun b o hb hw e => (hs3.2 b hb).trans ((hs2.2 b (fun q => hw (by rw [q]; exact .head _))).trans e)

set_option maxRecDepth 100000 in
set_option maxHeartbeats 8000000 in
theorem gen_goes (w : World) (p : Program) (loose : List Str) (mean : ExcName → Option Value) (mg mb : Str → Option Value)
    (A : Around) (hA : A.handled = none) (g : Heap) (Lg D : Addr) (vs : List Value) (nn : Nat) (ns : List Int) (N : Nat) (s : Shared)
    {name qual : Str} {params : Arguments} {body : List Stmt} {scope : Scope} {dV kV doc pm cdv ct oc : Value} {an od : Option Addr} {osl : Array (Option Value)}
    (ho : (Mine.hd.heap_39 w.params).lookup 21 = some ⟨oc, od, .func (fnOf name qual params body scope dV kV doc pm an cdv ct), osl⟩)
    (X : (Mine.hd.heap_39 w.params).In g) (T : Top p loose mean mg mb g) (F : Fr g Lg s.heap (fun y => List.lookup y [("grouping", .ref D)])) (hD : s.heap.get? D = some (listOf vs.toArray nn)) (hDL : D ≠ Lg)
    (hi : IntsAre vs ns) (h0 : ns.head? ≠ some 0) (hN : 0 < N) :
    (GenState.fresh (.func body (envOf qual scope Lg 21 cdv))).Goes (model Challenge.rw_nb0109_01.row.prog w) A (gR Lg s.heap.objs.size ns N) (gY g Lg s.heap.objs.size D (listOf vs.toArray nn) ns N) N (.send .none) s := by
  k_with_none
  (k_with "storeName" => (refine Halt.out ?_))
  (k_with "pyIter ref" => (refine Halt.out ?_))
  revert X; k_fill; intro X
  have e := ho.symm.trans (by k_is : (Mine.hd.heap_39 w.params).lookup 21 = some _)
  cases e
  clear ho
  obtain ⟨N, rfl⟩ : ∃ k, N = k + 1 := ⟨N - 1, by omega⟩
  refine ⟨rfl, ?_⟩
  refine seg_func ?_
  refine seg_execs_cons ?_
  have hl : s.heap.IsList D vs.toArray := ⟨_, hD, rfl, nn, rfl⟩
  refine seg_stmt (wpAny_Assign_Name ?_)
  k_steps
  unfold Halt
  refine stS F (fun h1 F1 hs1 => ?_)
  try dsimp only
  refine seg_execs_cons ?_
  have hD1 : h1.get? D = some (listOf vs.toArray nn) := (hs1.2 D hDL).trans hD
  refine seg_For ?_
  k_steps
  unfold Halt
  refine wpAny_pyIter_list (s := ⟨h1, _, _, _, _⟩) (⟨_, hD1, rfl, nn, rfl⟩ : h1.IsList D vs.toArray) ?_
  rw [show h1.objs.size = s.heap.objs.size from hs1.1]
  intro pp
  have hLg : Lg < s.heap.objs.size := F.ns.lt
  have hDs : D < s.heap.objs.size := Heap.lt_size hD
  refine seg_ind (GSt g Lg s.heap.objs.size D (listOf vs.toArray nn) ns N) ?turn N _ _ ?init
  case init =>
    refine ⟨0, none, 0, _, by omega, Nat.zero_le _, fun k => by rw [Nat.zero_add]; rfl, fun _ => rfl, (F1.push _), ?_, Heap.get?_push_of_some _ hD1, ?_⟩
    · exact ⟨_, by have := Heap.get?_push_size h1 (o := { cls := .type "list_iterator", data := .fields #[.ref D, .int 0 0] }) rfl; rw [hs1.1] at this; exact this, rfl, rfl⟩
    · exact ⟨_, _, rfl, fun b o hb _ e => Heap.get?_push_of_some _ ((hs1.2 b hb).trans e)⟩
  case turn =>
    clear F1 hs1 hD1 h1
    rintro n ih s₀ s' ⟨i, la, t, m, hni, hil, hseq, hla, F1, hit, hD1, hsince⟩
    refine seg_forLoop ?_
    by_cases hlt : i < ns.length
    · have hx : ns[i]? = some (ns[i]) := List.getElem?_eq_getElem hlt
      obtain ⟨t', hv⟩ := hi.get i _ hx
      generalize hxe : ns[i] = x at hx hv
      have hdrop : ns.drop i = x :: ns.drop (i + 1) := by rw [← hxe]; exact List.drop_eq_getElem_cons hlt
      refine wpAny_pyNext_list_item hit ⟨_, hD1, rfl, nn, rfl⟩ (by simpa using hv) (fun h2 hit2 hs2 => ?_)
      have F2 := fr_same F1 hs2 hLg
      dsimp only
      refine stS F2 (fun h3 F3 hs3 => ?_)
      have hD3 : h3.get? D = some (listOf vs.toArray nn) := (hs3.2 D hDL).trans ((hs2.2 D (Nat.ne_of_lt hDs)).trans hD1)
      have hit3 : h3.IsListIter s.heap.objs.size D (i + 1) := by
        obtain ⟨o, ho, r⟩ := hit2
        exact ⟨o, (hs3.2 _ (Nat.ne_of_gt hLg)).trans ho, r⟩
      have hs := fun tk => since_two (tk := tk) hsince hs2 hs3
      have hq : ∀ k, gseq ns none (i + k) = gseq (x :: ns.drop (i + 1)) la k := fun k => by rw [hseq, hdrop]
      clear hs2 hs3 hit2 F2 hit hD1 F1 hsince
      refine seg_execs_cons (seg_If ?_)
      k_steps
      · -- 127: the generator ends
        rename x = 127 => hx7
        refine seg_execs_cons (seg_stmt (wpAny_Return_none ?_))
        refine seg_leaf (.ok (.ret .none)) ?_
        refine seg_end (.ok (.ret .none)) ⟨rfl, ?_, hs _⟩
        have := hq 0
        rw [show N + 1 - (n + 1) = i + 0 by omega, this, hx7]
        rfl
      · refine seg_execs_nil ?_
        refine seg_execs_cons (seg_If ?_)
        k_steps
        · -- nought: the last size for ever
          rename x = 0 => hx0
          have hi0 : i ≠ 0 := by
            intro e
            apply h0
            have q := hdrop
            rw [e, List.drop_zero] at q
            rw [q, hx0]; rfl
          obtain ⟨y, rfl⟩ : ∃ y, la = some y := by
            cases la with
            | none => exact absurd (hla rfl) hi0
            | some y => exact ⟨y, rfl⟩
          have hrep : ∀ k, gseq ns none (i + k) = some y := fun k => by rw [hq, hx0]; rfl
          dsimp only [laV] at F3
          refine seg_execs_cons (seg_If ?_)
          k_steps
          refine seg_execs_nil ?_
          refine seg_execs_cons (seg_WhileB ?_)
          intro p2
          refine seg_ind (fun n' s₀ s'' => n' ≤ n ∧ (∃ (m : Str → Option Value) (t : Tok), Fr g Lg s''.heap (fun y' => if y' = "last_interval" then some (.int y t) else m y')) ∧ (∃ o, s''.heap.get? s.heap.objs.size = some o) ∧ GenSince Lg [s.heap.objs.size] s₀ s'') ?turn2 n _ _ ?init2
          case init2 => exact ⟨Nat.le_refl _, ⟨_, t, last_first F3⟩, iter_get hit3, hs _⟩
          case turn2 =>
            clear hs F3 hit3 hD3
            rintro n' ih2 s₀ s2 ⟨hn', ⟨m2, t2, F4⟩, hI, hsince⟩
            refine seg_whileLoop ?_
            k_steps
            refine seg_execs_cons (seg_yieldE rfl rfl rfl ?_)
            k_steps
            rename_i kap hkap
            refine ⟨⟨y, t2, rfl, ?_⟩, hsince, ?_, ?_⟩
            · rw [show N + 1 - 1 - n' = i + (n - n') by omega]; exact hrep _
            · obtain ⟨oL, hoL⟩ := fr_get F4
              obtain ⟨oI, hoI⟩ := hI
              exact ⟨oL, oI, hoL, hoI⟩
            · cases n' with
              | zero => exact .inl rfl
              | succ n' =>
                refine .inr fun s'' hk1 hk2 hk3 => hkap .none s'' ?_
                have F5 := fr_resume F4 (fun o ho => hk1 Lg o (.inl rfl) ho) hk3
                refine seg_execs_nil ?_
                refine seg_again rfl ?_
                obtain ⟨oI, hoI⟩ := hI
                exact ih2 n' rfl _ _ ⟨by omega, ⟨m2, t2, F5⟩, ⟨oI, hk1 _ oI (.inr rfl) hoI⟩, GenSince.refl _ _ _⟩
        · refine seg_execs_nil ?_
          refine seg_execs_cons (seg_yieldE rfl rfl rfl ?_)
          k_steps
          rename_i kap hkap
          refine ⟨⟨x, t', rfl, ?_⟩, hs _, ?_, ?_⟩
          · have := hq 0
            rw [show N + 1 - 1 - n = i + 0 by omega, this]
            show (if x = 127 then none else if x = 0 then la else some x) = some x
            rw [if_neg (by assumption), if_neg (by assumption)]
          · obtain ⟨oL, hoL⟩ := fr_get F3
            obtain ⟨oI, hoI⟩ := iter_get hit3
            exact ⟨oL, oI, hoL, hoI⟩
          · cases n with
            | zero => exact .inl rfl
            | succ n =>
              refine .inr fun s'' hk1 hk2 hk3 => hkap .none s'' ?_
              have F5 := fr_resume F3 (fun o ho => hk1 Lg o (.inl rfl) ho) hk3
              refine seg_execs_cons (seg_stmt (wpAny_Assign_Name ?_))
              k_steps
              unfold Halt
              refine stS F5 (fun h6 F6 hs6 => ?_)
              refine seg_execs_nil ?_
              refine seg_again rfl ?_
              refine ih n rfl _ _ ⟨i + 1, some x, t', _, by omega, hlt, ?_, (fun q => by cases q), F6, ?_, (hs6.2 D hDL).trans hk2, ⟨_, _, rfl, fun b o hb _ e => (hs6.2 b hb).trans e⟩⟩
              · intro k
                have := hq (k + 1)
                rw [show i + 1 + k = i + (k + 1) by omega, this]
                show (if x = 127 then none else if x = 0 then la else gseq (ns.drop (i + 1)) (some x) k) = _
                rw [if_neg (by assumption), if_neg (by assumption)]
              · obtain ⟨o, ho, r⟩ := hit3
                exact ⟨o, (hs6.2 _ (Nat.ne_of_gt hLg)).trans (hk1 _ o (.inr rfl) ho), r⟩
    · have hend : ns.length = i := by omega
      refine wpAny_pyNext_list_end (by exact hA) hit ⟨_, hD1, rfl, nn, rfl⟩ (by have := hi.length; simp; omega) (fun h2 hs2 => ?_)
      dsimp only
      refine seg_leaf (.ok .next) ?_
      refine seg_end (.ok (.ret .none)) ⟨rfl, ?_, hsince.step fun b o hb hw e => hs2 b o (fun q => hw (by rw [q]; exact .head _)) e⟩
      have := hseq 0
      rw [show N + 1 - (n + 1) = i + 0 by omega, this, ← hend, List.drop_length]
      rfl
end Mine
end

theorem Mine.part_marks : True := by
  w_top off
  k_with_none
  trivial
section
open PySem PySem.W PyProof.Rows PySem.Spec PySem.Calls
namespace Mine

def mkGo (q : Nat → Option Int) : Nat → Nat → Int → List Int
  | 0, _, _ => []
  | f + 1, k, wh => match q k with
    | none => []
    | some x => if wh + x ≥ 9 then [wh + x] else (wh + x) :: mkGo q f (k + 1) (wh + x)
def marksF (ns : List Int) : List Int := mkGo (gseq ns none) 10 0 0

theorem code_gen {prog : Program} {w : World} {A : Around} {R : Result → Shared → Prop} {s : Shared} {K : Frag} {h₀ : Heap} {L : Addr} {m : Str → Option Value} {p : Program} {loose : List Str} {mean : ExcName → Option Value} {mg mb : Str → Option Value}
    {name qual : Str} {params : Arguments} {body : List Stmt} {scope : Scope} {dV kV doc pm cdv ct oc : Value} {an od : Option Addr} {osl : Array (Option Value)} {f : Addr} {args : Args} {binds : List (Str × Value)}
    (F : Fr h₀ L s.heap m) (X : K.In h₀) (T : Top p loose mean mg mb h₀) (hroom : A.depth < recursionLimit)
    (ho : K.lookup f = some ⟨oc, od, .func (fnOf name qual params body scope dV kV doc pm an cdv ct), osl⟩) (hcd : codeIn K cdv qual = true)
    (hbind : BindsTo s (fnOf name qual params body scope dV kV doc pm an cdv ct) args binds) (hloc : ∀ y ∈ binds, scope.names.lookup y.1 = some .local)
    (h : ∀ h1 : Heap, h1.Ns s.heap.objs.size (fun x => binds.reverse.lookup x) → Heap.SameBut s.heap.objs.size (s.heap.push { cls := .type "frame", data := .dict #[] }) h1 →
      R (.ok (.ret (.ref h1.objs.size))) { s with gens := s.gens.push (.fresh (.func body (envOf qual scope s.heap.objs.size f cdv))), toks := s.toks + binds.length + 1 + 1, heap := h1.push { cls := .type "generator", data := .fields #[.int s.gens.size 0, .str name (s.toks + binds.length), .str qual (s.toks + binds.length + 1)] } })
    (hco : scope.isCoroutine = false) (hgen : scope.isGenerator = true) (hk : scope.kind = .function) (hcell : ∀ x ∈ scope.names, x.2 ≠ .cell) :
    codeAny (model prog w) A (.call (.ref f) args) R s := by
  refine codeAny_call_generator hroom ((X.keeps F.keep) _ _ ho) rfl hco hgen rfl (codeRec_of (X.keeps F.keep) hcd) ?_
  refine hbind _ _ _ _ ?_
  refine wpAny_newFunctionEnv hcell hloc (fun h1 hns hsb => ⟨(T.nolimit.keeps F.keep).fresh _ hsb, ?_⟩) hk
  exact h h1 hns hsb

set_option maxRecDepth 100000 in
set_option maxHeartbeats 8000000 in
theorem gen_call (w : World) (p : Program) (loose : List Str) (mean : ExcName → Option Value) (mg mb : Str → Option Value)
    {A : Around} (hroom : A.depth < recursionLimit) {h₀ : Heap} {L : Addr} {m : Str → Option Value} {s : Shared} {news : List (Addr × Obj)}
    (D : Addr) (vs : List Value) (nn : Nat) (ns : List Int) (hm : (D, listOf vs.toArray nn) ∈ news) (hi : IntsAre vs ns) (h0 : ns.head? ≠ some 0)
    (F : Fr h₀ L s.heap m) (hN : News h₀ L s.heap news) (X : (Mine.hd.heap_39 w.params).In h₀) (T : Top p loose mean mg mb h₀) {Q E : Value → Shared → Prop}
    (h : ∀ (Lg a : Addr) (oL oa : Obj) (gs : GenState) (h' : Heap) (tk : Nat), gs.bare = true → (∀ h2 : Heap, h2.get? a = some oa → h2.IsGen a s.gens.size) → (∀ q ∈ news, q.1 < Lg) → L < Lg → Lg < a → a < h'.objs.size →
      (∀ (A' : Around) (N : Nat) (s' : Shared), A'.handled = none → 0 < N → s'.heap = h' → gs.Goes (model Challenge.rw_nb0109_01.row.prog w) A' (gR Lg h'.objs.size ns N) (gY h₀ Lg h'.objs.size D (listOf vs.toArray nn) ns N) N (.send .none) s') →
      Fr h₀ L h' m → News h₀ L h' ((a, oa) :: (Lg, oL) :: news) → Q (.ref a) { s with heap := h', toks := tk, gens := s.gens.push gs }) :
    wpAny (model Challenge.rw_nb0109_01.row.prog w) A (call (.ref 21) [.ref D]) Q E s := by
  revert X; k_fill; intro X
  have hLs : L < s.heap.objs.size := F.ns.lt
  refine wpAny_call ?_
  k_dflt (refine' code_gen (binds := [("grouping", .ref D)]) F X T hroom ?ho ?hcd ?k9 ?kB ?_ ?c2 ?c3 ?c4 ?c5; (case ho => k_is); (case hcd => k_is); (case k9 => exact BindsTo.of_eq rfl); (case kB => exact locs rfl); (case c2 => exact rfl); (case c3 => exact rfl); (case c4 => exact rfl); (case c5 => decide))
  intro h1 hns hsb
  obtain ⟨oL, es, ep, hoL, hr⟩ := id hns
  have hsz : h1.objs.size = s.heap.objs.size + 1 := by rw [hsb.1, Heap.size_push]
  have keep1 : ∀ b o, s.heap.get? b = some o → h1.get? b = some o := fun b o e => hsb.extBut b o (Nat.ne_of_lt (Heap.lt_size e)) (Heap.get?_push_of_some _ e)
  have hn0 : ∀ b, L < b → h₀.get? b = none := fun b hb => Heap.get?_none_of_le (Nat.le_trans F.above (Nat.le_of_lt hb))
  have F1 : Fr h₀ L h1 m := ⟨F.ns.keeps keep1, fun b o e => keep1 b o (F.keep b o e), F.above⟩
  have FG : Fr h₀ s.heap.objs.size h1 (fun y => List.lookup y [("grouping", .ref D)]) := ⟨hns, F1.keep, Nat.le_trans F.above (Nat.le_of_lt hLs)⟩
  dsimp only
  refine' h s.heap.objs.size h1.objs.size oL { cls := .type "generator", data := .fields #[.int s.gens.size 0, .str "_grouping_intervals" (s.toks + 1), .str "_grouping_intervals" (s.toks + 1 + 1)] } _ _ _ ?b1 ?b2 (fun q hq => Heap.lt_size (hN q hq).1) hLs ?b3 ?b4 ?b5 (F1.push _) ?b6
  case b6 =>
    intro q hq
    rcases List.mem_cons.mp hq with rfl | hq
    · exact ⟨Heap.get?_push_size _ rfl, by show h1.objs.size ≠ L; rw [hsz]; exact Nat.ne_of_gt (Nat.lt_succ_of_lt hLs), hn0 _ (by show L < h1.objs.size; rw [hsz]; exact Nat.lt_succ_of_lt hLs)⟩
    · rcases List.mem_cons.mp hq with rfl | hq
      · exact ⟨Heap.get?_push_of_some _ hoL, Nat.ne_of_gt hLs, hn0 _ hLs⟩
      · exact ⟨Heap.get?_push_of_some _ (keep1 _ _ (hN q hq).1), (hN q hq).2⟩
  case b1 => rfl
  case b2 =>
    intro h2 e
    exact ⟨_, _, _, e, rfl, rfl, rfl⟩
  case b3 => rw [hsz]; exact Nat.lt_succ_self _
  case b4 => rw [Heap.size_push]; exact Nat.lt_succ_self _
  case b5 =>
    intro A' N s' hA' hN0 hs'
    have := gen_goes w p loose mean mg mb A' hA' h₀ s.heap.objs.size D vs nn ns N s' (by k_is) X T (by rw [hs']; exact FG.push _) (by rw [hs']; exact Heap.get?_push_of_some _ (keep1 _ _ (hN _ hm).1)) (Nat.ne_of_lt (Heap.lt_size (hN _ hm).1)) hi h0 hN0
    rw [hs'] at this
    exact this

def MTurn (g : Heap) (L' : Addr) (m₀ : Str → Option Value) (M : Addr) (led : List (Addr × Obj)) (us : List Value) (un : Nat) (wh x : Int) (s1 : Shared) (f : Flow) (s₃ : Shared) : Prop :=
  ∃ (h : Heap) (tk : Nat) (tv tw : Tok) (u : Str → Option Value), s₃ = { s1 with heap := h, toks := tk } ∧ Fr g L' h (kstB (fun z => if (["size"] : List Str).contains z then u z else m₀ z) [("whole", .int (wh + x) tw)]) ∧
    News g L' h ((M, listOf (us ++ [Value.int (wh + x) tv]).toArray (un + 1)) :: led) ∧ (if wh + x ≥ 9 then f = .ret (.ref M) else f = .next)

def MInv (w : World) (A : Around) (g : Heap) (L' : Addr) (m₀ : Str → Option Value) (M a Lg D : Addr) (oD oa : Obj) (ns : List Int) (led : List (Addr × Obj)) (k0 : Nat) (s : Shared) (n : Nat) (s' : Shared) : Prop :=
  ∃ (j : Nat) (wh : Int) (tw : Tok) (u : Str → Option Value) (acc : List Int) (us : List Value) (un : Nat) (oL : Obj) (gs : GenState) (h' : Heap) (tk : Nat) (gens' : Array GenState) (ext : List (Addr × Obj)),
    n + j = 10 ∧ wh < 9 ∧ (j : Int) ≤ wh ∧ IntsAre us acc ∧ acc.length = j ∧ marksF ns = acc ++ mkGo (gseq ns none) n j wh ∧ s' = { s with heap := h', toks := tk, gens := gens' } ∧ gens'[k0]? = some gs ∧ (AllBare s.gens → AllBare gens') ∧
    Fr g L' h' (kstB (fun z => if (["size"] : List Str).contains z then u z else m₀ z) [("whole", .int wh tw)]) ∧ News g L' h' ((M, listOf us.toArray un) :: (a, oa) :: (Lg, oL) :: (ext ++ led)) ∧
    ((j = 0 ∧ ext = [] ∧ ∀ s'' : Shared, s''.heap = h' → gs.Goes (model Challenge.rw_nb0109_01.row.prog w) A.in1 (gR Lg s.heap.objs.size ns 10) (gY g Lg s.heap.objs.size D oD ns 10) 10 (.send .none) s'') ∨
     (0 < j ∧ ∃ oI, ext = [(s.heap.objs.size, oI)] ∧ ∀ s'' : Shared, s''.heap.get? Lg = some oL → s''.heap.get? s.heap.objs.size = some oI → s''.heap.get? D = some oD → (∀ b o, g.get? b = some o → s''.heap.get? b = some o) →
        gs.Goes (model Challenge.rw_nb0109_01.row.prog w) A.in1 (gR Lg s.heap.objs.size ns 10) (gY g Lg s.heap.objs.size D oD ns 10) n (.send .none) s''))

theorem ints_snoc {vs : List Value} {xs : List Int} (h : IntsAre vs xs) (x : Int) (t : Tok) : IntsAre (vs ++ [.int x t]) (xs ++ [x]) := h.append (.cons _ _ .nil)
theorem bare_set {gs : Array GenState} (h : AllBare gs) (k : Nat) {x : GenState} (hx : x.bare = true) : AllBare (gs.setIfInBounds k x) := by
  intro y hy
  rcases Array.mem_or_eq_of_mem_setIfInBounds hy with h1 | h1
  · exact h y h1
  · rw [h1]; exact hx
theorem bare_push {gs : Array GenState} (h : AllBare gs) {x : GenState} (hx : x.bare = true) : AllBare (gs.push x) := by
  intro y hy
  rcases Array.mem_push.mp hy with h1 | h1
  · exact h y h1
  · rw [h1]; exact hx

theorem marks_loop (w : World) {A : Around} (hA : A.handled = none) (hroom : A.depth < recursionLimit) {g : Heap} {L' f : Addr} {nm : Str} {sc : Scope} {cd : Value} (hk : sc.kind = .function) (hx : (envOf nm sc L' f cd).kindOf "size" = some .local)
    {px : Pos} {body : List Stmt} {M a Lg D : Addr} {oD oa oL₀ : Obj} {gs₀ : GenState} {ns : List Int} {led : List (Addr × Obj)} {m₀ : Str → Option Value} {R : Result → Shared → Prop} {s : Shared} {tw₀ : Tok} {k0 : Nat}
    (hpos : ∀ k x, gseq ns none k = some x → 1 ≤ x) (hlim : s.heap.NoLimit) (F : Fr g L' s.heap m₀) (hw : m₀ "whole" = some (.int 0 tw₀)) (N : News g L' s.heap ((M, listOf #[] 0) :: (a, oa) :: (Lg, oL₀) :: led))
    (hgen : ∀ h2 : Heap, h2.get? a = some oa → h2.IsGen a k0) (hgs : s.gens[k0]? = some gs₀) (hD : (D, oD) ∈ led)
    (hM : M < Lg) (hMl : ∀ q ∈ led, q.1 ≠ M) (hled : ∀ q ∈ led, q.1 < Lg) (hL : L' < Lg) (hLa : Lg < a) (has : a < s.heap.objs.size) (hNol : ∀ h2 : Heap, (∀ b o, g.get? b = some o → h2.get? b = some o) → h2.NoLimit)
    (hgo : ∀ (A' : Around) (N : Nat) (s' : Shared), A'.handled = none → 0 < N → s'.heap = s.heap → gs₀.Goes (model Challenge.rw_nb0109_01.row.prog w) A' (gR Lg s.heap.objs.size ns N) (gY g Lg s.heap.objs.size D oD ns N) N (.send .none) s')
    (turn : ∀ (x wh : Int) (t tw : Tok) (us : List Value) (un : Nat) (u : Str → Option Value) (led' : List (Addr × Obj)) (s1 : Shared), us.length ≤ 100 → (∀ q ∈ led', q.1 ≠ M) →
      Fr g L' s1.heap (fun y => if y = "size" then some (.int x t) else kstB (fun z => if (["size"] : List Str).contains z then u z else m₀ z) [("whole", .int wh tw)] y) → News g L' s1.heap ((M, listOf us.toArray un) :: led') →
      wpAny (model Challenge.rw_nb0109_01.row.prog w) A (execs body (envOf nm sc L' f cd)) (MTurn g L' m₀ M led' us un wh x s1) (fun _ _ => False) s1)
    (fin : ∀ (b : Bool) (u : Str → Option Value) (wh : Int) (tw : Tok) (ws : List Value) (un : Nat) (h : Heap) (tk : Nat) (gens' : Array GenState), IntsAre ws (marksF ns) → (AllBare s.gens → AllBare gens') →
      Fr g L' h (kstB (fun z => if (["size"] : List Str).contains z then u z else m₀ z) [("whole", .int wh tw)]) → News g L' h ((M, listOf ws.toArray un) :: led) → R (.ok (if b then .ret (.ref M) else .next)) { s with heap := h, toks := tk, gens := gens' }) :
    codeAny (model Challenge.rw_nb0109_01.row.prog w) A (.forLoop (.Name "size" px) (.ref a) body [] (envOf nm sc L' f cd)) R s := by
  have hLgI : Lg < s.heap.objs.size := Nat.lt_trans hLa has
  have hLI : L' < s.heap.objs.size := Nat.lt_trans hL hLgI
  have hMI : M < s.heap.objs.size := Nat.lt_trans hM hLgI
  refine codeAny_forLoop (MInv w A g L' m₀ M a Lg D oD oa ns led k0 s) ?turn 10 ?init
  case init =>
    refine ⟨0, 0, tw₀, m₀, [], [], 0, oL₀, gs₀, s.heap, s.toks, s.gens, [], rfl, by omega, by omega, .nil, rfl, rfl, rfl, hgs, id, ?_, N, .inl ⟨rfl, rfl, fun s'' e => hgo A.in1 10 s'' hA (by omega) e⟩⟩
    exact ksw_fr (ps := [("whole", .int 0 tw₀)]) (by intro q hq; rw [List.mem_singleton.mp hq]; exact hw) (fun _ _ _ => rfl) F
  case turn =>
    rintro n s' ⟨j, wh, tw, u, acc, us, un, oL, gs, h', tk, gens', ext, hnj, hwh, hjw, hus, hacc, hmk, rfl, hg1, hbare, F1, N1, hph⟩
    obtain ⟨n, rfl⟩ : ∃ k, n = k + 1 := ⟨n - 1, by omega⟩
    have hDm : h'.get? D = some oD := (N1 (D, oD) (.tail _ (.tail _ (.tail _ (List.mem_append_right _ hD))))).1
    have hLm : h'.get? Lg = some oL := (N1 (Lg, oL) (.tail _ (.tail _ (.head _)))).1
    have ham : h'.get? a = some oa := (N1 (a, oa) (.tail _ (.head _))).1
    have goNow : ∀ s'' : Shared, s''.heap = h' → gs.Goes (model Challenge.rw_nb0109_01.row.prog w) A.in1 (gR Lg s.heap.objs.size ns 10) (gY g Lg s.heap.objs.size D oD ns 10) (n + 1) (.send .none) s'' := by
      intro s'' e
      rcases hph with ⟨hj0, _, h1⟩ | ⟨_, oI, he, h1⟩
      · have : n + 1 = 10 := by omega
        rw [this]; exact h1 s'' e
      · subst he
        have hIm : h'.get? s.heap.objs.size = some oI := (N1 (s.heap.objs.size, oI) (.tail _ (.tail _ (.tail _ (.head _))))).1
        refine h1 s'' (by rw [e]; exact hLm) (by rw [e]; exact hIm) (by rw [e]; exact hDm) (by rw [e]; exact F1.keep)
    have gAbove : ∀ b o, g.get? b = some o → b < L' := fun b o e => Nat.lt_of_lt_of_le (Heap.lt_size e) F1.above
    have gNone : ∀ b, L' < b → g.get? b = none := fun b hb => Heap.get?_none_of_le (Nat.le_trans F1.above (Nat.le_of_lt hb))
    -- what stands behind a step of the generator
    have step : ∀ (h1 : Heap) (oL' oI' : Obj), (∀ b o, b ≠ Lg → b ∉ [s.heap.objs.size] → h'.get? b = some o → h1.get? b = some o) → h1.get? Lg = some oL' → h1.get? s.heap.objs.size = some oI' →
        Fr g L' h1 (kstB (fun z => if (["size"] : List Str).contains z then u z else m₀ z) [("whole", .int wh tw)]) ∧ News g L' h1 ((M, listOf us.toArray un) :: (a, oa) :: (Lg, oL') :: ([(s.heap.objs.size, oI')] ++ led)) := by
      intro h1 oL' oI' kp e1 e2
      have off : ∀ b, b ≠ Lg → b < s.heap.objs.size → ∀ o, h'.get? b = some o → h1.get? b = some o := fun b h2 h3 o e => kp b o h2 (fun q => by rw [List.mem_singleton.mp q] at h3; exact Nat.lt_irrefl _ h3) e
      refine ⟨⟨ns_of_get F1.ns fun o e => off L' (Nat.ne_of_lt hL) (Nat.lt_trans hL (Nat.lt_trans hLa has)) o e, fun b o e => ?_, F1.above⟩, ?_⟩
      · have hb := gAbove b o e
        exact off b (Nat.ne_of_lt (Nat.lt_trans hb hL)) (Nat.lt_trans hb (Nat.lt_trans hL (Nat.lt_trans hLa has))) o (F1.keep b o e)
      · intro q hq
        rcases List.mem_cons.mp hq with rfl | hq
        · have := N1 _ (.head _)
          exact ⟨off M (Nat.ne_of_lt hM) (Nat.lt_trans hM (Nat.lt_trans hLa has)) _ this.1, this.2⟩
        rcases List.mem_cons.mp hq with rfl | hq
        · have := N1 (a, oa) (.tail _ (.head _))
          exact ⟨off a (Nat.ne_of_gt hLa) has _ this.1, this.2⟩
        rcases List.mem_cons.mp hq with rfl | hq
        · have := N1 (Lg, oL) (.tail _ (.tail _ (.head _)))
          exact ⟨e1, this.2⟩
        rcases List.mem_cons.mp hq with rfl | hq
        · exact ⟨e2, Nat.ne_of_gt (Nat.lt_trans hL (Nat.lt_trans hLa has)), gNone _ (Nat.lt_trans hL (Nat.lt_trans hLa has))⟩
        · have := N1 q (.tail _ (.tail _ (.tail _ (List.mem_append_right _ hq))))
          exact ⟨off q.1 (Nat.ne_of_lt (hled q hq)) (Nat.lt_trans (hled q hq) (Nat.lt_trans hLa has)) _ this.1, this.2⟩
    refine pyNext_genQ (n := n + 1) (gs := gs) (P := gP Lg s.heap.objs.size ns 10) (Y := gY g Lg s.heap.objs.size D oD ns 10) hA (hNol _ F1.keep) hroom (hgen _ ham) hg1 (goNow _ rfl) ?hY ?hP
    case hP =>
      rintro s₁ ⟨hq, h1, tk1, rfl, kp⟩ h2 hk2
      dsimp only
      refine wpAny_execs_nil ?_
      have hmk2 : marksF ns = acc := by
        rw [hmk]
        show acc ++ (match gseq ns none j with | none => [] | some x => _) = acc
        rw [show j = 10 - (n + 1) by omega, hq]
        simp
      refine fin false u wh tw us un h2 tk1 _ (by rw [hmk2]; exact hus) (fun hb => bare_set (bare_set (hbare hb) _ rfl) _ rfl) ?_ ?_
      · refine ⟨ns_of_get F1.ns fun o e => hk2 _ _ (kp L' o (Nat.ne_of_lt hL) (fun q => ?_) e), fun b o e => hk2 _ _ (kp b o ?_ (fun q => ?_) (F1.keep b o e)), F1.above⟩
        · exact Nat.ne_of_lt hLI (List.mem_singleton.mp q)
        · exact Nat.ne_of_lt (Nat.lt_trans (gAbove b o e) hL)
        · exact Nat.ne_of_lt (Nat.lt_trans (gAbove b o e) hLI) (List.mem_singleton.mp q)
      · intro q hq'
        rcases List.mem_cons.mp hq' with rfl | hq'
        · have := N1 _ (.head _)
          exact ⟨hk2 _ _ (kp M _ (Nat.ne_of_lt hM) (fun q => Nat.ne_of_lt hMI (List.mem_singleton.mp q)) this.1), this.2⟩
        · have := N1 q (.tail _ (.tail _ (.tail _ (List.mem_append_right _ hq'))))
          have hl := hled q hq'
          exact ⟨hk2 _ _ (kp q.1 _ (Nat.ne_of_lt hl) (fun q' => Nat.ne_of_lt (Nat.lt_trans hl hLgI) (List.mem_singleton.mp q')) this.1), this.2⟩
    case hY =>
      rintro v s₁ gs' hb ⟨⟨x, t, rfl, hq⟩, ⟨h1, tk1, rfl, kp⟩, ⟨oL', oI', e1, e2⟩, hnext⟩
      have hqj : gseq ns none j = some x := by rw [← hq]; congr 1; omega
      have hx1 := hpos j x hqj
      obtain ⟨F2, N2⟩ := step h1 oL' oI' kp e1 e2
      dsimp only
      refine wpAny_assign_Name ?_
      refine stN F2 N2 (fun h3 F3 N3 => ?_) hk hx
      have hmk2 : marksF ns = acc ++ (if wh + x ≥ 9 then [wh + x] else (wh + x) :: mkGo (gseq ns none) n (j + 1) (wh + x)) := by
        rw [hmk]
        show acc ++ (match gseq ns none j with | none => [] | some x => _) = _
        rw [hqj]
      have hul : us.length = j := by rw [hus.length]; exact hacc
      refine wpAny_mono (turn x wh t tw us un u _ _ (by omega) ?_ F3 N3) ?_ (fun _ _ e => e.elim)
      · intro q hq'
        rcases List.mem_cons.mp hq' with rfl | hq'
        · exact Nat.ne_of_gt (Nat.lt_trans hM hLa)
        rcases List.mem_cons.mp hq' with rfl | hq'
        · exact Nat.ne_of_gt hM
        rcases List.mem_cons.mp hq' with rfl | hq'
        · exact Nat.ne_of_gt hMI
        · exact hMl q hq'
      · rintro f s₃ ⟨h4, tk4, tv, tw4, u4, rfl, F4, N4, hf⟩
        by_cases h9 : wh + x ≥ 9
        · rw [if_pos h9] at hf hmk2
          subst hf
          dsimp only
          refine fin true u4 (wh + x) tw4 (us ++ [Value.int (wh + x) tv]) (un + 1) h4 tk4 _ (by rw [hmk2]; exact ints_snoc hus _ tv) (fun hb' => bare_set (bare_set (hbare hb') _ rfl) _ hb) F4 ?_
          intro q hq'
          rcases List.mem_cons.mp hq' with rfl | hq'
          · exact N4 _ (.head _)
          · exact N4 q (.tail _ (.tail _ (.tail _ (.tail _ hq'))))
        · rw [if_neg h9] at hf hmk2
          subst hf
          dsimp only
          refine ⟨n, Nat.lt_succ_self _, j + 1, wh + x, tw4, u4, acc ++ [wh + x], us ++ [.int (wh + x) tv], un + 1, oL', gs', h4, tk4, _, [(s.heap.objs.size, oI')], by omega, by omega, by omega, ints_snoc hus _ tv, by simp [hacc], by rw [hmk2]; simp, rfl, ?_, (fun hb' => bare_set (bare_set (hbare hb') _ rfl) _ hb), F4, N4, .inr ⟨by omega, oI', rfl, ?_⟩⟩
          · have hk0 : k0 < gens'.size := by
              rw [Array.getElem?_eq_some_iff] at hg1
              exact hg1.1
            simp [Shared.setGen, hk0]
          · intro s'' k1 k2 k3 k4
            have := hnext.resolve_left (by omega) s'' (fun b o hb' e => by
              rcases hb' with rfl | rfl
              · rw [e1] at e; rw [← Option.some.inj e]; exact k1
              · rw [e2] at e; rw [← Option.some.inj e]; exact k2) k3 k4
            exact this


set_option maxRecDepth 100000 in
set_option maxHeartbeats 8000000 in
theorem marks_ok (w : World) (p : Program) (loose : List Str) (mean : ExcName → Option Value) (mg mb : Str → Option Value) (news : List (Addr × Obj))
    (D : Addr) (vs : List Value) (nn : Nat) (ns : List Int) (t1 : Tok) (hm : (D, listOf vs.toArray nn) ∈ news) (hi : IntsAre vs ns) (h0 : ns.head? ≠ some 0) (hpos : ∀ k x, gseq ns none k = some x → 1 ≤ x)
    (dp un : Nat) (gd : Option (List Code)) (cn : Str) (cs : Scope) (a : Addr) (ccd : Value) (cl : List (Str × Addr)) (outer : List Env) (A₀ : Around) (base h₀ : Heap) (L : Addr) (m : Str → Option Value) (s : Shared) (Q E : Value → Shared → Prop)
    (hB : Below A₀ base outer h₀) (hF : Fr h₀ L s.heap m) (hX : (Mine.hd.heap_39 w.params).In h₀) (hN : News h₀ L s.heap news) (hT : Top p loose mean mg mb h₀) (hk : cs.kind = .function)
    (hdp : dp + 3 < recursionLimit) (hun : un + 24 < cLine) 
    (hret : ∀ (M : Addr) (ws : List Value) (n : Nat) (h' : Heap) (tk' : Nat) (gens' : Array GenState), IntsAre ws (marksF ns) → (AllBare s.gens → AllBare gens') → (∀ q ∈ news, q.1 < M) → Fr h₀ L h' m → News h₀ L h' ((M, listOf ws.toArray n) :: news) → Q (.ref M) { s with heap := h', toks := tk', gens := gens' }) :
    wpAny (model Challenge.rw_nb0109_01.row.prog w) (ktrTop dp un gd cn cs L a ccd cl outer) (call (.ref 72) [.ref D, .int 9 t1]) Q E s := by
  k_with_none
  (k_with "exec For Name Call cons nil" => (refine Halt.out ?_))
  (k_with "call ref" => (refine Halt.out ?_))
  (k_with "MTurn" => (refine Halt.out ?_))
  (k_with "call builtin:list.append" => (k_dflt (refine' append_K ?k1 ?k2 (Upd.head ?k3) ?_ ?z; (case k1 => k_asm); (case k2 => k_asm); (case k3 => assumption); (case z => (rw [List.size_toArray, sizeLine_eq]; omega)); k_whole); intro h' F' N'; (try k_sweep)))
  revert hX; k_fill; intro hX
  refine wpAny_call ?_
  k_dflt (refine' code_def (binds := [("row", .ref D), ("figures", .int 9 t1)]) ?k1 ?k2 ?k3 ?k4 ?k5 ?kA ?kF ?kK ?k6 ?k7 ?k8 ?k9 ?kB ?_ ?c2 ?c3 ?c4 ?c5; (case kA => exact rfl); (case kF => exact rfl); (case kK => assumption); (case k1 => k_asm); (case k2 => k_asm); (case k3 => k_asm); (case k4 => k_asm); (case k5 => k_asm); (case k6 => k_is); (case k7 => k_is); (case k8 => ktr_room); (case k9 => exact BindsTo.of_eq rfl); (case c5 => decide); (case kB => exact locs rfl); (case c2 => exact rfl); (case c3 => exact rfl); (case c4 => exact rfl); k_whole; intro g' L' h' FG' F' N' B' X' T'; (try dsimp only); (try k_fold))
  k_steps
  unfold Halt
  refine wpAny_For ?_
  k_steps
  unfold Halt
  rename Fr _ _ _ _ => F
  rename News _ _ _ _ => N
  rename ∀ q ∈ news, q.1 < _ => hlt0
  refine gen_call w p loose mean mg mb (by ktr_room) D vs nn ns (.tail _ (.tail _ hm)) hi h0 F N X' T' ?_
  intro Lg a2 oL oa gs h2 tk2 hb2 hgen2 hlt2 hL2 hLa2 has2 hgo2 F2 N2
  try dsimp only
  refine wpAny_pyIter_gen (hgen2 _ (N2 _ (.head _)).1) ?_
  refine marks_loop w (by rfl) (by ktr_room) (by rfl) (by rfl) hpos (T'.nolimit.keeps F2.keep) F2 (by rfl) (led := news) (oL₀ := oL) (kst_newsOf N2 ?_) hgen2 (by simp) hm (hlt2 _ (.tail _ (.head _))) (fun q hq => Nat.ne_of_lt (hlt0 q hq)) (fun q hq => hlt2 q (.tail _ (.tail _ hq))) hL2 hLa2 has2 (fun h3 k => T'.nolimit.keeps k) hgo2 ?turn ?fin
  · intro q hq
    rcases List.mem_cons.mp hq with rfl | hq
    · exact .tail _ (.tail _ (.tail _ (.head _)))
    rcases List.mem_cons.mp hq with rfl | hq
    · exact .head _
    rcases List.mem_cons.mp hq with rfl | hq
    · exact .tail _ (.head _)
    · exact .tail _ (.tail _ (.tail _ (.tail _ hq)))
  case turn =>
    clear F N F2 N2
    intro x wh t tw us un u led' s1 hul hne F N
    dsimp only [kstB] at F
    k_steps
    · unfold Halt
      rename News _ _ _ _ => nE
      rename Fr _ _ _ _ => fE
      simp only [List.push_toArray] at nE
      refine ⟨_, _, _, _, _, rfl, ksw_fr (by kst_all) (by ksw_same) fE, nE, ?_⟩
      rw [if_pos (by assumption)]
    · unfold Halt
      rename News _ _ _ _ => nE
      rename Fr _ _ _ _ => fE
      simp only [List.push_toArray] at nE
      refine ⟨_, _, _, _, _, rfl, ksw_fr (by kst_all) (by ksw_same) fE, nE, ?_⟩
      rw [if_neg (by assumption)]
  case fin =>
    clear F N F2 N2
    intro b u wh tw ws un h3 tk3 gens3 hws hbare F N
    dsimp only [kstB] at F
    have hb3 : AllBare s.gens → AllBare gens3 := fun h => hbare (bare_push h hb2)
    cases b
    · show wpAny _ _ _ _ _ _
      try k_fold
      k_steps
      exact hret _ ws un h3 _ gens3 hws hb3 hlt0 (by assumption) (by assumption)
    · rw [if_pos rfl]
      dsimp only
      k_steps
      exact hret _ ws un h3 _ gens3 hws hb3 hlt0 (by assumption) (by assumption)
end Mine
end

theorem Mine.part_lam : True := by
  w_top off
  k_with_none
  trivial
section
open PySem PySem.W PyProof.Rows PySem.Spec PySem.Calls
namespace Mine

/-- the ledger's part V holds a code table (its lambdas' codes beside it) -/
def TabIn (P : Addr) (q : Str) (V : List (Addr × Obj)) : Prop :=
  ∃ ps, (P, tabObj ps) ∈ V ∧ TriplesOk ps.toList ∧ ∀ pos c, codeAmong pos ps.toList = some c → ∃ c' oc vs t, c = .ref c' ∧ c' ≠ P ∧ (c', oc) ∈ V ∧ oc.data = .fields vs ∧ vs[1]? = some (.str q t)

def retab (P : Addr) (o : Obj) (V : List (Addr × Obj)) : List (Addr × Obj) := V.map fun q => if q.1 = P then (P, o) else q
theorem retab_mem {P : Addr} {o : Obj} {V : List (Addr × Obj)} {q : Addr × Obj} (h : q ∈ V) (hq : q.1 ≠ P) : q ∈ retab P o V :=
  List.mem_map.mpr ⟨q, h, if_neg hq⟩
theorem retab_self {P : Addr} {o o' : Obj} {V : List (Addr × Obj)} (h : (P, o') ∈ V) : (P, o) ∈ retab P o V :=
  List.mem_map.mpr ⟨_, h, if_pos rfl⟩
theorem of_retab {P : Addr} {o : Obj} {V : List (Addr × Obj)} {q : Addr × Obj} (h : q ∈ retab P o V) : (q = (P, o) ∧ ∃ o', (P, o') ∈ V) ∨ (q ∈ V ∧ q.1 ≠ P) := by
  obtain ⟨r, hr, e⟩ := List.mem_map.mp h
  by_cases hp : r.1 = P
  · rw [if_pos hp] at e
    exact .inl ⟨e.symm, r.2, by rw [← hp]; exact hr⟩
  · rw [if_neg hp] at e
    subst e
    exact .inr ⟨hr, hp⟩
theorem triples_snoc {a b : Int} {t u : Tok} {c : Value} : ∀ (l : List Value), TriplesOk l → TriplesOk (l ++ [.int a t, .int b u, c])
  | [], _ => by simp [TriplesOk]
  | .int _ _ :: .int _ _ :: _ :: rest, h => triples_snoc rest h
theorem among_snoc {pos : Pos} {a b : Int} {t u : Tok} {c d : Value} : ∀ (l : List Value), TriplesOk l → codeAmong pos (l ++ [.int a t, .int b u, c]) = some d → codeAmong pos l = some d ∨ d = c
  | [], _, h => by
    simp only [List.nil_append, codeAmong] at h
    split at h
    · exact .inr (Option.some.inj h).symm
    · cases h
  | .int x tx :: .int y ty :: z :: rest, ht, h => by
    simp only [List.cons_append, codeAmong] at h ⊢
    split
    · rename_i hc
      rw [if_pos hc] at h
      exact .inl h
    · rename_i hc
      rw [if_neg hc] at h
      exact among_snoc rest ht h

theorem lamW {M : Model} {A : Around} {E : Value → Shared → Prop} {s : Shared} {h₀ : Heap} {L a c P : Addr} {m mg mb : Str → Option Value} {cn : Str} {cs : Scope} {ccd : Value} {cl : List (Str × Addr)} {p : Program} {loose : List Str} {mean : ExcName → Option Value}
    {params : Arguments} {body : Expr} {scope : Scope} {pos : Pos} {clos : List (Str × Addr)} {front V : List (Addr × Obj)} {qual : Str} {Q : Value → Shared → Prop}
    (F : Fr h₀ L s.heap m) (N : News h₀ L s.heap (front ++ V)) (T : Top p loose mean mg mb h₀) (C : CodeHd h₀ c P) (hcd : ccd = .ref c) (hfr : ∀ q ∈ front, q.1 ≠ P) (TI : TabIn P qual V)
    (hq : (envX cn cs L a ccd cl).qual ++ "<lambda>" = qual) (hdef : defaultsOf params (envX cn cs L a ccd cl) = ([], [])) (hcl : closureFor scope (envX cn cs L a ccd cl) = pure clos)
    (h : ∀ (f c' : Addr) (ctv : Value) (V' : List (Addr × Obj)) (h' : Heap) (tk : Nat), Fr h₀ L h' m → News h₀ L h' ((f, kla_obj "<lambda>" qual params body scope clos ((mg "__name__").getD .none) c' ctv) :: (front ++ V')) → TabIn P qual V' →
      (∀ q ∈ V, q.1 ≠ P → q ∈ V') → (∀ q ∈ front ++ V', q.1 < f) → (∃ oc vs t, (c', oc) ∈ V' ∧ oc.data = .fields vs ∧ vs[1]? = some (.str qual t)) → (∀ q ∈ V', (∃ o, (q.1, o) ∈ V) ∨ s.heap.objs.size ≤ q.1) → Q (.ref f) { s with heap := h', toks := tk }) :
    wpAny M A (eval (.Lambda params body scope pos) (envX cn cs L a ccd cl)) Q E s := by
  refine kla_eval hdef ?_
  rw [hq]
  obtain ⟨ps, hP, ht, hcodes⟩ := TI
  have hm := N (P, tabObj ps) (List.mem_append_right _ hP)
  have hgs := T.g.keeps F.keep
  obtain ⟨bm, ob, b1, b2, b3, b4, b5, b6⟩ := T.bmain
  have hgP : mainGlobals ≠ P := fun q => by
    obtain ⟨o, es, ep, e, hd, _⟩ := hgs
    rw [q, hm.1] at e; cases e; cases hd
  have hbP : bm ≠ P := fun q => by
    have e := F.keep _ _ b3
    rw [q, hm.1] at e; cases e; cases b4
  have hbG : bm ≠ mainGlobals := fun q => by
    obtain ⟨o, es, ep, e, hd, _⟩ := T.g
    rw [q, e] at b3; cases b3; rw [hd] at b6; cases b6
  have hLs : L < s.heap.objs.size := F.ns.lt
  have fresh : ∀ b, L < b → h₀.get? b = none := fun b hb => Heap.get?_none_of_le (Nat.le_trans F.above (Nat.le_of_lt hb))
  cases hca : codeAmong pos ps.toList with
  | some cv =>
    obtain ⟨c', oc, vs, t, rfl, hc'P, hc', hod, hov⟩ := hcodes pos cv hca
    refine kla_makeFunctionHit (mg := mg) hcl rfl hgs hcd (C.keeps F.keep) hm.1 ht hca ⟨bm, ob, b1, b2, hbG, hbP, F.keep _ _ b3, b4, b5, b6⟩ fun ctv h' tk hk hsz => ?_
    have hLs' : L < h'.objs.size := Nat.lt_of_lt_of_le hLs hsz
    refine h h'.objs.size c' ctv V _ tk ⟨(F.ns.keeps hk).push _, fun b o e => Heap.get?_push_of_some _ (hk b o (F.keep b o e)), F.above⟩ (fun q hq => ?_) ⟨ps, hP, ht, hcodes⟩ (fun q hq _ => hq) (fun q hq => Nat.lt_of_lt_of_le (Heap.lt_size (N q hq).1) hsz) ⟨oc, vs, t, hc', hod, hov⟩ (fun q hq => .inl ⟨q.2, hq⟩)
    rcases List.mem_cons.mp hq with rfl | hq
    · exact ⟨Heap.get?_push_size _ rfl, Nat.ne_of_gt hLs', fresh _ hLs'⟩
    · exact ⟨Heap.get?_push_of_some _ (hk _ _ (N q hq).1), (N q hq).2⟩
  | none =>
    refine kla_makeFunction (mg := mg) hcl rfl hgs hcd (C.keeps F.keep) hm.1 ht hca hgP ⟨bm, ob, b1, b2, hbG, hbP, F.keep _ _ b3, b4, b5, b6⟩ fun c' ctv h' tk hx hge hlt hrec htb => ?_
    obtain ⟨c₂, oc, vs, t, e2, hoc, hd, hv⟩ := hrec
    cases e2
    have hLc : L < c' := Nat.lt_of_lt_of_le hLs hge
    have old : ∀ b o, h₀.get? b = some o → h'.get? b = some o := fun b o e => hx b o (fun q => by rw [q, hm.2.2] at e; cases e) (F.keep b o e)
    have hc'P : c' ≠ P := fun e => Nat.lt_irrefl _ (Nat.lt_of_lt_of_le (Heap.lt_size hm.1) (e ▸ hge))
    have hmem : ∀ q ∈ front ++ ((c', oc) :: retab P (tabObj (ps ++ #[rawInt pos.line, rawInt pos.col, .ref c'])) V), h'.get? q.1 = some q.2 ∧ q.1 ≠ L ∧ h₀.get? q.1 = none := by
      intro q hq
      rcases List.mem_append.mp hq with hq | hq
      · have n := N q (List.mem_append_left _ hq)
        exact ⟨hx _ _ (hfr q hq) n.1, n.2⟩
      rcases List.mem_cons.mp hq with rfl | hq
      · exact ⟨hoc, Nat.ne_of_gt hLc, fresh _ hLc⟩
      rcases of_retab hq with ⟨rfl, _⟩ | ⟨hq, hqP⟩
      · exact ⟨htb, hm.2⟩
      · have n := N q (List.mem_append_right _ hq)
        exact ⟨hx _ _ hqP n.1, n.2⟩
    refine h h'.objs.size c' ctv ((c', oc) :: retab P (tabObj (ps ++ #[rawInt pos.line, rawInt pos.col, .ref c'])) V) _ tk ⟨(F.ns.extBut hx hm.2.1.symm).push _, fun b o e => Heap.get?_push_of_some _ (old b o e), F.above⟩ (fun q hq => ?_) ⟨_, .tail _ (retab_self hP), ?_, ?_⟩ (fun q hq hqP => .tail _ (retab_mem hq hqP)) (fun q hq => Heap.lt_size (hmem q hq).1) ⟨oc, vs, t, .head _, hd, hv⟩ ?_
    · rcases List.mem_cons.mp hq with rfl | hq
      · exact ⟨Heap.get?_push_size _ rfl, Nat.ne_of_gt (Nat.lt_trans hLc hlt), fresh _ (Nat.lt_trans hLc hlt)⟩
      · exact ⟨Heap.get?_push_of_some _ (hmem q hq).1, (hmem q hq).2⟩
    · have := triples_snoc (a := pos.line) (b := pos.col) (t := 0) (u := 0) (c := .ref c') ps.toList ht
      simpa [rawInt] using this
    · intro pos' d hd'
      have hd2 : codeAmong pos' (ps.toList ++ [.int pos.line 0, .int pos.col 0, .ref c']) = some d := by simpa [rawInt] using hd'
      rcases among_snoc ps.toList ht hd2 with hd3 | rfl
      · obtain ⟨c'', oc', vs', t', e, hne, hin, r⟩ := hcodes pos' d hd3
        exact ⟨c'', oc', vs', t', e, hne, .tail _ (retab_mem hin hne), r⟩
      · exact ⟨c', oc, vs, t, rfl, hc'P, .head _, hd, hv⟩
    · intro q hq
      rcases List.mem_cons.mp hq with rfl | hq
      · exact .inr hge
      rcases of_retab hq with ⟨rfl, o', ho'⟩ | ⟨hq, _⟩
      · exact .inl ⟨o', ho'⟩
      · exact .inl ⟨q.2, hq⟩
theorem lamV {M : Model} {A : Around} {E : Value → Shared → Prop} {s : Shared} {h₀ : Heap} {L a c P : Addr} {m mg mb : Str → Option Value} {cn : Str} {cs : Scope} {ccd : Value} {cl : List (Str × Addr)} {p : Program} {loose : List Str} {mean : ExcName → Option Value}
    {params : Arguments} {body : Expr} {scope : Scope} {pos : Pos} {clos : List (Str × Addr)} {front V : List (Addr × Obj)} {qual : Str} {Q : Value → Shared → Prop}
    (F : Fr h₀ L s.heap m) (N : News h₀ L s.heap (front ++ V)) (T : Top p loose mean mg mb h₀) (C : CodeHd h₀ c P) (hcd : ccd = .ref c) (hfr : ∀ q ∈ front, q.1 ≠ P) (TI : TabIn P qual V)
    (hq : (envX cn cs L a ccd cl).qual ++ "<lambda>" = qual) (hdef : defaultsOf params (envX cn cs L a ccd cl) = ([], [])) (hcl : closureFor scope (envX cn cs L a ccd cl) = pure clos)
    (h : ∀ (f c' : Addr) (ctv : Value) (V' : List (Addr × Obj)) (h' : Heap) (tk : Nat), Fr h₀ L h' m → News h₀ L h' ((f, kla_obj "<lambda>" qual params body scope clos ((mg "__name__").getD .none) c' ctv) :: (front ++ V')) → TabIn P qual V' →
      (∀ q ∈ V, q.1 ≠ P → q ∈ V') → (∀ q ∈ front ++ V', q.1 < f) → (∃ oc vs t, (c', oc) ∈ V' ∧ oc.data = .fields vs ∧ vs[1]? = some (.str qual t)) → Q (.ref f) { s with heap := h', toks := tk }) :
    wpAny M A (eval (.Lambda params body scope pos) (envX cn cs L a ccd cl)) Q E s :=
  lamW F N T C hcd hfr TI hq hdef hcl fun f c' ctv V' h' tk x1 x2 x3 x4 x5 x6 _ => h f c' ctv V' h' tk x1 x2 x3 x4 x5 x6

theorem codeHd_of {K : Frag} {h : Heap} {c P : Addr} {oc : Value} {d : Option Addr} {vs : Array Value} {sl : Array (Option Value)} {file : Str} {tf tg tt : Tok} {flags text : Int} {inF : Bool} (X : K.In h)
    (ho : K.lookup c = some ⟨oc, d, .fields vs, sl⟩) (h0 : oc = .type "code") (h1 : vs[11]? = some (.ref P)) (h2 : vs.getD 11 .none = .ref P) (h3 : vs.getD 18 .none = .str file tf) (h4 : vs.getD 7 .none = .int flags tg) (h5 : vs.getD 9 .none = .bool inF) (h6 : vs.getD 10 .none = .int text tt) (h7 : c ≠ P) : CodeHd h c P :=
  ⟨_, vs, file, tf, flags, tg, inF, text, tt, X _ _ ho, h0, rfl, h1, h2, h3, h4, h5, h6, h7⟩
end Mine
end

theorem Mine.part_mem : True := by
  w_top off
  k_with_none
  trivial
section
open PySem PySem.W PyProof.Rows PySem.Spec PySem.Calls
namespace Mine

/-- words of membership, kept small -/
theorem all_nil {α : Type} {P : α → Prop} : ∀ q ∈ ([] : List α), P q := fun _ h => nomatch h
theorem all_cons {α : Type} {P : α → Prop} {a : α} {l : List α} (h : P a) (t : ∀ q ∈ l, P q) : ∀ q ∈ a :: l, P q := fun q hq => by
  rcases List.mem_cons.mp hq with rfl | hq
  · exact h
  · exact t q hq
theorem all_app {α : Type} {P : α → Prop} {l r : List α} (h : ∀ q ∈ l, P q) (t : ∀ q ∈ r, P q) : ∀ q ∈ l ++ r, P q := fun q hq => (List.mem_append.mp hq).elim (h q) (t q)
/-- not at the iterator, not at the list told -/
def Off2 (I T : Addr) (V : List (Addr × Obj)) : Prop := ∀ q ∈ V, q.1 ≠ I ∧ q.1 ≠ T
theorem off2_nil {I T : Addr} : Off2 I T [] := fun _ h => nomatch h
theorem off2_cons {I T : Addr} {q : Addr × Obj} {V : List (Addr × Obj)} (h1 : q.1 ≠ I) (h2 : q.1 ≠ T) (t : Off2 I T V) : Off2 I T (q :: V) := all_cons ⟨h1, h2⟩ t
theorem off2_new {I T n : Addr} {V V' : List (Addr × Obj)} (d : Off2 I T V) (hI : I < n) (hT : T < n) (h : ∀ q ∈ V', (∃ o, (q.1, o) ∈ V) ∨ n ≤ q.1) : Off2 I T V' := fun q hq =>
  (h q hq).elim (fun ⟨o, ho⟩ => have z := d (q.1, o) ho; z) (fun z => ⟨Nat.ne_of_gt (Nat.lt_of_lt_of_le hI z), Nat.ne_of_gt (Nat.lt_of_lt_of_le hT z)⟩)
theorem off2_told {I T : Addr} {oI : Obj} {fx V : List (Addr × Obj)} (h : T ≠ I) (h1 : Off2 I T fx) (h2 : Off2 I T V) : ∀ q ∈ (I, oI) :: (fx ++ V), q.1 ≠ T :=
  all_cons (P := fun q : Addr × Obj => q.1 ≠ T) (Ne.symm h) (all_app (P := fun q : Addr × Obj => q.1 ≠ T) (fun q hq => (h1 q hq).2) (fun q hq => (h2 q hq).2))
/-- the iterator has gone on; the rest stands -/
theorem news_step {g : Heap} {L : Addr} {h h' : Heap} {T I : Addr} {oT oI oJ : Obj} {ext fx V : List (Addr × Obj)} (N : News g L h ((T, oT) :: (I, oI) :: (ext ++ (fx ++ V)))) (hs : Heap.SameBut I h h') (hJ : h'.get? I = some oJ) (hTI : T ≠ I)
    (d1 : Off2 I T ext) (d2 : Off2 I T fx) (d3 : Off2 I T V) : News g L h' ((T, oT) :: (I, oJ) :: (ext ++ (fx ++ V))) := fun q hq => by
  rcases List.mem_cons.mp hq with rfl | hq
  · exact ⟨(hs.2 _ hTI).trans (N _ (.head _)).1, (N _ (.head _)).2⟩
  rcases List.mem_cons.mp hq with rfl | hq
  · exact ⟨hJ, (N (I, oI) (.tail _ (.head _))).2⟩
  · have n := N q (.tail _ (.tail _ hq))
    have d : q.1 ≠ I := all_app (P := fun q : Addr × Obj => q.1 ≠ I) (fun q hq => (d1 q hq).1) (all_app (P := fun q : Addr × Obj => q.1 ≠ I) (fun q hq => (d2 q hq).1) (fun q hq => (d3 q hq).1)) q hq
    exact ⟨(hs.2 _ d).trans n.1, n.2⟩
theorem news_gone {g : Heap} {L : Addr} {h h' : Heap} {T I : Addr} {oT oI : Obj} {ext fx V : List (Addr × Obj)} (N : News g L h ((T, oT) :: (I, oI) :: (ext ++ (fx ++ V)))) (hs : Heap.ExtBut I h h') (hTI : T ≠ I)
    (d1 : Off2 I T ext) (d2 : Off2 I T fx) (d3 : Off2 I T V) : News g L h' ((T, oT) :: (ext ++ (fx ++ V))) := fun q hq => by
  rcases List.mem_cons.mp hq with rfl | hq
  · have n := N _ (.head _)
    exact ⟨hs _ _ hTI n.1, n.2⟩
  · have n := N q (.tail _ (.tail _ hq))
    have d : q.1 ≠ I := all_app (P := fun q : Addr × Obj => q.1 ≠ I) (fun q hq => (d1 q hq).1) (all_app (P := fun q : Addr × Obj => q.1 ≠ I) (fun q hq => (d2 q hq).1) (fun q hq => (d3 q hq).1)) q hq
    exact ⟨hs _ _ d n.1, n.2⟩
theorem news_put {g : Heap} {L : Addr} {h : Heap} {q : Addr × Obj} {V W : List (Addr × Obj)} (N : News g L h W) (hq : q ∈ W) (hV : ∀ z ∈ V, z ∈ W) : News g L h (q :: V) := fun z hz => by
  rcases List.mem_cons.mp hz with rfl | hz
  · exact N _ hq
  · exact N _ (hV z hz)
theorem news_all {h₀ : Heap} {L : Addr} {h : Heap} {A V : List (Addr × Obj)} (N : News h₀ L h V) (hA : ∀ q ∈ A, q ∈ V) : News h₀ L h A := fun q hq => N q (hA q hq)
theorem TabIn.mono {P : Addr} {q : Str} {V W : List (Addr × Obj)} (h : TabIn P q V) (hs : ∀ x ∈ V, x ∈ W) : TabIn P q W := by
  obtain ⟨ps, h1, h2, h3⟩ := h
  refine ⟨ps, hs _ h1, h2, fun pos c hc => ?_⟩
  obtain ⟨c', oc, vs, t, e, ne, hin, r⟩ := h3 pos c hc
  exact ⟨c', oc, vs, t, e, ne, hs _ hin, r⟩
/-- a store of a name that is listed leaves the others -/
theorem off_base {st : List Str} {u m₀ : Str → Option Value} : ∀ z, st.contains z = false → (if st.contains z = true then u z else m₀ z) = m₀ z := fun z h => by rw [h]; rfl
theorem off_set {st : List Str} {n : Str} {v : Option Value} {m m₀ : Str → Option Value} (hn : st.contains n = true) (h : ∀ z, st.contains z = false → m z = m₀ z) : ∀ z, st.contains z = false → (if z = n then v else m z) = m₀ z := fun z hz => by
  have e : ¬ z = n := fun q => by rw [q, hn] at hz; cases hz
  rw [if_neg e]; exact h z hz
theorem post_of {X Y : Flow → Shared → Prop} (h : X = Y) {f : Flow} {s : Shared} (q : X f s) : Y f s := h ▸ q
end Mine
end

theorem Mine.part_rng : True := by
  w_top off
  k_with_none
  trivial
section
open PySem PySem.W PyProof.Rows PySem.Spec PySem.Calls
namespace Mine

def idx (n : Nat) : List Int := (List.range n).map fun (i : Nat) => (i : Int)
theorem idx_len (n : Nat) : (idx n).length = n := by simp [idx]
theorem idx_get {n i : Nat} (h : i < n) : (idx n).getD i 0 = (i : Int) := by simp [idx, List.getD_eq_getElem?_getD, h]
theorem carried_ints {ys : List Value} : ∀ {l : List Int}, CarriedAll ys (l.map .int) → IntsAre ys l := by
  intro l h
  have := CarriedAll.intsOf (f := fun a : Int => a) (as := l) h
  simpa using this

theorem list_rangeL {prog : Program} {w : World} {A : Around} {E : Value → Shared → Prop} {s : Shared} {h₀ : Heap} {L : Addr} {m : Str → Option Value} {news : List (Addr × Obj)} {Q : Value → Shared → Prop}
    {r : Addr} {b : Int} {t u v : Tok} {n : Nat} (hh : A.handled = none) (F : Fr h₀ L s.heap m) (N : News h₀ L s.heap news) (hr : IsRange s.heap r 0 b 1 t u v) (hb : b = (n : Int)) (hn : n ≤ 1000)
    (hQ : ∀ (D : Addr) (ws : List Value) (k : Nat) (h' : Heap) (tk : Nat), IntsAre ws (idx n) → (∀ q ∈ news, q.1 < D) → Fr h₀ L h' m → News h₀ L h' ((D, listOf ws.toArray k) :: news) → Q (.ref D) { s with heap := h', toks := tk }) :
    wpAny (model prog w) A (call (.type "list") [.ref r]) Q E s := by
  subst hb
  have hsz : Builtin.Range.rangeSize 0 (n : Int) 1 = (n : Int) := by
    have := rangeSize_nat 0 (n : Int)
    simpa using this
  refine list_rangeD (n := n) hh F N hr (small_one (by omega) (by omega) (by omega) (by omega)) hsz (by omega) (fun h' tk ys F' N' _ hno _ hnp hc => ?_)
  obtain ⟨k, N2, _⟩ := gn_enter hnp F' N' hno
  refine hQ _ ys k h' tk ?_ (fun q hq => Heap.lt_size (N q hq).1) F' N2
  have := carried_ints hc
  have e : rangeInts 0 1 n = idx n := by simp [rangeInts, idx]
  rw [e] at this; exact this
end Mine
end

theorem Mine.part_fits : True := by
  w_top off
  k_with_none
  trivial
section
open PySem PySem.W PyProof.Rows PySem.Spec PySem.Calls
namespace Mine

abbrev q86 : Str := Str.ofString "_law_fits" ++ ".<locals>." ++ "<lambda>"



set_option maxRecDepth 100000 in
set_option maxHeartbeats 8000000 in
theorem fits_ok (w : World) (p : Program) (loose : List Str) (mean : ExcName → Option Value) (mg mb : Str → Option Value) (V : List (Addr × Obj)) (TI : TabIn 86 q86 V)
    (Dl : Addr) (ls : List Value) (nl : Nat) (LS : List Str) (hl : (Dl, listOf ls.toArray nl) ∈ V) (hls : StrsAre ls LS) (hl86 : Dl ≠ 86)
    (Da : Addr) (as : List Value) (na : Nat) (AM : List Int) (ha : (Da, listOf as.toArray na) ∈ V) (has : IntsAre as AM) (ha86 : Da ≠ 86) (hLn : LS.length = 10) (hAn : AM.length = 10)
    (text : Str) (t1 : Tok) (width : Int) (t2 : Tok) (htl : text.length ≤ 100) (hw1 : 1 ≤ width) (hw2 : width ≤ 13)
    (hq1 : ∀ i : Nat, i < 10 → (width < (i : Int) + AM.getD i 0 ↔ figL text.cps.toList width + 1 ≤ i)) (hq2 : ∀ i : Nat, i < 10 → okS (AM.getD i 0) (LS.getD i Str.empty).cps.toList ∧ (LS.getD i Str.empty).length ≤ 100 ∧ (width < ((stripL (AM.getD i 0) (LS.getD i Str.empty).cps.toList).length : Int) ↔ figL text.cps.toList width + 1 ≤ i))
    (hq3 : ∀ i : Nat, i < 10 → ((i : Int) + AM.getD i 0 < width ↔ i < figL text.cps.toList (width - 1) + 1)) (hf1 : figL text.cps.toList width ≤ 9) (hf2 : figL text.cps.toList (width - 1) ≤ 9)
    (dp un : Nat) (gd : Option (List Code)) (cn : Str) (cs : Scope) (a : Addr) (ccd : Value) (cl : List (Str × Addr)) (outer : List Env) (A₀ : Around) (base h₀ : Heap) (L : Addr) (m : Str → Option Value) (s : Shared) (Q E : Value → Shared → Prop)
    (hB : Below A₀ base outer h₀) (hF : Fr h₀ L s.heap m) (hX : (Mine.hd.heap_39 w.params).In h₀) (hN : News h₀ L s.heap V) (hT : Top p loose mean mg mb h₀) (hk : cs.kind = .function)
    (hdp : dp + 4 < recursionLimit) (hun : un + 100 < cLine) 
    (hret : ∀ (V' : List (Addr × Obj)) (h' : Heap) (tk' : Nat), TabIn 86 q86 V' → (∀ q ∈ V, q.1 ≠ 86 → q ∈ V') → Fr h₀ L h' m → News h₀ L h' V' → Q (.bool true) { s with heap := h', toks := tk' }) :
    wpAny (model Challenge.rw_nb0109_01.row.prog w) (ktrTop dp un gd cn cs L a ccd cl outer) (call (.ref 89) [.str text t1, .int width t2, .ref Dl, .ref Da]) Q E s := by
  k_with_none
  (k_with "call ref" => (refine Halt.out ?_))
  (k_with "compareOp NotEq ref ref" => (refine Halt.out ?_))
  (k_with "call builtin:all" => (refine Halt.out ?_))
  (k_with "CompEnd" => ((rename News _ _ _ _ => N'); (k_dflt (refine' LCg.CompEnd.intro ?cF N' ?cV (fun _ h => h) ?cO ?cS ?_; (case cF => k_asm); (case cO => first | assumption | (simp only [LCg.Off3, and_true]; assumption)); (case cS => first | lcg_src | exact Or.inr ⟨_, (by repeat (first | exact List.Mem.head _ | refine List.Mem.tail _ ?_)), rfl, _, rfl⟩)))))
  (k_with "call ref" => ((k_dflt (refine' (figures_ok _ _ _ _ _ _ _ _ _ _ _ ?hlen ?h1 ?h2) _ _ _ _ _ _ _ _ _ _ _ _ _ _ _ _ _ ?hB ?hF ?hX ?hN ?hT ?hK ?hpre ?hd ?hu ?_)); (case hB => k_asm); (case hF => k_asm); (case hX => k_asm); (case hN => k_asm); (case hT => k_asm); (case hK => exact rfl); (case hpre => trivial); (case hd => ktr_room); (case hu => ktr_units); (case hlen => assumption); (case h1 => omega); (case h2 => omega); (intro t9 h9 tk9 F9 N9); (try dsimp only)))
  (k_with "call ref" => ((k_dflt (refine' (strip_ok _ _ _ _ _ _ _ _ _ _ _) _ _ _ _ _ _ _ _ _ _ _ _ _ _ _ _ _ ?hB ?hF ?hX ?hN ?hT ?hK ?hpre ?hd ?hu ?_)); (case hB => k_asm); (case hF => k_asm); (case hX => k_asm); (case hN => k_asm); (case hT => k_asm); (case hK => exact rfl); (case hpre => assumption); (case hd => ktr_room); (case hu => ktr_units); (intro t9 h9 tk9 F9 N9); (try dsimp only)))
  (k_with "subscriptTail" => (refine item_strsA (News.isList (by assumption) (by (repeat (first | assumption | refine List.Mem.tail _ ?_)))) (by assumption) (by omega) (by omega) (by omega) ?_; intro _))
  (k_with "call type:list" => ((rename IsRange _ _ _ _ _ _ _ _ => R'); (k_dflt (refine' list_rangeL (n := 10) ?k0 ?k1 ?k2 R' ?k4 ?k5 ?_; (case k0 => exact rfl); (case k1 => k_asm); (case k2 => k_asm); (case k4 => exact rfl); (case k5 => decide))); intro D9 ws9 n9 h9 tk9 hI9 l9 F9 N9; (try k_sweep)))
  (k_with "eval Lambda" => (refine Halt.out ?_))
  (k_with "eval Name" => (k_dflt (refine' nameX_F ?N ?c ?m ?d ?_ ?a ?b; (case a => rfl); (case b => rfl); (case N => k_asm); (case c => rfl); (case m => (repeat (first | exact List.Mem.head _ | refine List.Mem.tail _ ?_))); (case d => assumption); k_whole)))
  (k_with "subscriptTail" => (refine item_list_ints (News.isList (by assumption) (by (repeat (first | assumption | refine List.Mem.tail _ ?_)))) (by assumption) (by omega) (by omega) (by omega) ?_; intro _))
  revert hX; k_fill; intro hX
  refine wpAny_call ?_
  k_dflt (refine' code_defC (binds := [("text", .str text t1), ("width", .int width t2), ("lines", .ref Dl), ("amounts", .ref Da)]) ?k1 ?k2 ?k3 ?k4 ?k5 ?kA ?kF ?kK ?k6 ?k7 ?k8 ?k9 ?kB ?kD ?_ ?c2 ?c3 ?c4; (case kA => exact rfl); (case kF => exact rfl); (case kK => assumption); (case k1 => k_asm); (case k2 => k_asm); (case k3 => k_asm); (case k4 => k_asm); (case k5 => k_asm); (case k6 => k_is); (case k7 => k_is); (case k8 => ktr_room); (case k9 => exact BindsTo.of_eq rfl); (case kB => exact rfl); (case kD => decide +kernel); (case c2 => exact rfl); (case c3 => exact rfl); (case c4 => exact rfl); k_whole)
  intro g' L' h' tk' cells' FG' F' N' Y' B' X' T' l1
  k_cells Y'
  dsimp only [List.cons_append, List.nil_append] at N'
  try dsimp only
  try k_fold
  rename_i o1 o2 d1 d2
  replace d1 : o1.data = Data.cell (some (.ref Da)) := d1
  replace d2 : o2.data = Data.cell (some (.ref Dl)) := d2
  k_steps
  unfold Halt
  have C88 : CodeHd g' 88 86 := by
    k_dflt (refine' codeHd_of X' ?x1 ?x2 ?x3 ?x4 ?x5 ?x6 ?x7 ?x8 ?x9; (case x1 => k_is); (case x2 => exact rfl); (case x3 => exact rfl); (case x4 => exact rfl); (case x5 => exact rfl); (case x6 => exact rfl); (case x7 => exact rfl); (case x8 => exact rfl); (case x9 => decide))
  rename IntsAre _ (idx 10) => hI
  rename ∀ q ∈ _ :: _ :: V, q.1 < _ => hlD
  obtain ⟨ps0, hP0, _⟩ := id TI
  have h86 := l1 _ hP0
  have hD86 := Nat.ne_of_gt (hlD _ (.tail _ (.tail _ hP0)))
  have hc1 : L' + 1 + 1 ≠ 86 := Nat.ne_of_gt (Nat.lt_succ_of_lt (Nat.lt_succ_of_lt h86))
  have hc2 : L' + 1 ≠ 86 := Nat.ne_of_gt (Nat.lt_succ_of_lt h86)
  rename Fr _ _ _ _ => F
  rename News _ _ _ _ => N
  refine' lamV (front := [_, _, _]) F N T' C88 rfl ?hfr TI rfl rfl rfl ?_
  case hfr =>
    intro q hq
    rcases List.mem_cons.mp hq with rfl | hq
    · exact hD86
    rcases List.mem_cons.mp hq with rfl | hq
    · exact hc1
    rcases List.mem_cons.mp hq with rfl | hq
    · exact hc2
    cases hq
  clear F N
  intro f1 cc1 ctv1 V1 hh1 tk1 F N TI1 hV1 hl1 hcc1
  dsimp only [List.cons_append, List.nil_append] at N hl1
  try dsimp only
  k_steps
  unfold Halt
  have hA1 := hV1 _ ha ha86
  have hL1 := hV1 _ hl hl86
  obtain ⟨oc1, vc1, tc1, hcm1, hcd1, hcv1⟩ := hcc1
  k_dflt (refine' (bisr_keyA w p loose mean mg mb _ _ _ _ (idx 10) _ _ (figL text.cps.toList width + 1) (mem1_of N) hI ?hlen ?hk9 f1 _ _ ?hf ?hfd (fun i => (i : Int) + AM.getD i 0) 1 ?hkey ?hq) _ _ _ _ _ _ _ _ _ _ _ _ _ _ _ _ _ ?hB ?hF ?hX ?hN ?hT ?hK ?hpre ?hd ?hu ?hR)
  case hB => k_asm
  case hF => k_asm
  case hX => k_asm
  case hN => k_asm
  case hT => k_asm
  case hK => exact rfl
  case hpre => trivial
  case hd => ktr_room
  case hu => ktr_units
  case hlen => rw [idx_len]; omega
  case hk9 => rw [idx_len]; omega
  case hf => exact .head _
  case hfd => exact rfl
  case hq =>
    intro i hi
    rw [idx_len] at hi
    exact hq1 i hi
  case hkey =>
    clear F N hret
    intro i t hi
    rw [idx_len] at hi
    rw [idx_get hi]
    dsimp only [ConV]
    intro dp un gd cn cs a ccd cl outer A₀ base h₀ L m s Q E hB hF hX hN hT hk _ hdp hun hret
    refine wpAny_call ?_
    k_dflt (refine' kla_code (binds := [("n", .int (i : Int) t)]) ?k1 ?k2 ?k3 ?k4 ?k5 ?kA ?kF ?kK ?k6 ?k7 ?k8 ?k9 ?kB ?_ ?c2 ?c3 ?c4 ?c5; (case kA => exact rfl); (case kF => exact rfl); (case kK => assumption); (case k1 => k_asm); (case k2 => k_asm); (case k3 => k_asm); (case k4 => k_asm); (case k5 => k_asm); (case k6 => exact List.Mem.head _); (case k7 => exact ⟨_, _, _, _, rfl, (hN _ (.tail _ (.tail _ (.tail _ (.tail _ hcm1))))).1, hcd1, hcv1⟩); (case k8 => ktr_room); (case k9 => exact rfl); (case c5 => decide); (case kB => exact locs rfl); (case c2 => exact rfl); (case c3 => exact rfl); (case c4 => exact rfl); k_whole; intro g2 L2 h2 FG2 F2 N2 B2 X2 T2; (try dsimp only); (try k_fold))
    k_steps
    exact hret _ _ _ (by assumption) (by assumption)
  case hR =>
    clear F N
    intro t9 h9 tk9 F N
    try dsimp only
    k_steps
    unfold Halt
    obtain ⟨ps2, hP2, _⟩ := id TI1
    have hf186 := Nat.ne_of_gt (hl1 _ (.tail _ (.tail _ (.tail _ (hP2)))))
    refine' lamV (front := [_, _, _, _]) F N T' C88 rfl ?hfr TI1 rfl rfl rfl ?_
    case hfr =>
      intro q hq
      rcases List.mem_cons.mp hq with rfl | hq
      · exact hf186
      rcases List.mem_cons.mp hq with rfl | hq
      · exact hD86
      rcases List.mem_cons.mp hq with rfl | hq
      · exact hc1
      rcases List.mem_cons.mp hq with rfl | hq
      · exact hc2
      cases hq
    clear F N
    intro f2 cc2 ctv2 V2 hh2 tk2 F N TI2 hV2 hl2 hcc2
    dsimp only [List.cons_append, List.nil_append] at N hl2
    try dsimp only
    k_steps
    unfold Halt
    have hA2 := hV2 _ hA1 ha86
    have hL2 := hV2 _ hL1 hl86
    obtain ⟨oc2, vc2, tc2, hcm2, hcd2, hcv2⟩ := hcc2
    k_dflt (refine' (bisr_keyA w p loose mean mg mb _ _ _ _ (idx 10) _ _ (figL text.cps.toList width + 1) (mem2_of N) hI ?hlen ?hk9 f2 _ _ ?hf ?hfd (fun i => ((stripL (AM.getD i 0) (LS.getD i Str.empty).cps.toList).length : Int)) 2 ?hkey ?hq) _ _ _ _ _ _ _ _ _ _ _ _ _ _ _ _ _ ?hB ?hF ?hX ?hN ?hT ?hK ?hpre ?hd ?hu ?hR)
    case hB => k_asm
    case hF => k_asm
    case hX => k_asm
    case hN => k_asm
    case hT => k_asm
    case hK => exact rfl
    case hpre => trivial
    case hd => ktr_room
    case hu => ktr_units
    case hlen => rw [idx_len]; omega
    case hk9 => rw [idx_len]; omega
    case hf => exact .head _
    case hfd => exact rfl
    case hq =>
      intro i hi
      rw [idx_len] at hi
      exact (hq2 i hi).2.2
    case hkey =>
      clear F N hret
      intro i t hi
      rw [idx_len] at hi
      rw [idx_get hi]
      have hst := hq2 i hi
      have hpre : okS (AM.getD (i : Int).toNat 0) (LS.getD (i : Int).toNat Str.empty).cps.toList ∧ (LS.getD (i : Int).toNat Str.empty).length ≤ 1000 := ⟨hst.1, by have := hst.2.1; rw [Int.toNat_natCast]; omega⟩
      have hsl : (⟨(stripL (AM.getD (i : Int).toNat 0) (LS.getD (i : Int).toNat Str.empty).cps.toList).toArray⟩ : Str).length ≤ 1000 := by
        have e : (stripL (AM.getD (i : Int).toNat 0) (LS.getD (i : Int).toNat Str.empty).cps.toList).length ≤ (LS.getD (i : Int).toNat Str.empty).cps.toList.length := by
          unfold stripL
          rw [List.length_take, List.length_drop]; omega
        have e2 : (LS.getD (i : Int).toNat Str.empty).cps.toList.length = (LS.getD (i : Int).toNat Str.empty).length := by simp [Str.length]
        have := hpre.2
        simp only [Str.length, List.size_toArray]
        omega
      dsimp only [ConV]
      intro dp un gd cn cs a ccd cl outer A₀ base h₀ L m s Q E hB hF hX hN hT hk _ hdp hun hret
      refine wpAny_call ?_
      k_dflt (refine' kla_code (binds := [("n", .int (i : Int) t)]) ?k1 ?k2 ?k3 ?k4 ?k5 ?kA ?kF ?kK ?k6 ?k7 ?k8 ?k9 ?kB ?_ ?c2 ?c3 ?c4 ?c5; (case kA => exact rfl); (case kF => exact rfl); (case kK => assumption); (case k1 => k_asm); (case k2 => k_asm); (case k3 => k_asm); (case k4 => k_asm); (case k5 => k_asm); (case k6 => exact List.Mem.head _); (case k7 => exact ⟨_, _, _, _, rfl, (hN _ (.tail _ (.tail _ (.tail _ (.tail _ (.tail _ (hcm2))))))).1, hcd2, hcv2⟩); (case k8 => ktr_room); (case k9 => exact rfl); (case c5 => decide); (case kB => exact locs rfl); (case c2 => exact rfl); (case c3 => exact rfl); (case c4 => exact rfl); k_whole; intro g2 L2 h2 FG2 F2 N2 B2 X2 T2; (try dsimp only); (try k_fold))
      k_steps
      have e5 : (⟨(stripL (AM.getD (i : Int).toNat 0) (LS.getD (i : Int).toNat Str.empty).cps.toList).toArray⟩ : Str).length = (stripL (AM.getD i 0) (LS.getD i Str.empty).cps.toList).length := by
        rw [Int.toNat_natCast]; simp [Str.length]
      rw [e5]
      exact hret _ _ _ (by assumption) (by assumption)
    case hR =>
      clear F N
      intro t9 h9 tk9 F N
      try dsimp only
      k_steps
      unfold Halt
      obtain ⟨ps3, hP3, _⟩ := id TI2
      have hf286 := Nat.ne_of_gt (hl2 _ (.tail _ (.tail _ (.tail _ (.tail _ (hP3))))))
      refine' lamV (front := [_, _, _, _, _]) F N T' C88 rfl ?hfr TI2 rfl rfl rfl ?_
      case hfr =>
        intro q hq
        rcases List.mem_cons.mp hq with rfl | hq
        · exact hf286
        rcases List.mem_cons.mp hq with rfl | hq
        · exact hf186
        rcases List.mem_cons.mp hq with rfl | hq
        · exact hD86
        rcases List.mem_cons.mp hq with rfl | hq
        · exact hc1
        rcases List.mem_cons.mp hq with rfl | hq
        · exact hc2
        cases hq
      clear F N
      intro f3 cc3 ctv3 V3 hh3 tk3 F N TI3 hV3 hl3 hcc3
      dsimp only [List.cons_append, List.nil_append] at N hl3
      try dsimp only
      k_steps
      unfold Halt
      have hA3 := hV3 _ hA2 ha86
      have hL3 := hV3 _ hL2 hl86
      obtain ⟨oc3, vc3, tc3, hcm3, hcd3, hcv3⟩ := hcc3
      k_dflt (refine' (bisl_keyA w p loose mean mg mb _ _ _ _ (idx 10) _ _ (figL text.cps.toList (width - 1) + 1) (mem3_of N) hI ?hlen ?hk9 f3 _ _ ?hf ?hfd (fun i => (i : Int) + AM.getD i 0) 1 ?hkey ?hq) _ _ _ _ _ _ _ _ _ _ _ _ _ _ _ _ _ ?hB ?hF ?hX ?hN ?hT ?hK ?hpre ?hd ?hu ?hR)
      case hB => k_asm
      case hF => k_asm
      case hX => k_asm
      case hN => k_asm
      case hT => k_asm
      case hK => exact rfl
      case hpre => trivial
      case hd => ktr_room
      case hu => ktr_units
      case hlen => rw [idx_len]; omega
      case hk9 => rw [idx_len]; omega
      case hf => exact .head _
      case hfd => exact rfl
      case hq =>
        intro i hi
        rw [idx_len] at hi
        exact hq3 i hi
      case hkey =>
        clear F N hret
        intro i t hi
        rw [idx_len] at hi
        rw [idx_get hi]
        dsimp only [ConV]
        intro dp un gd cn cs a ccd cl outer A₀ base h₀ L m s Q E hB hF hX hN hT hk _ hdp hun hret
        refine wpAny_call ?_
        k_dflt (refine' kla_code (binds := [("n", .int (i : Int) t)]) ?k1 ?k2 ?k3 ?k4 ?k5 ?kA ?kF ?kK ?k6 ?k7 ?k8 ?k9 ?kB ?_ ?c2 ?c3 ?c4 ?c5; (case kA => exact rfl); (case kF => exact rfl); (case kK => assumption); (case k1 => k_asm); (case k2 => k_asm); (case k3 => k_asm); (case k4 => k_asm); (case k5 => k_asm); (case k6 => exact List.Mem.head _); (case k7 => exact ⟨_, _, _, _, rfl, (hN _ (.tail _ (.tail _ (.tail _ (.tail _ (.tail _ (.tail _ (hcm3)))))))).1, hcd3, hcv3⟩); (case k8 => ktr_room); (case k9 => exact rfl); (case c5 => decide); (case kB => exact locs rfl); (case c2 => exact rfl); (case c3 => exact rfl); (case c4 => exact rfl); k_whole; intro g2 L2 h2 FG2 F2 N2 B2 X2 T2; (try dsimp only); (try k_fold))
        k_steps
        exact hret _ _ _ (by assumption) (by assumption)
      case hR =>
        clear F N
        intro t9 h9 tk9 F N
        try dsimp only
        have hIk : Halt (IntsAre _ (idx 10)) := hI
        clear hI
        k_steps
        unfold Halt
        rename News _ _ _ _ => N
        refine ne_intsK (News.isList N (.tail _ (.head _))) (.cons _ _ (.cons _ _ (.cons _ _ .nil))) (News.isList N (.head _)) (.cons _ _ (.cons _ _ (.cons _ _ .nil))) (by ktr_units) ?_
        rw [show (!decide ([((figL text.cps.toList width + 1 : Nat) : Int) - 1, ((figL text.cps.toList width + 1 : Nat) : Int) - 1, ((figL text.cps.toList (width - 1) + 1 : Nat) : Int) - 1] = [(figL text.cps.toList width : Int), (figL text.cps.toList width : Int), (figL text.cps.toList (width - 1) : Int)])) = false by
          have e1 : ((figL text.cps.toList width + 1 : Nat) : Int) - 1 = (figL text.cps.toList width : Int) := by omega
          have e2 : ((figL text.cps.toList (width - 1) + 1 : Nat) : Int) - 1 = (figL text.cps.toList (width - 1) : Int) := by omega
          rw [e1, e2]; simp]
        k_steps
        unfold Halt
        rename News _ _ _ _ => N
        rename IntsAre _ (idx 10) => hJ
        refine ne_intsK (News.isList N (by repeat (first | exact List.Mem.head _ | refine List.Mem.tail _ ?_))) (Halt.out hIk) (News.isList N (.head _)) hJ (by ktr_units) ?_
        rw [show (!decide (idx 10 = idx 10)) = false by simp]
        k_steps
        unfold Halt
        rename Fr _ _ _ _ => F
        rename News _ _ _ _ => N
        refine LSm.all_bools (vs := [_, _, _]) F N rfl (News.isList N (.head _)) (.cons _ (.cons _ (.cons _ .nil))) ?_
        clear F N
        intro h9 tk9 F N
        dsimp only [List.all_cons, List.all_nil, id]
        k_steps
        refine hret V3 _ _ TI3 ?_ (by assumption) ?_
        · intro q hq hne
          exact hV3 q (hV2 q (hV1 q hq hne) hne) hne
        · exact kst_newsOf (by assumption) (by intro q hq; simp [hq])
end Mine
end

theorem Mine.part_streq : True := by
  w_top off
  k_with_none
  trivial
section
open PySem PySem.W PyProof.Rows PyProof.V PySem.Spec PySem.Calls PySem.SeqAt
namespace Mine
theorem readsAll_of_strs {h : Heap} : ∀ {vs : List Value} {ns : List Str}, StrsAre vs ns → ReadsAll h vs (ns.map PyData.str) []
  | _, _, .nil => .nil
  | _, _, .cons k t r => by
    have := ReadsAll.cons (Reads.str (h := h) k t) (readsAll_of_strs (h := h) r)
    simpa using this
theorem reads_of_strs {h : Heap} {a : Addr} {vs : List Value} {ns : List Str} (hl : h.IsList a vs.toArray) (hi : StrsAre vs ns) : Reads h (.ref a) (.list (ns.map PyData.str)) [a] := by
  obtain ⟨o, ho, hc, n, hd⟩ := hl
  exact Reads.list ho hc hd (by simpa using readsAll_of_strs hi)
theorem lay_strs : ∀ ns : List Str, (∀ x ∈ ns, PyData.strOk x = true) → PyData.canLayAll0 (ns.map PyData.str) = true
  | [], _ => by simp [PyData.canLayAll0]
  | n :: r, h => by simp [PyData.canLayAll0, PyData.canLay0, h n (.head _), lay_strs r (fun x hx => h x (.tail _ hx))]
theorem depth_strs : ∀ ns : List Str, PyData.depthAll (ns.map PyData.str) ≤ 1
  | [] => by simp [PyData.depthAll]
  | n :: r => by
    have := depth_strs r
    simp only [List.map_cons, PyData.depthAll, PyData.depth]
    omega
theorem shaped_strs (ns : List Str) (hok : ∀ x ∈ ns, PyData.strOk x = true) : shaped (.list (ns.map PyData.str)) = true := by
  have h1 := depth_strs ns
  have h2 : PyData.depth (.list (ns.map PyData.str)) ≤ 64 := by simp only [PyData.depth]; omega
  show (PyData.canLay0 (.list (ns.map PyData.str)) && decide (PyData.depth (.list (ns.map PyData.str)) ≤ 64)) = true
  rw [Bool.and_eq_true]
  exact ⟨by simp only [PyData.canLay0]; exact lay_strs ns hok, decide_eq_true h2⟩
theorem noMix_strs : ∀ ns ms : List Str, noMixAll (ns.map PyData.str) (ms.map PyData.str) = true
  | [], [] => by simp [noMixAll]
  | [], _ :: _ => by simp [noMixAll]
  | _ :: _, [] => by simp [noMixAll]
  | _ :: r, _ :: q => by simp [noMixAll, noMix, noMix_strs r q]
theorem same_strs_self : ∀ ns : List Str, PySem.Spec.sameAll (ns.map PyData.str) (ns.map PyData.str) = true
  | [] => by simp [PySem.Spec.sameAll]
  | n :: r => by simp [PySem.Spec.sameAll, PySem.Spec.same, same_strs_self r]
theorem ne_strs_self {prog : Program} {w : World} {A : Around} {E : Value → Shared → Prop} {s : Shared} {a b : Addr} {vs us : List Value} {ns : List Str} {Q : Value → Shared → Prop} (hl : s.heap.IsList a vs.toArray) (hi : StrsAre vs ns) (hl' : s.heap.IsList b us.toArray) (hi' : StrsAre us ns) (hok : ∀ x ∈ ns, PyData.strOk x = true) (hu : A.units + 64 < cLine)
    (h : Q (.bool false) s) : wpAny (model prog w) A (compareOp .NotEq (.ref a) (.ref b)) Q E s :=
  ne_dataH_same (reads_of_strs hl hi) (reads_of_strs hl' hi') (shaped_strs ns hok) (shaped_strs ns hok) hu (by simp only [noMix]; exact noMix_strs ns ns) (by simp only [PySem.Spec.same]; rw [same_strs_self]; exact h)
end Mine
end

theorem Mine.part_plain : True := by
  w_top off
  k_with_none
  trivial
section
open PySem PySem.W PyProof.Rows PySem.Spec PySem.Calls
namespace Mine

theorem lead_nb : ∀ (t : List Nat) (a : Int), t.head? ≠ some 32 → lead a t = 0
  | [], _, _ => rfl
  | c :: r, a, h => by
    unfold lead
    rw [if_neg]
    rintro ⟨_, rfl⟩
    exact h rfl
theorem lead_rep (t : List Nat) (ht : t.head? ≠ some 32) : ∀ (A : Nat) (a : Int), 0 ≤ a → lead a (List.replicate A 32 ++ t) = min a.toNat A
  | 0, a, _ => by
    rw [List.replicate_zero, List.nil_append, lead_nb t a ht, Nat.min_zero]
  | A + 1, a, h => by
    rw [List.replicate_succ, List.cons_append]
    unfold lead
    split
    · rename_i h1
      obtain ⟨k, hk⟩ : ∃ k : Nat, a = (k + 1 : Nat) := ⟨a.toNat - 1, by have := h1.1; omega⟩
      have e : a - 1 = (k : Int) := by rw [hk, Int.natCast_add]; exact Int.add_sub_cancel _ _
      rw [lead_rep t ht A (a - 1) (e ▸ Int.natCast_nonneg k), e, hk, Int.toNat_natCast, Int.toNat_natCast, Nat.add_min_add_right]
    · rename_i h1
      have : a = 0 := by
        by_cases e : a = 0
        · exact e
        · exact absurd ⟨e, rfl⟩ h1
      subst this; simp
theorem lead_rep_neg (t : List Nat) (ht : t.head? ≠ some 32) : ∀ (A : Nat) (a : Int), a < 0 → lead a (List.replicate A 32 ++ t) = A
  | 0, a, _ => by
    rw [List.replicate_zero, List.nil_append, lead_nb t a ht]
  | A + 1, a, h => by
    rw [List.replicate_succ, List.cons_append]
    unfold lead
    rw [if_pos ⟨by omega, rfl⟩, lead_rep_neg t ht A (a - 1) (by omega)]

theorem cut_mid (t : List Nat) {A B x y : Nat} (hx : x ≤ A) (hy : y ≤ B) :
    ((List.replicate A 32 ++ t ++ List.replicate B 32).drop x).take ((List.replicate A 32 ++ t ++ List.replicate B 32).length - y - x) = List.replicate (A - x) 32 ++ t ++ List.replicate (B - y) 32 := by
  have e1 : (List.replicate A 32 ++ t ++ List.replicate B 32).drop x = List.replicate (A - x) 32 ++ t ++ List.replicate B 32 := by
    rw [List.append_assoc, List.drop_append_of_le_length (by simp; exact hx), List.drop_replicate, List.append_assoc]
  rw [e1]
  have e2 : (List.replicate A 32 ++ t ++ List.replicate B 32).length - y - x = (List.replicate (A - x) 32 ++ t).length + (B - y) := by
    simp only [List.length_append, List.length_replicate]; omega
  rw [e2, List.take_append, List.take_of_length_le (Nat.le_add_right _ _), Nat.add_sub_cancel_left, List.take_replicate, Nat.min_eq_left (Nat.sub_le _ _)]
theorem head_app {t u : List Nat} (h : t ≠ []) (h1 : t.head? ≠ some 32) : (t ++ u).head? ≠ some 32 := by
  cases t with
  | nil => exact absurd rfl h
  | cons c r => exact h1
theorem rev_line (t : List Nat) (A B : Nat) : (List.replicate A 32 ++ t ++ List.replicate B 32).reverse = List.replicate B 32 ++ (t.reverse ++ List.replicate A 32) := by simp

theorem line_pos {t : List Nat} {A B k : Nat} (h : t ≠ []) (hk : k ≤ A) : k < (List.replicate A 32 ++ t ++ List.replicate B 32).length := by
  rw [List.length_append, List.length_append, List.length_replicate]
  exact Nat.lt_of_lt_of_le (Nat.lt_of_le_of_lt hk (Nat.lt_add_of_pos_right (List.length_pos_iff.mpr h))) (Nat.le_add_right _ _)
theorem strip_line {t : List Nat} (A B : Nat) {a : Int} (ha : 0 ≤ a) (h0 : t ≠ []) (h1 : t.head? ≠ some 32) (h2 : t.getLast? ≠ some 32) :
    okS a (List.replicate A 32 ++ t ++ List.replicate B 32) ∧ stripL a (List.replicate A 32 ++ t ++ List.replicate B 32) = List.replicate (A - min a.toNat A) 32 ++ t ++ List.replicate (B - min (a.toNat - min a.toNat A) B) 32 := by
  have hl : lead a (List.replicate A 32 ++ t ++ List.replicate B 32) = min a.toNat A := by
    rw [List.append_assoc]; exact lead_rep _ (head_app h0 h1) A a ha
  have ht : tailS a (List.replicate A 32 ++ t ++ List.replicate B 32) = min (a.toNat - min a.toNat A) B := by
    unfold tailS
    have e : a - ((min a.toNat A : Nat) : Int) = ((a.toNat - min a.toNat A : Nat) : Int) := by
      rw [Int.ofNat_sub (Nat.min_le_left _ _), Int.toNat_of_nonneg ha]
    rw [hl, rev_line, e, lead_rep _ (head_app (by simpa using h0) (by rwa [List.head?_reverse])) B _ (Int.natCast_nonneg _), Int.toNat_natCast]
  refine ⟨?_, ?_⟩
  · right
    rw [hl]
    exact line_pos h0 (Nat.min_le_right _ _)
  · unfold stripL
    rw [ht, hl]
    exact cut_mid t (Nat.min_le_right _ _) (Nat.min_le_right _ _)
theorem strip_line_neg {t : List Nat} (A B : Nat) {a : Int} (ha : a < 0) (h0 : t ≠ []) (h1 : t.head? ≠ some 32) (h2 : t.getLast? ≠ some 32) :
    okS a (List.replicate A 32 ++ t ++ List.replicate B 32) ∧ stripL a (List.replicate A 32 ++ t ++ List.replicate B 32) = t := by
  have hl : lead a (List.replicate A 32 ++ t ++ List.replicate B 32) = A := by
    rw [List.append_assoc]; exact lead_rep_neg _ (head_app h0 h1) A a ha
  have ht : tailS a (List.replicate A 32 ++ t ++ List.replicate B 32) = B := by
    unfold tailS
    rw [hl, rev_line, lead_rep_neg _ (head_app (by simpa using h0) (by rwa [List.head?_reverse])) B _ (by omega)]
  refine ⟨?_, ?_⟩
  · right
    rw [hl]
    exact line_pos h0 (Nat.le_refl _)
  · unfold stripL
    rw [ht, hl, cut_mid t (Nat.le_refl _) (Nat.le_refl _)]
    simp

/-! the figures' texts -/
theorem textL_eq (row : List Int) (sep : List Nat) (n : Nat) : textL row sep (n + 1) = (57 - n) :: (if n > 0 ∧ cutGo row n 0 0 = true then sep ++ textL row sep n else textL row sep n) := rfl
theorem textL_succ (row : List Int) (sep : List Nat) (n : Nat) : ∃ r, textL row sep (n + 1) = (57 - n) :: (r ++ textL row sep n) ∧ (r = [] ∨ r = sep) := by
  rw [textL_eq]
  split
  · exact ⟨sep, rfl, .inr rfl⟩
  · exact ⟨[], rfl, .inl rfl⟩
theorem textL_ne (row : List Int) (sep : List Nat) (n : Nat) : textL row sep (n + 1) ≠ [] := by
  obtain ⟨r, h, _⟩ := textL_succ row sep n
  rw [h]; exact List.cons_ne_nil _ _
theorem textL_head (row : List Int) (sep : List Nat) {n : Nat} (hn : n < 10) : (textL row sep (n + 1)).head? ≠ some 32 := by
  obtain ⟨r, h, _⟩ := textL_succ row sep n
  rw [h, List.head?_cons]
  intro e
  have := Option.some.inj e
  omega
theorem textL_last (row : List Int) (sep : List Nat) : ∀ n : Nat, (textL row sep (n + 1)).getLast? = some 57
  | 0 => by simp [textL]
  | n + 1 => by
    have ih := textL_last row sep n
    obtain ⟨r, h, _⟩ := textL_succ row sep (n + 1)
    rw [h, ← List.cons_append, List.getLast?_append, ih]
    rfl
theorem textL_suf (row : List Int) (sep : List Nat) : ∀ {n m : Nat}, n ≤ m → ∃ pre, textL row sep m = pre ++ textL row sep n
  | n, 0, h => by
    have : n = 0 := by omega
    subst this; exact ⟨[], rfl⟩
  | n, m + 1, h => by
    by_cases e : n = m + 1
    · subst e; exact ⟨[], rfl⟩
    · obtain ⟨pre, hp⟩ := textL_suf row sep (n := n) (m := m) (by omega)
      obtain ⟨r, h, _⟩ := textL_succ row sep m
      exact ⟨(57 - m) :: (r ++ pre), by rw [h, hp]; simp⟩
def dig (l : List Nat) : Nat := (l.filter isDig).length
theorem dig_app (l k : List Nat) : dig (l ++ k) = dig l + dig k := by simp [dig]
theorem dig_le_drop (l : List Nat) (d : Nat) : dig (l.drop d) ≤ dig l := by
  have := dig_app (l.take d) (l.drop d)
  rw [List.take_append_drop] at this
  omega
theorem dig_cons {c : Nat} (h : isDig c = true) (l : List Nat) : dig (c :: l) = dig l + 1 := by simp [dig, h]
theorem dig_textL (row : List Int) {sep : List Nat} (hs : dig sep = 0) : ∀ {n : Nat}, n ≤ 10 → dig (textL row sep n) = n
  | 0, _ => rfl
  | n + 1, h => by
    have ih := dig_textL row hs (n := n) (by omega)
    obtain ⟨r, e, hr⟩ := textL_succ row sep n
    rw [e, dig_cons (by simp [isDig]; omega), dig_app, ih]
    rcases hr with rfl | rfl
    · simp [dig]
    · omega
theorem fig_iff (row : List Int) {sep : List Nat} (hs : dig sep = 0) {i : Nat} (hi : i ≤ 9) {width : Int} (hw : 0 ≤ width) :
    ((textL row sep i).length : Int) ≤ width ↔ i ≤ figL (textL row sep 9) width := by
  obtain ⟨pre, hp⟩ := textL_suf row sep hi
  have hd := dig_textL row hs (n := i) (by omega)
  have hlen : (textL row sep 9).length = pre.length + (textL row sep i).length := by rw [hp, List.length_append]
  have hf : figL (textL row sep 9) width = dig ((textL row sep 9).drop (max (((textL row sep 9).length : Int) - width) 0).toNat) := rfl
  rw [hf]
  constructor
  · intro h
    rw [hp, List.drop_append_of_le_length (by rw [← hp]; omega), dig_app]
    omega
  · intro h
    apply Classical.byContradiction
    intro hc
    cases i with
    | zero => simp [textL] at hc; omega
    | succ j =>
      obtain ⟨r, e, _⟩ := textL_succ row sep j
      have hd2 := dig_cons (c := 57 - j) (by simp [isDig]; omega) (r ++ textL row sep j)
      rw [← e] at hd2
      obtain ⟨d', hd'⟩ : ∃ d', (max (((textL row sep 9).length : Int) - width) 0).toNat = pre.length + (d' + 1) := ⟨(max (((textL row sep 9).length : Int) - width) 0).toNat - pre.length - 1, by omega⟩
      rw [hd', hp, ← List.drop_drop, List.drop_append_of_le_length (Nat.le_refl _), List.drop_length, List.nil_append, e, List.drop_succ_cons] at h
      have := dig_le_drop (r ++ textL row sep j) d'
      omega

/-! how many separators a text has -/
def cuts (row : List Int) : Nat → Nat
  | 0 => 0
  | n + 1 => cuts row n + (if n > 0 ∧ cutGo row n 0 0 = true then 1 else 0)
theorem textL_cuts (row : List Int) (sep : List Nat) : ∀ n, (textL row sep n).length = n + sep.length * cuts row n
  | 0 => by simp [textL, cuts]
  | n + 1 => by
    have ih := textL_cuts row sep n
    unfold textL cuts
    split
    · simp only [List.length_cons, List.length_append, Nat.mul_add]; omega
    · simp only [List.length_cons, Nat.mul_add]; omega
end Mine
end

theorem Mine.part_col : True := by
  w_top off
  k_with_none
  trivial
section
open PySem PySem.W PyProof.Rows PySem.Spec PySem.Calls
namespace Mine

theorem off1_mem {D : Addr} : ∀ {l : List (Addr × Obj)}, LCg.Off1 D l → ∀ q ∈ l, q.1 ≠ D
  | [], _, _, hq => nomatch hq
  | _ :: _, h, q, hq => by
    rcases List.mem_cons.mp hq with rfl | hq
    · exact h.1
    · exact off1_mem h.2 q hq

theorem textL_ge (row : List Int) (sep : List Nat) : ∀ n, n ≤ (textL row sep n).length
  | 0 => Nat.zero_le _
  | n + 1 => by
    have ih := textL_ge row sep n
    unfold textL
    split <;> simp <;> omega

theorem rk_getS (g : Int → Str) {k : Int} (h0 : 0 ≤ k) (h1 : k < 10) : ((rangeKs 0 10).map g).getD k.toNat Str.empty = g k := by
  rw [List.getD_eq_getElem?_getD, List.getElem?_map, show (rangeKs 0 10)[k.toNat]? = some k by
    have : k.toNat < 10 := by omega
    simp [rangeKs, this]; omega]
  rfl
theorem rk_getI (g : Int → Int) {k : Int} (h0 : 0 ≤ k) (h1 : k < 10) : ((rangeKs 0 10).map g).getD k.toNat 0 = g k := by
  rw [List.getD_eq_getElem?_getD, List.getElem?_map, show (rangeKs 0 10)[k.toNat]? = some k by
    have : k.toNat < 10 := by omega
    simp [rangeKs, this]; omega]
  rfl

theorem news_keep {h₀ : Heap} {L : Addr} {h : Heap} {A V : List (Addr × Obj)} (N : News h₀ L h V) (hA : ∀ q ∈ A, q ∈ V) : News h₀ L h (A ++ V) := fun q hq => N q ((List.mem_append.mp hq).elim (hA q) id)

/-- what the column asks of the plain lists -/
structure ColP (ns : List Int) (width tail : Int) (sep : Str) (K : Nat → Nat) : Prop where
  len : ns.length ≤ 100
  h0 : ns.head? ≠ some 0
  pos : ∀ k x, gseq ns none k = some x → 1 ≤ x
  w1 : 1 ≤ width
  w2 : width ≤ 13
  t1 : 0 ≤ tail
  t2 : tail ≤ 2
  hsp : sep.length ≤ 2
  t9 : (textS ns sep.cps.toList 9).length ≤ 100
  mlen : (marksF ns).length ≤ 100
  hS : ∀ n : Nat, n < 10 → okS ((sep.length : Int) * (K n : Int)) (lineL (textL ns sep.cps.toList n) n width tail 0) ∧ (lineL (textL ns sep.cps.toList n) n width tail 0).length ≤ 100
    ∧ stripL ((sep.length : Int) * (K n : Int)) (lineL (textL ns sep.cps.toList n) n width tail 0) = lineL (textL ns sep.cps.toList n) n width tail (((textS ns sep.cps.toList n).length : Int) - n)
  okC : ∀ x ∈ (rangeKs 0 10).map (fun k => (⟨(lineL (textL ns sep.cps.toList k.toNat) k width tail (((textS ns sep.cps.toList k.toNat).length : Int) - k)).toArray⟩ : Str)), PyData.strOk x = true
  hq1 : ∀ i : Nat, i < 10 → (width < (i : Int) + (sep.length : Int) * (K i : Int) ↔ figL (textL ns sep.cps.toList 9) width + 1 ≤ i)
  hq2 : ∀ i : Nat, i < 10 → (width < ((stripL ((sep.length : Int) * (K i : Int)) (lineL (textL ns sep.cps.toList i) i width tail 0)).length : Int) ↔ figL (textL ns sep.cps.toList 9) width + 1 ≤ i)
  hq3 : ∀ i : Nat, i < 10 → ((i : Int) + (sep.length : Int) * (K i : Int) < width ↔ i < figL (textL ns sep.cps.toList 9) (width - 1) + 1)
  hf1 : figL (textL ns sep.cps.toList 9) width ≤ 9
  hf2 : figL (textL ns sep.cps.toList 9) (width - 1) ≤ 9
  hE : okS (-1 - tail) (lineL (textL ns sep.cps.toList (figL (textL ns sep.cps.toList 9) width)) (figL (textL ns sep.cps.toList 9) width) width tail 0) ∧ stripL (-1 - tail) (lineL (textL ns sep.cps.toList (figL (textL ns sep.cps.toList 9) width)) (figL (textL ns sep.cps.toList 9) width) width tail 0) = textL ns sep.cps.toList (figL (textL ns sep.cps.toList 9) width)
  hK : ∀ n : Nat, n < 10 → K n ≤ (marksF ns).length ∧ ∀ i : Nat, i < (marksF ns).length → ((marksF ns).getD i 0 < (n : Int) ↔ i < K n)


set_option maxRecDepth 100000 in
set_option maxHeartbeats 8000000 in
theorem column_ok (w : World) (p : Program) (loose : List Str) (mean : ExcName → Option Value) (mg mb : Str → Option Value) (V : List (Addr × Obj)) (TI : TabIn 86 q86 V)
    (Dr : Addr) (vs : List Value) (nn : Nat) (ns : List Int) (hr : (Dr, listOf vs.toArray nn) ∈ V) (hi : IntsAre vs ns) (hr86 : Dr ≠ 86)
    (width : Int) (t1 : Tok) (tail : Int) (t2 : Tok) (sep : Str) (t3 : Tok) (K : Nat → Nat) (CP : ColP ns width tail sep K)
    (dp un : Nat) (gd : Option (List Code)) (cn : Str) (cs : Scope) (a : Addr) (ccd : Value) (cl : List (Str × Addr)) (outer : List Env) (A₀ : Around) (base h₀ : Heap) (L : Addr) (m : Str → Option Value) (s : Shared) (Q E : Value → Shared → Prop)
    (hB : Below A₀ base outer h₀) (hF : Fr h₀ L s.heap m) (hX : (Mine.hd.heap_39 w.params).In h₀) (hN : News h₀ L s.heap V) (hT : Top p loose mean mg mb h₀) (hk : cs.kind = .function)
    (hdp : dp + 5 < recursionLimit) (hun : un + 200 < cLine) 
    (hret : ∀ (V' : List (Addr × Obj)) (h' : Heap) (tk' : Nat) (gens' : Array GenState), (AllBare s.gens → AllBare gens') → TabIn 86 q86 V' → (∀ q ∈ V, q.1 ≠ 86 → q ∈ V') → Fr h₀ L h' m → News h₀ L h' V' → Q (.bool true) { s with heap := h', toks := tk', gens := gens' }) :
    wpAny (model Challenge.rw_nb0109_01.row.prog w) (ktrTop dp un gd cn cs L a ccd cl outer) (call (.ref 94) [.ref Dr, .int width t1, .int tail t2, .str sep t3]) Q E s := by
  k_with_none
  (k_with "subscriptTail Name Slice ref ref" => (refine Halt.out ?_))
  (k_with "subscriptTail Name Name ref int" => (refine Halt.out ?_))
  (k_with "subscriptTail Name Constant ref int" => (refine Halt.out ?_))
  (k_with "compareOp Eq ref ref" => (refine Halt.out ?_))
  (k_with "compareOp NotEq ref ref" => (refine Halt.out ?_))
  (k_with "CompSrc" => (refine Halt.out ?_))
  (k_with "eval ListComp" => ((k_dflt (refine LCg.ListComp_U (F₀ := by k_asm) (by with_unfolding_all rfl) (by decide) (by rfl) (by decide) (by rfl) ?_))))
  (k_with "call ref" => (refine Halt.out ?_))
  have hik : Halt (IntsAre vs ns) := hi
  clear hi
  revert hX; k_fill; intro hX
  refine wpAny_call ?_
  k_dflt (refine' code_defC (binds := [("row", .ref Dr), ("width", .int width t1), ("tail", .int tail t2), ("separator", .str sep t3)]) ?k1 ?k2 ?k3 ?k4 ?k5 ?kA ?kF ?kK ?k6 ?k7 ?k8 ?k9 ?kB ?kD ?_ ?c2 ?c3 ?c4; (case kA => exact rfl); (case kF => exact rfl); (case kK => assumption); (case k1 => k_asm); (case k2 => k_asm); (case k3 => k_asm); (case k4 => k_asm); (case k5 => k_asm); (case k6 => k_is); (case k7 => k_is); (case k8 => ktr_room); (case k9 => exact BindsTo.of_eq rfl); (case kB => exact rfl); (case kD => decide +kernel); (case c2 => exact rfl); (case c3 => exact rfl); (case c4 => exact rfl); k_whole)
  intro g' L' h' tk' cells' FG' F' N' Y' B' X' T' l1
  k_cells Y'
  dsimp only [List.cons_append, List.nil_append] at N'
  try dsimp only
  try k_fold
  rename_i o1 o2 o3 o4 o5 o6 o7 d1 d2 d3 d4 d5 d6 d7
  replace d1 : o1.data = Data.cell none := d1
  replace d2 : o2.data = Data.cell none := d2
  replace d3 : o3.data = Data.cell none := d3
  replace d4 : o4.data = Data.cell none := d4
  replace d5 : o5.data = Data.cell (some (.str sep t3)) := d5
  replace d6 : o6.data = Data.cell (some (.int tail t2)) := d6
  replace d7 : o7.data = Data.cell (some (.int width t1)) := d7
  have hvl : vs.length ≤ 100 := by rw [(Halt.out hik).length]; exact CP.len
  have hsep := CP.hsp
  have hw1 := CP.w1
  have hw2 := CP.w2
  have ht1 := CP.t1
  have ht2 := CP.t2
  k_steps
  try unfold Halt
  rename Fr _ _ _ _ => F
  rename News _ _ _ _ => N
  refine' kmk_slice_ints F N (News.isList N (.tail _ (.tail _ (.tail _ (.tail _ (.tail _ (.tail _ (.tail _ hr)))))))) IsPart.none IsPart.none (Halt.out hik) (kmk_all (Halt.out hik)) rfl ?_ ?ks ?kt ?kz
  case ks => with_unfolding_all rfl
  case kt => kmk_pure
  case kz => rw [sizeLine_eq]; simp only [List.size_toArray]; omega
  clear F N
  intro H ws hh F N lH hIH _ _
  have hIHk : Halt (IntsAre ws ns) := hIH
  clear hIH
  k_steps
  try unfold Halt
  rename Fr _ _ _ _ => F
  rename News _ _ _ _ => N
  k_dflt (refine' (texts_ok w p loose mean mg mb _ H ws 0 ns _ sep _ (mem0_of N) (Halt.out hIHk) CP.len CP.h0 CP.hsp) _ _ _ _ _ _ _ _ _ _ _ _ _ _ _ _ _ ?hB1 ?hF1 ?hX1 ?hN1 ?hT1 ?hK1 ?hpre1 ?hd1 ?hu1 ?_)
  case hB1 => k_asm
  case hF1 => k_asm
  case hX1 => k_asm
  case hN1 => k_asm
  case hT1 => k_asm
  case hK1 => exact rfl
  case hpre1 => trivial
  case hd1 => ktr_room
  case hu1 => ktr_units
  clear F N
  intro T oT h1 tk1 hoT lT F N
  obtain ⟨ts, nt, rfl, hts⟩ := hoT
  try dsimp only
  refine' stCN (own := [_, _, _, _, _]) (rest := _ :: _ :: _ :: V) F N rfl d4 ?h1oTx ?h2oTx ?_
  case h1oTx =>
    intro q hq
    rcases List.mem_cons.mp hq with rfl | hq
    · exact Nat.ne_of_gt (lT (L' + 1 + 1 + 1 + 1, _) (by repeat (first | exact List.Mem.head _ | refine List.Mem.tail _ ?_)))
    rcases List.mem_cons.mp hq with rfl | hq
    · exact Nat.ne_of_gt (lH (L' + 1 + 1 + 1 + 1, _) (by repeat (first | exact List.Mem.head _ | refine List.Mem.tail _ ?_)))
    rcases List.mem_cons.mp hq with rfl | hq
    · exact Nat.ne_of_gt (Nat.add_lt_add_left (show 4 < 7 by decide) L')
    rcases List.mem_cons.mp hq with rfl | hq
    · exact Nat.ne_of_gt (Nat.add_lt_add_left (show 4 < 6 by decide) L')
    rcases List.mem_cons.mp hq with rfl | hq
    · exact Nat.ne_of_gt (Nat.add_lt_add_left (show 4 < 5 by decide) L')
    cases hq
  case h2oTx =>
    intro q hq
    rcases List.mem_cons.mp hq with rfl | hq
    · exact Nat.ne_of_lt (Nat.add_lt_add_left (show 3 < 4 by decide) L')
    rcases List.mem_cons.mp hq with rfl | hq
    · exact Nat.ne_of_lt (Nat.add_lt_add_left (show 2 < 4 by decide) L')
    rcases List.mem_cons.mp hq with rfl | hq
    · exact Nat.ne_of_lt (Nat.add_lt_add_left (show 1 < 4 by decide) L')
    exact Nat.ne_of_lt (Nat.lt_of_lt_of_le (l1 q hq) (Nat.le_add_right L' 4))
  clear F N
  intro h2 oTx F N dTx
  dsimp only [List.cons_append, List.nil_append] at N
  try dsimp only
  k_steps
  try unfold Halt
  rename Fr _ _ _ _ => F
  rename News _ _ _ _ => N
  k_dflt (refine' (marks_ok w p loose mean mg mb _ Dr vs nn ns _ (.tail _ (.tail _ (.tail _ (.tail _ (.tail _ (.tail _ (.tail _ (.tail _ (.tail _ hr))))))))) (Halt.out hik) CP.h0 CP.pos) _ _ _ _ _ _ _ _ _ _ _ _ _ _ _ _ _ ?hB2 ?hF2 ?hX2 ?hN2 ?hT2 ?hK2 ?hd2 ?hu2 ?_)
  case hB2 => k_asm
  case hF2 => k_asm
  case hX2 => k_asm
  case hN2 => k_asm
  case hT2 => k_asm
  case hK2 => exact rfl
  case hd2 => ktr_room
  case hu2 => ktr_units
  clear F N
  intro M ms nm h3 tk3 gens' hIM hbare lM F N
  have hIMk : Halt (IntsAre ms (marksF ns)) := hIM
  clear hIM
  try dsimp only
  refine' stCN (own := [_, _, _, _, _]) (rest := _ :: _ :: _ :: _ :: V) F N rfl d3 ?h1oMx ?h2oMx ?_
  case h1oMx =>
    intro q hq
    rcases List.mem_cons.mp hq with rfl | hq
    · exact Nat.ne_of_gt (lM (L' + 1 + 1 + 1 + 1 + 1, _) (by repeat (first | exact List.Mem.head _ | refine List.Mem.tail _ ?_)))
    rcases List.mem_cons.mp hq with rfl | hq
    · exact Nat.ne_of_gt (lT (L' + 1 + 1 + 1 + 1 + 1, _) (by repeat (first | exact List.Mem.head _ | refine List.Mem.tail _ ?_)))
    rcases List.mem_cons.mp hq with rfl | hq
    · exact Nat.ne_of_gt (lH (L' + 1 + 1 + 1 + 1 + 1, _) (by repeat (first | exact List.Mem.head _ | refine List.Mem.tail _ ?_)))
    rcases List.mem_cons.mp hq with rfl | hq
    · exact Nat.ne_of_gt (Nat.add_lt_add_left (show 5 < 7 by decide) L')
    rcases List.mem_cons.mp hq with rfl | hq
    · exact Nat.ne_of_gt (Nat.add_lt_add_left (show 5 < 6 by decide) L')
    cases hq
  case h2oMx =>
    intro q hq
    rcases List.mem_cons.mp hq with rfl | hq
    · exact Nat.ne_of_lt (Nat.add_lt_add_left (show 4 < 5 by decide) L')
    rcases List.mem_cons.mp hq with rfl | hq
    · exact Nat.ne_of_lt (Nat.add_lt_add_left (show 3 < 5 by decide) L')
    rcases List.mem_cons.mp hq with rfl | hq
    · exact Nat.ne_of_lt (Nat.add_lt_add_left (show 2 < 5 by decide) L')
    rcases List.mem_cons.mp hq with rfl | hq
    · exact Nat.ne_of_lt (Nat.add_lt_add_left (show 1 < 5 by decide) L')
    exact Nat.ne_of_lt (Nat.lt_of_lt_of_le (l1 q hq) (Nat.le_add_right L' 5))
  clear F N
  intro h4 oMx F N dMx
  dsimp only [List.cons_append, List.nil_append] at N
  try dsimp only
  k_steps
  try unfold Halt
  rename Fr _ _ _ _ => F
  rename News _ _ _ _ => N
  have hml : ms.length ≤ 100 := by rw [(Halt.out hIMk).length]; exact CP.mlen
  refine' kmk_slice_ints F N (News.isList N (.head _)) IsPart.none IsPart.none (Halt.out hIMk) (kmk_all (Halt.out hIMk)) rfl ?_ ?ks2 ?kt2 ?kz2
  case ks2 => with_unfolding_all rfl
  case kt2 => kmk_pure
  case kz2 => rw [sizeLine_eq]; simp only [List.size_toArray]; omega
  clear F N
  intro Kp ks h5 F N lK hIK _ _
  have hIKk : Halt (IntsAre ks (marksF ns)) := hIK
  clear hIK
  k_steps
  try unfold Halt
  rename Fr _ _ _ _ => F
  rename News _ _ _ _ => N
  rename IsRange _ _ _ _ _ _ _ _ => RG
  refine LCg.CompSrc.range (n := 10) (by rfl) F N RG (by decide) (by rfl) (by rw [sizeLine_eq]; decide) ?_
  clear RG
  intro g9
  refine' kcf_range (fun k => (sep.length : Int) * (K k.toNat : Int)) (fun k' t' I' oI' C' oC' D' m' ys' h' tk' E' hlo' hhi' hC' hx' F' N' off' ne' hMark' => ?turnA) ?finA
  case turnA =>
    clear F N hret
    simp only [LCg.Off3, and_true] at off'
    k_steps
    try unfold Halt
    rename Fr _ _ _ _ => F
    rename News _ _ _ _ => N
    obtain ⟨hK1, hK2⟩ := CP.hK k'.toNat (by omega)
    k_dflt (refine' (bisl_plain w p loose mean mg mb _ M ms nm (marksF ns) k' _ (K k'.toNat) ?mM (Halt.out hIMk) CP.mlen hK1 ?qM) _ _ _ _ _ _ _ _ _ _ _ _ _ _ _ _ _ ?hB3 ?hF3 ?hX3 ?hN3 ?hT3 ?hK3 ?hpre3 ?hd3 ?hu3 ?_)
    case hB3 => k_asm
    case hF3 => k_asm
    case hX3 => k_asm
    case hN3 => k_asm
    case hT3 => k_asm
    case hK3 => exact rfl
    case hpre3 => trivial
    case hd3 => ktr_room
    case hu3 => ktr_units
    case mM => repeat (first | exact List.Mem.head _ | refine List.Mem.tail _ ?_)
    case qM =>
      intro i hi9
      have := hK2 i hi9
      rwa [Int.toNat_of_nonneg (by omega)] at this
    clear F N
    intro t4 h9 tk9 F N
    try dsimp only
    k_steps
  case finA =>
    unfold KPfDone
    intro ays hAI
    have hAIk : Halt (IntsAre ays _) := hAI
    clear hAI
    clear F N
    unfold LCg.FinE
    intro Am h6 tk6 F N lA
    replace N : News g' L' h6 ((Am, listOf ays.toArray ays.length) :: _) := N
    replace lA := off1_mem lA
    try dsimp only
    refine' stCN (own := [_, _, _, _, _, _]) (rest := _ :: _ :: _ :: _ :: _ :: V) F N rfl d2 ?h1oAx ?h2oAx ?_
    case h1oAx =>
      intro q hq
      rcases List.mem_cons.mp hq with rfl | hq
      · exact Ne.symm (lA (L' + 1 + 1 + 1 + 1 + 1 + 1, _) (by repeat (first | exact List.Mem.head _ | refine List.Mem.tail _ ?_)))
      rcases List.mem_cons.mp hq with rfl | hq
      · exact Nat.ne_of_gt (lK (L' + 1 + 1 + 1 + 1 + 1 + 1, _) (by repeat (first | exact List.Mem.head _ | refine List.Mem.tail _ ?_)))
      rcases List.mem_cons.mp hq with rfl | hq
      · exact Nat.ne_of_gt (lM (L' + 1 + 1 + 1 + 1 + 1 + 1, _) (by repeat (first | exact List.Mem.head _ | refine List.Mem.tail _ ?_)))
      rcases List.mem_cons.mp hq with rfl | hq
      · exact Nat.ne_of_gt (lT (L' + 1 + 1 + 1 + 1 + 1 + 1, _) (by repeat (first | exact List.Mem.head _ | refine List.Mem.tail _ ?_)))
      rcases List.mem_cons.mp hq with rfl | hq
      · exact Nat.ne_of_gt (lH (L' + 1 + 1 + 1 + 1 + 1 + 1, _) (by repeat (first | exact List.Mem.head _ | refine List.Mem.tail _ ?_)))
      rcases List.mem_cons.mp hq with rfl | hq
      · exact Nat.ne_of_gt (Nat.add_lt_add_left (show 6 < 7 by decide) L')
      cases hq
    case h2oAx =>
      intro q hq
      rcases List.mem_cons.mp hq with rfl | hq
      · exact Nat.ne_of_lt (Nat.add_lt_add_left (show 5 < 6 by decide) L')
      rcases List.mem_cons.mp hq with rfl | hq
      · exact Nat.ne_of_lt (Nat.add_lt_add_left (show 4 < 6 by decide) L')
      rcases List.mem_cons.mp hq with rfl | hq
      · exact Nat.ne_of_lt (Nat.add_lt_add_left (show 3 < 6 by decide) L')
      rcases List.mem_cons.mp hq with rfl | hq
      · exact Nat.ne_of_lt (Nat.add_lt_add_left (show 2 < 6 by decide) L')
      rcases List.mem_cons.mp hq with rfl | hq
      · exact Nat.ne_of_lt (Nat.add_lt_add_left (show 1 < 6 by decide) L')
      exact Nat.ne_of_lt (Nat.lt_of_lt_of_le (l1 q hq) (Nat.le_add_right L' 6))
    clear F N
    intro h7 oAx F N dAx
    dsimp only [List.cons_append, List.nil_append] at N
    try dsimp only
    k_steps
    try unfold Halt
    rename Fr _ _ _ _ => F
    rename News _ _ _ _ => N
    rename IsRange _ _ _ _ _ _ _ _ => RG
    refine LCg.CompSrc.range (n := 10) (by rfl) F N RG (by decide) (by rfl) (by rw [sizeLine_eq]; decide) ?_
    clear RG
    intro g9
    refine' kct_range (fun k => ⟨(lineL (textL ns sep.cps.toList k.toNat) k width tail 0).toArray⟩) (fun k' t' I' oI' C' oC' D' m' ys' h' tk' E' hlo' hhi' hC' hx' F' N' off' ne' hMark' => ?turnB) ?finB
    case turnB =>
      clear F N hret
      have off0 := off'
      simp only [LCg.Off3, and_true] at off'
      k_steps
      try unfold Halt
      rename Fr _ _ _ _ => F
      rename News _ _ _ _ => N
      refine item_strsA (News.isList N (by repeat (first | exact List.Mem.head _ | refine List.Mem.tail _ ?_))) hts (by omega) (by simp; omega) (by omega) ?_
      intro _
      rw [show (((List.range 10).map (textS ns sep.cps.toList)).getD k'.toNat Str.empty) = textS ns sep.cps.toList k'.toNat by
        rw [List.getD_eq_getElem?_getD, List.getElem?_map, List.getElem?_range (by omega)]; rfl]
      have hTl : (textS ns sep.cps.toList k'.toNat).length ≤ 100 := by
        have := textL_len ns sep.cps.toList k'.toNat
        have hs2 : sep.cps.toList.length ≤ 2 := by simpa [Str.length] using hsep
        have h9 : k'.toNat ≤ 9 := by omega
        have h10 := Nat.mul_le_mul h9 hs2
        have e : (textS ns sep.cps.toList k'.toNat).length = (textL ns sep.cps.toList k'.toNat).length := by simp [textS, Str.length]
        omega
      k_steps
      try unfold Halt
      rename Fr _ _ _ _ => F
      rename News _ _ _ _ => N
      k_dflt (refine' (line_ok w p loose mean mg mb _ (textS ns sep.cps.toList k'.toNat) _ k' _ width _ tail _ 0 _) _ _ _ _ _ _ _ _ _ _ _ _ _ _ _ _ _ ?hB4 ?hF4 ?hX4 ?hN4 ?hT4 ?hK4 ?hpre4 ?hd4 ?hu4 ?_)
      case hB4 => k_asm
      case hF4 => k_asm
      case hX4 => k_asm
      case hN4 => k_asm
      case hT4 => k_asm
      case hK4 => exact rfl
      case hpre4 => exact ⟨by omega, by omega, by omega, by omega, by omega, by omega, by omega, by omega, hTl⟩
      case hd4 => ktr_room
      case hu4 => ktr_units
      clear F N
      intro t4 h9 tk9 F N
      try dsimp only
      k_steps
      refine' LCg.CompEnd.intro F N _ (fun _ h => h) off0 True.intro ⟨rfl, _, rfl⟩
    case finB =>
      unfold KPfDone
      intro lys hLI hL10
      clear F N
      unfold LCg.FinE
      intro Ln h8 tk8 F N lL
      replace N : News g' L' h8 ((Ln, listOf lys.toArray lys.length) :: _) := N
      replace lL := off1_mem lL
      try dsimp only
      refine' stCN (own := [_, _, _, _, _, _]) (rest := _ :: _ :: _ :: _ :: _ :: _ :: V) F N rfl d1 ?h1oLx ?h2oLx ?_
      case h1oLx =>
        intro q hq
        rcases List.mem_cons.mp hq with rfl | hq
        · exact Ne.symm (lL (L' + 1 + 1 + 1 + 1 + 1 + 1 + 1, _) (by repeat (first | exact List.Mem.head _ | refine List.Mem.tail _ ?_)))
        rcases List.mem_cons.mp hq with rfl | hq
        · exact Ne.symm (lA (L' + 1 + 1 + 1 + 1 + 1 + 1 + 1, _) (by repeat (first | exact List.Mem.head _ | refine List.Mem.tail _ ?_)))
        rcases List.mem_cons.mp hq with rfl | hq
        · exact Nat.ne_of_gt (lK (L' + 1 + 1 + 1 + 1 + 1 + 1 + 1, _) (by repeat (first | exact List.Mem.head _ | refine List.Mem.tail _ ?_)))
        rcases List.mem_cons.mp hq with rfl | hq
        · exact Nat.ne_of_gt (lM (L' + 1 + 1 + 1 + 1 + 1 + 1 + 1, _) (by repeat (first | exact List.Mem.head _ | refine List.Mem.tail _ ?_)))
        rcases List.mem_cons.mp hq with rfl | hq
        · exact Nat.ne_of_gt (lT (L' + 1 + 1 + 1 + 1 + 1 + 1 + 1, _) (by repeat (first | exact List.Mem.head _ | refine List.Mem.tail _ ?_)))
        rcases List.mem_cons.mp hq with rfl | hq
        · exact Nat.ne_of_gt (lH (L' + 1 + 1 + 1 + 1 + 1 + 1 + 1, _) (by repeat (first | exact List.Mem.head _ | refine List.Mem.tail _ ?_)))
        cases hq
      case h2oLx =>
        intro q hq
        rcases List.mem_cons.mp hq with rfl | hq
        · exact Nat.ne_of_lt (Nat.add_lt_add_left (show 6 < 7 by decide) L')
        rcases List.mem_cons.mp hq with rfl | hq
        · exact Nat.ne_of_lt (Nat.add_lt_add_left (show 5 < 7 by decide) L')
        rcases List.mem_cons.mp hq with rfl | hq
        · exact Nat.ne_of_lt (Nat.add_lt_add_left (show 4 < 7 by decide) L')
        rcases List.mem_cons.mp hq with rfl | hq
        · exact Nat.ne_of_lt (Nat.add_lt_add_left (show 3 < 7 by decide) L')
        rcases List.mem_cons.mp hq with rfl | hq
        · exact Nat.ne_of_lt (Nat.add_lt_add_left (show 2 < 7 by decide) L')
        rcases List.mem_cons.mp hq with rfl | hq
        · exact Nat.ne_of_lt (Nat.add_lt_add_left (show 1 < 7 by decide) L')
        exact Nat.ne_of_lt (Nat.lt_of_lt_of_le (l1 q hq) (Nat.le_add_right L' 7))
      clear F N
      intro h9 oLx F N dLx
      dsimp only [List.cons_append, List.nil_append] at N
      try dsimp only
      k_steps
      try unfold Halt
      rename Fr _ _ _ _ => F
      rename News _ _ _ _ => N
      rename IsRange _ _ _ _ _ _ _ _ => RG
      refine LCg.CompSrc.range (n := 10) (by rfl) F N RG (by decide) (by rfl) (by rw [sizeLine_eq]; decide) ?_
      clear RG
      intro g9
      refine' kct_range (fun k => ⟨(lineL (textL ns sep.cps.toList k.toNat) k width tail (((textS ns sep.cps.toList k.toNat).length : Int) - k)).toArray⟩) (fun k' t' I' oI' C' oC' D' m' ys' h' tk' E' hlo' hhi' hC' hx' F' N' off' ne' hMark' => ?turnC) ?finC
      case turnC =>
        clear F N hret
        have off0 := off'
        simp only [LCg.Off3, and_true] at off'
        have hTl : (textS ns sep.cps.toList k'.toNat).length ≤ 100 := by
          have := textL_len ns sep.cps.toList k'.toNat
          have hs2 : sep.cps.toList.length ≤ 2 := by simpa [Str.length] using hsep
          have h9 : k'.toNat ≤ 9 := by omega
          have h10 := Nat.mul_le_mul h9 hs2
          have e : (textS ns sep.cps.toList k'.toNat).length = (textL ns sep.cps.toList k'.toNat).length := by simp [textS, Str.length]
          omega
        have hTg : k'.toNat ≤ (textS ns sep.cps.toList k'.toNat).length := by
          have := textL_ge ns sep.cps.toList k'.toNat
          have e : (textS ns sep.cps.toList k'.toNat).length = (textL ns sep.cps.toList k'.toNat).length := by simp [textS, Str.length]
          omega
        k_steps
        try unfold Halt
        rename Fr _ _ _ _ => F
        rename News _ _ _ _ => N
        refine item_strsA (News.isList N (by repeat (first | exact List.Mem.head _ | refine List.Mem.tail _ ?_))) hts (by omega) (by simp; omega) (by omega) ?_
        intro _
        rw [show (((List.range 10).map (textS ns sep.cps.toList)).getD k'.toNat Str.empty) = textS ns sep.cps.toList k'.toNat by
          rw [List.getD_eq_getElem?_getD, List.getElem?_map, List.getElem?_range (by omega)]; rfl]
        k_steps
        try unfold Halt
        rename Fr _ _ _ _ => F
        rename News _ _ _ _ => N
        refine item_strsA (News.isList N (by repeat (first | exact List.Mem.head _ | refine List.Mem.tail _ ?_))) hts (by omega) (by simp; omega) (by omega) ?_
        intro _
        rw [show (((List.range 10).map (textS ns sep.cps.toList)).getD k'.toNat Str.empty) = textS ns sep.cps.toList k'.toNat by
          rw [List.getD_eq_getElem?_getD, List.getElem?_map, List.getElem?_range (by omega)]; rfl]
        k_steps
        try unfold Halt
        rename Fr _ _ _ _ => F
        rename News _ _ _ _ => N
        k_dflt (refine' (line_ok w p loose mean mg mb _ (textS ns sep.cps.toList k'.toNat) _ k' _ width _ tail _ (((textS ns sep.cps.toList k'.toNat).length : Int) - k') _) _ _ _ _ _ _ _ _ _ _ _ _ _ _ _ _ _ ?hB5 ?hF5 ?hX5 ?hN5 ?hT5 ?hK5 ?hpre5 ?hd5 ?hu5 ?_)
        case hB5 => k_asm
        case hF5 => k_asm
        case hX5 => k_asm
        case hN5 => k_asm
        case hT5 => k_asm
        case hK5 => exact rfl
        case hpre5 => exact ⟨by omega, by omega, by omega, by omega, by omega, by omega, by omega, by omega, hTl⟩
        case hd5 => ktr_room
        case hu5 => ktr_units
        clear F N
        intro t4 h9 tk9 F N
        try dsimp only
        k_steps
        refine' LCg.CompEnd.intro F N _ (fun _ h => h) off0 True.intro ⟨rfl, _, rfl⟩
      case finC =>
        unfold KPfDone
        intro fys hFI hF10
        clear F N
        unfold LCg.FinA
        intro Lf h10 tk10 F N lF
        replace N : News g' L' h10 ((Lf, listOf fys.toArray fys.length) :: _) := N
        replace lF := off1_mem lF
        try dsimp only
        k_steps
        try unfold Halt
        rename Fr _ _ _ _ => F
        rename News _ _ _ _ => N
        rename IsRange _ _ _ _ _ _ _ _ => RG
        refine LCg.CompSrc.range (n := 10) (by rfl) F N RG (by decide) (by rfl) (by rw [sizeLine_eq]; decide) ?_
        clear RG
        intro g9
        refine' kct_range (fun k => ⟨(lineL (textL ns sep.cps.toList k.toNat) k width tail (((textS ns sep.cps.toList k.toNat).length : Int) - k)).toArray⟩) (fun k' t' I' oI' C' oC' D' m' ys' h' tk' E' hlo' hhi' hC' hx' F' N' off' ne' hMark' => ?turnD) ?finD
        case turnD =>
          have hLS := CarriedAll.strsOf hLI
          clear F N hret
          have off0 := off'
          simp only [LCg.Off3, and_true] at off'
          k_steps
          try unfold Halt
          rename Fr _ _ _ _ => F
          rename News _ _ _ _ => N
          refine item_strsA (News.isList N (by repeat (first | exact List.Mem.head _ | refine List.Mem.tail _ ?_))) hLS (by omega) (by simp [rangeKs]; omega) (by omega) ?_
          intro _
          rw [rk_getS _ (by omega) (by omega)]
          k_steps
          try unfold Halt
          rename Fr _ _ _ _ => F
          rename News _ _ _ _ => N
          refine item_list_ints (News.isList N (by repeat (first | exact List.Mem.head _ | refine List.Mem.tail _ ?_))) (Halt.out hAIk) (by omega) (by simp [rangeKs]; omega) (by omega) ?_
          intro _
          rw [rk_getI _ (by omega) (by omega)]
          k_steps
          try unfold Halt
          rename Fr _ _ _ _ => F
          rename News _ _ _ _ => N
          obtain ⟨hS1, hS2, hS3⟩ := CP.hS k'.toNat (by omega)
          rw [Int.toNat_of_nonneg (by omega)] at hS1 hS2 hS3
          k_dflt (refine' (strip_ok w p loose mean mg mb _ ⟨(lineL (textL ns sep.cps.toList k'.toNat) k' width tail 0).toArray⟩ _ ((sep.length : Int) * (K k'.toNat : Int)) _) _ _ _ _ _ _ _ _ _ _ _ _ _ _ _ _ _ ?hB6 ?hF6 ?hX6 ?hN6 ?hT6 ?hK6 ?hpre6 ?hd6 ?hu6 ?_)
          case hB6 => k_asm
          case hF6 => k_asm
          case hX6 => k_asm
          case hN6 => k_asm
          case hT6 => k_asm
          case hK6 => exact rfl
          case hpre6 => exact ⟨hS1, by simp only [Str.length, List.size_toArray]; omega⟩
          case hd6 => ktr_room
          case hu6 => ktr_units
          clear F N
          intro t4 h9 tk9 F N
          try dsimp only
          rw [hS3]
          k_steps
          refine' LCg.CompEnd.intro F N _ (fun _ h => h) off0 True.intro ⟨rfl, _, rfl⟩
        case finD =>
          unfold KPfDone
          intro gys hGI hG10
          clear F N
          unfold LCg.FinE
          intro Lg h11 tk11 F N lG
          replace N : News g' L' h11 ((Lg, listOf gys.toArray gys.length) :: _) := N
          replace lG := off1_mem lG
          try dsimp only
          k_steps
          try unfold Halt
          rename Fr _ _ _ _ => F
          rename News _ _ _ _ => N
          refine ne_strs_self (News.isList N (.head _)) (CarriedAll.strsOf hGI) (News.isList N (.tail _ (.head _))) (CarriedAll.strsOf hFI) CP.okC (by ktr_units) ?_
          k_steps
          try unfold Halt
          rename Fr _ _ _ _ => F
          rename News _ _ _ _ => N
          refine item_strsA (News.isList N (by repeat (first | exact List.Mem.head _ | refine List.Mem.tail _ ?_))) hts (by omega) (by simp) (by omega) ?_
          intro _
          rw [show (((List.range 10).map (textS ns sep.cps.toList)).getD (9 : Int).toNat Str.empty) = textS ns sep.cps.toList 9 from rfl]
          k_steps
          try unfold Halt
          rename Fr _ _ _ _ => F
          rename News _ _ _ _ => N
          have TIx := TI
          obtain ⟨psT, hpsT, _, _⟩ := TIx
          have h86 : 86 < L' := l1 _ hpsT
          have hH86 : H ≠ 86 := Nat.ne_of_gt (lH _ ((.tail _ (.tail _ (.tail _ (.tail _ (.tail _ (.tail _ (.tail _ hpsT)))))))))
          have hT86 : T ≠ 86 := Nat.ne_of_gt (lT _ ((.tail _ (.tail _ (.tail _ (.tail _ (.tail _ (.tail _ (.tail _ (.tail _ hpsT))))))))))
          have hM86 : M ≠ 86 := Nat.ne_of_gt (lM _ ((.tail _ (.tail _ (.tail _ (.tail _ (.tail _ (.tail _ (.tail _ (.tail _ (.tail _ hpsT)))))))))))
          have hK86 : Kp ≠ 86 := Nat.ne_of_gt (lK _ ((.tail _ (.tail _ (.tail _ (.tail _ (.tail _ (.tail _ (.tail _ (.tail _ (.tail _ (.tail _ hpsT))))))))))))
          have hA86 : Am ≠ 86 := Ne.symm (lA _ ((.tail _ (.tail _ (.tail _ (.tail _ (.tail _ (.tail _ (.tail _ (.tail _ (.tail _ (.tail _ (.tail _ hpsT)))))))))))))
          have hL86 : Ln ≠ 86 := Ne.symm (lL _ ((.tail _ (.tail _ (.tail _ (.tail _ (.tail _ (.tail _ (.tail _ (.tail _ (.tail _ (.tail _ (.tail _ (.tail _ hpsT))))))))))))))
          have hT9l : (textS ns sep.cps.toList 9).length ≤ 100 := CP.t9
          have hLS := CarriedAll.strsOf hLI
          k_dflt (refine' (fits_ok w p loose mean mg mb _ (TI.mono ?tiM) Ln lys lys.length _ ?mL hLS hL86 Am ays ays.length _ ?mA (Halt.out hAIk) hA86 ?nL ?nA (textS ns sep.cps.toList 9) _ width _ hT9l hw1 hw2 ?fq1 ?fq2 ?fq3 CP.hf1 CP.hf2) _ _ _ _ _ _ _ _ _ _ _ _ _ _ _ _ _ ?hB7 ?hF7 ?hX7 ?hN7 ?hT7 ?hK7 ?hd7 ?hu7 ?_)
          case hB7 => k_asm
          case hF7 => k_asm
          case hX7 => k_asm
          case hN7 => k_asm
          case hT7 => k_asm
          case hK7 => exact rfl
          case hd7 => ktr_room
          case hu7 => ktr_units
          case tiM => intro q hq; repeat (first | exact hq | refine List.Mem.tail _ ?_)
          case mL => repeat (first | exact List.Mem.head _ | refine List.Mem.tail _ ?_)
          case mA => repeat (first | exact List.Mem.head _ | refine List.Mem.tail _ ?_)
          case nL => simp [rangeKs]
          case nA => simp [rangeKs]
          case fq1 =>
            intro i hi9
            have e := rk_getI (fun k => (sep.length : Int) * (K k.toNat : Int)) (k := (i : Int)) (by omega) (by omega)
            rw [Int.toNat_natCast] at e
            rw [e]; exact CP.hq1 i hi9
          case fq3 =>
            intro i hi9
            have e := rk_getI (fun k => (sep.length : Int) * (K k.toNat : Int)) (k := (i : Int)) (by omega) (by omega)
            rw [Int.toNat_natCast] at e
            rw [e]; exact CP.hq3 i hi9
          case fq2 =>
            intro i hi9
            have e := rk_getI (fun k => (sep.length : Int) * (K k.toNat : Int)) (k := (i : Int)) (by omega) (by omega)
            have e2 := rk_getS (fun k => (⟨(lineL (textL ns sep.cps.toList k.toNat) k width tail 0).toArray⟩ : Str)) (k := (i : Int)) (by omega) (by omega)
            rw [Int.toNat_natCast] at e e2
            rw [e, e2]
            obtain ⟨hS1, hS2, _⟩ := CP.hS i hi9
            exact ⟨hS1, hS2, CP.hq2 i hi9⟩
          clear F N
          intro V2 h12 tk12 TI2 hV2 F N0
          have N := news_keep (A := [(Ln, listOf lys.toArray lys.length), (Am, listOf ays.toArray ays.length), (Kp, listOf ks.toArray 0), (M, listOf ms.toArray nm), (T, listOf ts.toArray nt), (H, listOf ws.toArray 0), (L' + 1 + 1 + 1 + 1 + 1 + 1 + 1, oLx), (L' + 1 + 1 + 1 + 1 + 1 + 1, oAx), (L' + 1 + 1 + 1 + 1 + 1, oMx), (L' + 1 + 1 + 1 + 1, oTx), (L' + 1 + 1 + 1, o5), (L' + 1 + 1, o6), (L' + 1, o7)]) N0 (List.forall_mem_cons.mpr ⟨hV2 (Ln, listOf lys.toArray lys.length) (by repeat (first | exact List.Mem.head _ | refine List.Mem.tail _ ?_)) (hL86), List.forall_mem_cons.mpr ⟨hV2 (Am, listOf ays.toArray ays.length) (by repeat (first | exact List.Mem.head _ | refine List.Mem.tail _ ?_)) (hA86), List.forall_mem_cons.mpr ⟨hV2 (Kp, listOf ks.toArray 0) (by repeat (first | exact List.Mem.head _ | refine List.Mem.tail _ ?_)) (hK86), List.forall_mem_cons.mpr ⟨hV2 (M, listOf ms.toArray nm) (by repeat (first | exact List.Mem.head _ | refine List.Mem.tail _ ?_)) (hM86), List.forall_mem_cons.mpr ⟨hV2 (T, listOf ts.toArray nt) (by repeat (first | exact List.Mem.head _ | refine List.Mem.tail _ ?_)) (hT86), List.forall_mem_cons.mpr ⟨hV2 (H, listOf ws.toArray 0) (by repeat (first | exact List.Mem.head _ | refine List.Mem.tail _ ?_)) (hH86), List.forall_mem_cons.mpr ⟨hV2 (L' + 1 + 1 + 1 + 1 + 1 + 1 + 1, oLx) (by repeat (first | exact List.Mem.head _ | refine List.Mem.tail _ ?_)) (Nat.ne_of_gt (Nat.lt_of_lt_of_le h86 (Nat.le_add_right L' 7))), List.forall_mem_cons.mpr ⟨hV2 (L' + 1 + 1 + 1 + 1 + 1 + 1, oAx) (by repeat (first | exact List.Mem.head _ | refine List.Mem.tail _ ?_)) (Nat.ne_of_gt (Nat.lt_of_lt_of_le h86 (Nat.le_add_right L' 6))), List.forall_mem_cons.mpr ⟨hV2 (L' + 1 + 1 + 1 + 1 + 1, oMx) (by repeat (first | exact List.Mem.head _ | refine List.Mem.tail _ ?_)) (Nat.ne_of_gt (Nat.lt_of_lt_of_le h86 (Nat.le_add_right L' 5))), List.forall_mem_cons.mpr ⟨hV2 (L' + 1 + 1 + 1 + 1, oTx) (by repeat (first | exact List.Mem.head _ | refine List.Mem.tail _ ?_)) (Nat.ne_of_gt (Nat.lt_of_lt_of_le h86 (Nat.le_add_right L' 4))), List.forall_mem_cons.mpr ⟨hV2 (L' + 1 + 1 + 1, o5) (by repeat (first | exact List.Mem.head _ | refine List.Mem.tail _ ?_)) (Nat.ne_of_gt (Nat.lt_of_lt_of_le h86 (Nat.le_add_right L' 3))), List.forall_mem_cons.mpr ⟨hV2 (L' + 1 + 1, o6) (by repeat (first | exact List.Mem.head _ | refine List.Mem.tail _ ?_)) (Nat.ne_of_gt (Nat.lt_of_lt_of_le h86 (Nat.le_add_right L' 2))), List.forall_mem_cons.mpr ⟨hV2 (L' + 1, o7) (by repeat (first | exact List.Mem.head _ | refine List.Mem.tail _ ?_)) (Nat.ne_of_gt (Nat.lt_of_lt_of_le h86 (Nat.le_add_right L' 1))), fun _ h => nomatch h⟩⟩⟩⟩⟩⟩⟩⟩⟩⟩⟩⟩⟩)
          dsimp only [List.cons_append, List.nil_append] at N
          clear N0
          try dsimp only
          k_steps
          try unfold Halt
          rename Fr _ _ _ _ => F
          rename News _ _ _ _ => N
          refine item_strsA (News.isList N (by repeat (first | exact List.Mem.head _ | refine List.Mem.tail _ ?_))) hts (by omega) (by simp) (by omega) ?_
          intro _
          rw [show (((List.range 10).map (textS ns sep.cps.toList)).getD (9 : Int).toNat Str.empty) = textS ns sep.cps.toList 9 from rfl]
          k_steps
          try unfold Halt
          rename Fr _ _ _ _ => F
          rename News _ _ _ _ => N
          k_dflt (refine' (figures_ok w p loose mean mg mb _ (textS ns sep.cps.toList 9) _ width _ hT9l (by omega) (by omega)) _ _ _ _ _ _ _ _ _ _ _ _ _ _ _ _ _ ?hB8 ?hF8 ?hX8 ?hN8 ?hT8 ?hK8 ?hpre8 ?hd8 ?hu8 ?_)
          case hB8 => k_asm
          case hF8 => k_asm
          case hX8 => k_asm
          case hN8 => k_asm
          case hT8 => k_asm
          case hK8 => exact rfl
          case hpre8 => trivial
          case hd8 => ktr_room
          case hu8 => ktr_units
          clear F N
          intro t5 h13 tk13 F N
          try dsimp only
          rw [show figL (textS ns sep.cps.toList 9).cps.toList width = figL (textL ns sep.cps.toList 9) width from rfl]
          have hf1 := CP.hf1
          have hE := CP.hE
          have hS0 := (CP.hS (figL (textL ns sep.cps.toList 9) width) (by omega)).2.1
          have hl9 : (figL (textL ns sep.cps.toList 9) width) ≤ 9 := hf1
          k_steps
          try unfold Halt
          rename Fr _ _ _ _ => F
          rename News _ _ _ _ => N
          refine item_strsA (News.isList N (by repeat (first | exact List.Mem.head _ | refine List.Mem.tail _ ?_))) hLS (by omega) (by simp [rangeKs]; omega) (by omega) ?_
          intro _
          rw [rk_getS _ (by omega) (by omega), Int.toNat_natCast]
          k_steps
          try unfold Halt
          rename Fr _ _ _ _ => F
          rename News _ _ _ _ => N
          k_dflt (refine' (strip_ok w p loose mean mg mb _ ⟨(lineL (textL ns sep.cps.toList (figL (textL ns sep.cps.toList 9) width)) (figL (textL ns sep.cps.toList 9) width) width tail 0).toArray⟩ _ (-1 - tail) _) _ _ _ _ _ _ _ _ _ _ _ _ _ _ _ _ _ ?hB9 ?hF9 ?hX9 ?hN9 ?hT9 ?hK9 ?hpre9 ?hd9 ?hu9 ?_)
          case hB9 => k_asm
          case hF9 => k_asm
          case hX9 => k_asm
          case hN9 => k_asm
          case hT9 => k_asm
          case hK9 => exact rfl
          case hpre9 => exact ⟨hE.1, by simp only [Str.length, List.size_toArray]; omega⟩
          case hd9 => ktr_room
          case hu9 => ktr_units
          clear F N
          intro t6 h14 tk14 F N
          try dsimp only
          rw [hE.2]
          k_steps
          try unfold Halt
          rename Fr _ _ _ _ => F
          rename News _ _ _ _ => N
          refine item_strsA (News.isList N (by repeat (first | exact List.Mem.head _ | refine List.Mem.tail _ ?_))) hts (by omega) (by simp; omega) (by omega) ?_
          intro _
          rw [show (((List.range 10).map (textS ns sep.cps.toList)).getD (((figL (textL ns sep.cps.toList 9) width) : Nat) : Int).toNat Str.empty) = textS ns sep.cps.toList (figL (textL ns sep.cps.toList 9) width) by
            rw [Int.toNat_natCast, List.getD_eq_getElem?_getD, List.getElem?_map, List.getElem?_range (by omega)]; rfl]
          k_steps
          · exfalso
            rename (_ != _) = true => hne
            simp [textS] at hne
          unfold Halt
          rename Fr _ _ _ _ => F
          rename News _ _ _ _ => N
          have hrV : (Dr, listOf vs.toArray nn) ∈ V2 := hV2 _ (by
            repeat (first | exact hr | refine List.Mem.tail _ ?_)) hr86
          refine eq_intsK (News.isList N (by repeat (first | exact hrV | refine List.Mem.tail _ ?_))) (Halt.out hik) (News.isList N (by repeat (first | exact List.Mem.head _ | refine List.Mem.tail _ ?_))) (Halt.out hIHk) (by ktr_units) ?_
          rw [show decide (ns = ns) = true from decide_eq_true rfl]
          k_steps
          try unfold Halt
          rename Fr _ _ _ _ => F
          rename News _ _ _ _ => N
          refine eq_intsK (News.isList N (by repeat (first | exact List.Mem.head _ | refine List.Mem.tail _ ?_))) (Halt.out hIMk) (News.isList N (by repeat (first | exact List.Mem.head _ | refine List.Mem.tail _ ?_))) (Halt.out hIKk) (by ktr_units) ?_
          rw [show decide (marksF ns = marksF ns) = true from decide_eq_true rfl]
          k_steps
          refine hret V2 _ _ _ hbare TI2 ?_ (by assumption) (kst_newsOf (by assumption) (by intro q hq; simp [hq]))
          intro q hq hne
          refine hV2 q ?_ hne
          repeat (first | exact hq | refine List.Mem.tail _ ?_)
end Mine
end

theorem Mine.part_plain2 : True := by
  w_top off
  k_with_none
  trivial
section
open PySem PySem.W PyProof.Rows PySem.Spec PySem.Calls
namespace Mine

/-- what a row of sizes must be -/
structure RowP (ns : List Int) : Prop where
  len : ns.length ≤ 100
  h0 : ns.head? ≠ some 0
  pos : ∀ k x, gseq ns none k = some x → 1 ≤ x
  hK : ∀ n : Nat, n < 10 → cuts ns n ≤ (marksF ns).length ∧ ∀ i : Nat, i < (marksF ns).length → ((marksF ns).getD i 0 < (n : Int) ↔ i < cuts ns n)
structure SepP (sep : Str) : Prop where
  len : sep.length ≤ 2
  nodig : dig sep.cps.toList = 0
  ok : ∀ c ∈ sep.cps.toList, c < 0x110000

theorem mkGo_len (q : Nat → Option Int) : ∀ f k wh, (mkGo q f k wh).length ≤ f
  | 0, _, _ => Nat.le_refl _
  | f + 1, k, wh => by
    unfold mkGo
    split
    · exact Nat.zero_le _
    · split
      · simp
      · rename_i x _ _
        have := mkGo_len q f (k + 1) (wh + x)
        simp only [List.length_cons]; omega

theorem min_cast (a b : Nat) : min (a : Int) (b : Int) = ((min a b : Nat) : Int) := by
  rcases Nat.le_total a b with h | h
  · rw [Nat.min_eq_left h, Int.min_eq_left (Int.ofNat_le.mpr h)]
  · rw [Nat.min_eq_right h, Int.min_eq_right (Int.ofNat_le.mpr h)]
theorem off_nat (a b : Nat) : (b : Int) - min (a : Int) b = ((b - min a b : Nat) : Int) := by
  rw [min_cast, Int.ofNat_sub (Nat.min_le_right _ _)]
theorem off_nat' (a b : Nat) : (a : Int) - min (a : Int) b = ((a - min a b : Nat) : Int) := by
  rw [min_cast, Int.ofNat_sub (Nat.min_le_left _ _)]
theorem line_nat (t : List Nat) {n w tl a : Int} {A B k : Nat} (hB : min tl (max (w - n) 0) = (B : Int)) (hA : max (w - n) 0 - min tl (max (w - n) 0) = (A : Int)) (ha : a = (k : Int)) :
    lineL t n w tl a = List.replicate (A - min k A) 32 ++ t ++ List.replicate (B - min (k - min k A) B) 32 := by
  unfold lineL
  dsimp only
  rw [hA, hB, ha, off_nat, off_nat', off_nat, Int.toNat_natCast, Int.toNat_natCast]
theorem cast_of {x : Int} (h : 0 ≤ x) : x = (x.toNat : Int) := (Int.toNat_of_nonneg h).symm
theorem beh_nn {tl b : Int} (ht : 0 ≤ tl) (hb : 0 ≤ b) : 0 ≤ min tl b := Int.le_min.mpr ⟨ht, hb⟩
theorem ahd_nn {tl b : Int} : 0 ≤ b - min tl b := Int.sub_nonneg_of_le (Int.min_le_right _ _)
theorem line_eq (t : List Nat) (n w tl a : Int) (ha : 0 ≤ a) (ht : 0 ≤ tl) :
    lineL t n w tl a = List.replicate ((max (w - n) 0 - min tl (max (w - n) 0)).toNat - min a.toNat (max (w - n) 0 - min tl (max (w - n) 0)).toNat) 32 ++ t ++
      List.replicate ((min tl (max (w - n) 0)).toNat - min (a.toNat - min a.toNat (max (w - n) 0 - min tl (max (w - n) 0)).toNat) (min tl (max (w - n) 0)).toNat) 32 :=
  line_nat t (cast_of (beh_nn ht (Int.le_max_right _ _))) (cast_of ahd_nn) (cast_of ha)
theorem line_zero (t : List Nat) (n w tl : Int) (ht : 0 ≤ tl) :
    lineL t n w tl 0 = List.replicate (max (w - n) 0 - min tl (max (w - n) 0)).toNat 32 ++ t ++ List.replicate (min tl (max (w - n) 0)).toNat 32 := by
  rw [line_eq t n w tl 0 (Int.le_refl _) ht, Int.toNat_zero, Nat.zero_min, Nat.sub_zero, Nat.zero_sub, Nat.zero_min, Nat.sub_zero]
theorem two_off (a A B : Nat) : (A - min a A) + (B - min (a - min a A) B) = (A + B) - min a (A + B) := by
  rcases Nat.le_total a A with h | h
  · rw [Nat.min_eq_left h, Nat.sub_self, Nat.zero_min, Nat.sub_zero, Nat.min_eq_left (Nat.le_trans h (Nat.le_add_right _ _)), Nat.sub_add_comm h]
  · rw [Nat.min_eq_right h, Nat.sub_self, Nat.zero_add]
    obtain ⟨c, rfl⟩ := Nat.le.dest h
    rw [Nat.add_sub_cancel_left, Nat.add_min_add_left, Nat.add_sub_add_left]
theorem line_len (t : List Nat) (n w tl a : Int) (ha : 0 ≤ a) (ht : 0 ≤ tl) : ((lineL t n w tl a).length : Int) = max (w - n) 0 - min a (max (w - n) 0) + t.length := by
  have hA := cast_of (ahd_nn (tl := tl) (b := max (w - n) 0))
  have hB := cast_of (beh_nn ht (Int.le_max_right (w - n) 0))
  rw [line_nat t hB hA (cast_of ha), List.length_append, List.length_append, List.length_replicate, List.length_replicate, Nat.add_right_comm, two_off]
  have hs : max (w - n) 0 = (((max (w - n) 0 - min tl (max (w - n) 0)).toNat + (min tl (max (w - n) 0)).toNat : Nat) : Int) := by
    rw [Int.natCast_add, ← hA, ← hB, Int.sub_add_cancel]
  have e := off_nat a.toNat ((max (w - n) 0 - min tl (max (w - n) 0)).toNat + (min tl (max (w - n) 0)).toNat)
  rw [← hs, ← cast_of ha] at e
  rw [e, Int.natCast_add]

theorem strip_zero (l : List Nat) : okS 0 l ∧ stripL 0 l = l := by
  refine ⟨.inl (by rw [lead_zero]; rfl), ?_⟩
  unfold stripL tailS
  rw [lead_zero]
  simp [lead_zero]

theorem textS_len (ns : List Int) (sep : List Nat) (n : Nat) : (textS ns sep n).length = (textL ns sep n).length := by simp [textS, Str.length]

theorem line_strip (ns : List Int) (sep : List Nat) {n : Nat} (hn : n < 10) (w tl : Int) (ht : 0 ≤ tl) {a : Int} (ha : a = ((sep.length * cuts ns n : Nat) : Int)) :
    okS a (lineL (textL ns sep n) n w tl 0) ∧ stripL a (lineL (textL ns sep n) n w tl 0) = lineL (textL ns sep n) n w tl a := by
  cases n with
  | zero =>
    have : a = 0 := by rw [ha]; simp [cuts]
    subst this
    exact strip_zero _
  | succ n =>
    have h0 : 0 ≤ a := by omega
    rw [line_zero _ _ _ _ ht, line_eq _ _ _ _ a h0 ht]
    exact strip_line _ _ h0 (textL_ne ns sep n) (textL_head ns sep (by omega)) (by rw [textL_last]; simp)

theorem textL_mem (ns : List Int) (sep : List Nat) : ∀ (n : Nat) (c : Nat), c ∈ textL ns sep n → c ≤ 57 ∨ c ∈ sep
  | 0, c, h => by simp [textL] at h
  | n + 1, c, h => by
    obtain ⟨r, e, hr⟩ := textL_succ ns sep n
    rw [e] at h
    rcases List.mem_cons.mp h with rfl | h1
    · left; omega
    rcases List.mem_append.mp h1 with h2 | h2
    · clear h h1 e
      rcases hr with rfl | rfl
      · cases h2
      · exact .inr h2
    · exact textL_mem ns sep n c h2
theorem line_mem (t : List Nat) (n w tl a : Int) (c : Nat) (h : c ∈ lineL t n w tl a) : c = 32 ∨ c ∈ t := by
  unfold lineL at h
  dsimp only at h
  rcases List.mem_append.mp h with h | h
  · rcases List.mem_append.mp h with h | h
    · exact .inl (List.eq_of_mem_replicate h)
    · exact .inr h
  · exact .inl (List.eq_of_mem_replicate h)

theorem len_hun {L t : Nat} {w n : Int} (h : (L : Int) = max (w - n) 0 - min 0 (max (w - n) 0) + t) (ht : t ≤ 27) (hw : w ≤ 13) (hn : 0 ≤ n := by exact Int.natCast_nonneg _) : L ≤ 100 := by
  rw [Int.min_eq_left (Int.le_max_right _ _), Int.sub_zero] at h
  have : max (w - n) 0 ≤ 13 := Int.max_le.mpr ⟨by omega, by decide⟩
  omega
theorem iff_not {x w : Int} {i f : Nat} (h : x ≤ w ↔ i ≤ f) : w < x ↔ f + 1 ≤ i := Int.not_le.symm.trans ((not_congr h).trans Nat.not_le)
theorem iff_not1 {x w : Int} {i f : Nat} (h : x ≤ w - 1 ↔ i ≤ f) : x < w ↔ i < f + 1 := Int.le_sub_one_iff.symm.trans (h.trans Nat.lt_succ_iff.symm)
theorem len_wid {s w i : Int} {j f : Nat} (hs : 0 ≤ s) (h : i + s ≤ w ↔ j ≤ f) : w < max (w - i) 0 - min s (max (w - i) 0) + (i + s) ↔ f + 1 ≤ j := by
  refine Iff.trans ?_ (iff_not h)
  by_cases c : i + s ≤ w
  · have h1 : s ≤ w - i := by omega
    rw [Int.max_eq_left (Int.le_trans hs h1), Int.min_eq_left h1]
    omega
  · have h1 : 0 ≤ max (w - i) 0 - min s (max (w - i) 0) := Int.sub_nonneg_of_le (Int.min_le_right _ _)
    exact ⟨fun _ => Int.not_le.mp c, fun h => Int.lt_of_lt_of_le h (Int.le_add_of_nonneg_left h1)⟩
theorem colP_of {ns : List Int} {width tail : Int} {sep : Str} (R : RowP ns) (S : SepP sep) (hw1 : 1 ≤ width) (hw2 : width ≤ 13) (ht1 : 0 ≤ tail) (ht2 : tail ≤ 2) : ColP ns width tail sep (cuts ns) := by
  have hsl : sep.cps.toList.length = sep.length := by simp [Str.length]
  have hs2 := S.len
  have hlen : ∀ n, n < 10 → (textL ns sep.cps.toList n).length ≤ 27 := by
    intro n hn
    have := textL_len ns sep.cps.toList n
    rw [hsl] at this
    have h10 := Nat.mul_le_mul (show n ≤ 9 by omega) hs2
    omega
  have hcuts : ∀ n, (((textL ns sep.cps.toList n).length : Nat) : Int) = n + (sep.length : Int) * (cuts ns n : Int) := by
    intro n
    rw [textL_cuts, hsl]
    push_cast
    rfl
  have hcast : ∀ n, (sep.length : Int) * (cuts ns n : Int) = ((sep.cps.toList.length * cuts ns n : Nat) : Int) := by
    intro n
    rw [hsl]
    push_cast
    rfl
  have hfig : ∀ i : Nat, i < 10 → ∀ v : Int, 0 ≤ v → ((i : Int) + (sep.length : Int) * (cuts ns i : Int) ≤ v ↔ i ≤ figL (textL ns sep.cps.toList 9) v) := by
    intro i hi v hv
    rw [← hcuts]
    exact fig_iff ns S.nodig (by omega) hv
  have hf9 : ∀ v : Int, figL (textL ns sep.cps.toList 9) v ≤ 9 := by
    intro v
    have := dig_le_drop (textL ns sep.cps.toList 9) (max (((textL ns sep.cps.toList 9).length : Int) - v) 0).toNat
    rw [dig_textL ns S.nodig (by omega)] at this
    exact this
  have hS : ∀ n : Nat, n < 10 → okS ((sep.length : Int) * (cuts ns n : Int)) (lineL (textL ns sep.cps.toList n) n width tail 0) ∧ (lineL (textL ns sep.cps.toList n) n width tail 0).length ≤ 100
    ∧ stripL ((sep.length : Int) * (cuts ns n : Int)) (lineL (textL ns sep.cps.toList n) n width tail 0) = lineL (textL ns sep.cps.toList n) n width tail (((textS ns sep.cps.toList n).length : Int) - n) := by
    intro n hn
    obtain ⟨h1, h2⟩ := line_strip ns sep.cps.toList hn width tail ht1 (hcast n)
    refine ⟨h1, ?_, ?_⟩
    · have h3 := line_len (textL ns sep.cps.toList n) n width tail 0 (Int.le_refl _) ht1
      exact len_hun h3 (hlen n hn) hw2
    · rw [h2, textS_len, hcuts, Int.add_comm, Int.add_sub_cancel]
  refine ⟨R.len, R.h0, R.pos, hw1, hw2, ht1, ht2, S.len, ?_, ?_, hS, ?_, ?_, ?_, ?_, hf9 _, hf9 _, ?_, R.hK⟩
  · rw [textS_len]; have := hlen 9 (by omega); omega
  · have := mkGo_len (gseq ns none) 10 0 0
    unfold marksF; omega
  · intro x hx
    obtain ⟨k, _, rfl⟩ := List.mem_map.mp hx
    show (Array.all _ _) = true
    rw [List.all_toArray, List.all_eq_true]
    intro c hc
    have : c < 0x110000 := by
      rcases line_mem _ _ _ _ _ _ hc with rfl | h
      · decide
      · rcases textL_mem _ _ _ _ h with h | h
        · omega
        · exact S.ok c h
    exact decide_eq_true this
  · intro i hi
    exact iff_not (hfig i hi width (Int.le_trans (by decide) hw1))
  · intro i hi
    have h1 := hfig i hi width (by omega)
    rw [(hS i hi).2.2, textS_len]
    have h2 := hcuts i
    have h3 : (0 : Int) ≤ (sep.length : Int) * (cuts ns i : Int) := Int.mul_nonneg (Int.natCast_nonneg _) (Int.natCast_nonneg _)
    have e : (((textL ns sep.cps.toList i).length : Nat) : Int) - i = (sep.length : Int) * (cuts ns i : Int) := by rw [h2, Int.add_comm, Int.add_sub_cancel]
    rw [e, line_len _ _ _ _ _ h3 ht1, h2]
    exact len_wid h3 h1
  · intro i hi
    exact iff_not1 (hfig i hi (width - 1) (Int.sub_nonneg_of_le hw1))
  · obtain ⟨j, hj⟩ : ∃ j, figL (textL ns sep.cps.toList 9) width = j + 1 := by
      have := (hfig 1 (by omega) width (by omega)).mp (by
        have := hcuts 1
        have e : (textL ns sep.cps.toList 1).length = 1 := by simp [textL]
        omega)
      exact ⟨figL (textL ns sep.cps.toList 9) width - 1, by omega⟩
    have h9 := hf9 width
    rw [hj] at h9 ⊢
    rw [line_zero _ _ _ _ ht1]
    exact strip_line_neg _ _ (by omega) (textL_ne ns _ j) (textL_head ns _ (by omega)) (by rw [textL_last]; simp)

/-! the rows -/
theorem cutGo_rest (z : Int) (hz : z = 0 ∨ z = 127) (rest : List Int) : ∀ (l : List Int) (pl wh la : Int), cutGo (l ++ z :: rest) pl wh la = cutGo (l ++ [z]) pl wh la
  | [], pl, wh, la => by
    rcases hz with rfl | rfl
    · simp [cutGo]
    · simp [cutGo]
  | s :: r, pl, wh, la => by
    simp only [List.cons_append, cutGo]
    rw [cutGo_rest z hz rest r]
theorem gseq_rest (z : Int) (hz : z = 0 ∨ z = 127) (rest : List Int) : ∀ (l : List Int) (la : Option Int) (k : Nat), gseq (l ++ z :: rest) la k = gseq (l ++ [z]) la k
  | [], la, k => by
    rcases hz with rfl | rfl
    · simp [gseq]
    · simp [gseq]
  | s :: r, la, k => by
    simp only [List.cons_append, gseq]
    cases k with
    | zero => rfl
    | succ k =>
      simp only
      rw [gseq_rest z hz rest r]
theorem gseq_pos : ∀ (l tl : List Int), (∀ x ∈ l, 1 ≤ x) → (tl = [] ∨ ∃ z r, tl = z :: r ∧ (z = 0 ∨ z = 127)) → ∀ (la : Option Int), (∀ y, la = some y → 1 ≤ y) → ∀ k x, gseq (l ++ tl) la k = some x → 1 ≤ x
  | [], tl, _, ht, la, hla, k, x, h => by
    rcases ht with rfl | ⟨z, r, rfl, rfl | rfl⟩
    · simp [gseq] at h
    · simp [gseq] at h; exact hla x h
    · simp [gseq] at h
  | s :: l, tl, hl, ht, la, hla, k, x, h => by
    have hs := hl s (.head _)
    simp only [List.cons_append, gseq] at h
    split at h
    · cases h
    split at h
    · omega
    cases k with
    | zero => simp only [Option.some.injEq] at h; omega
    | succ k => exact gseq_pos l tl (fun y hy => hl y (.tail _ hy)) ht (some s) (fun y hy => by cases hy; exact hs) k x h

def rowChk (ns : List Int) : Bool := (List.range 10).all fun n => decide (cuts ns n ≤ (marksF ns).length) && (List.range (marksF ns).length).all fun i => decide ((marksF ns).getD i 0 < (n : Int)) == decide (i < cuts ns n)
theorem rowChk_ok {ns : List Int} (h : rowChk ns = true) : ∀ n : Nat, n < 10 → cuts ns n ≤ (marksF ns).length ∧ ∀ i : Nat, i < (marksF ns).length → ((marksF ns).getD i 0 < (n : Int) ↔ i < cuts ns n) := by
  intro n hn
  have h1 := List.all_eq_true.mp h n (List.mem_range.mpr hn)
  rw [Bool.and_eq_true] at h1
  refine ⟨of_decide_eq_true h1.1, fun i hi => ?_⟩
  have h2 := List.all_eq_true.mp h1.2 i (List.mem_range.mpr hi)
  rw [beq_iff_eq] at h2
  exact decide_eq_decide.mp h2

def upTo4 : List Int := [1, 2, 3, 4]
def sizesAll : List (List Int) := (upTo4.map fun a => [a]) ++ (upTo4.flatMap fun a => upTo4.map fun b => [a, b]) ++ (upTo4.flatMap fun a => upTo4.flatMap fun b => upTo4.map fun c => [a, b, c])
theorem chk_a : (sizesAll.all rowChk) = true := by decide +kernel
theorem chk_b : (sizesAll.all fun l => rowChk (l ++ [0])) = true := by decide +kernel
theorem chk_c : (sizesAll.all fun l => rowChk (l ++ [127])) = true := by decide +kernel
theorem mem_four {x : Int} (h1 : 1 ≤ x) (h2 : x ≤ 4) : x ∈ upTo4 := by
  have : x = 1 ∨ x = 2 ∨ x = 3 ∨ x = 4 := by omega
  rcases this with rfl | rfl | rfl | rfl <;> simp [upTo4]
theorem mem_sizes : ∀ {l : List Int}, l ≠ [] → l.length ≤ 3 → (∀ x ∈ l, 1 ≤ x ∧ x ≤ 4) → l ∈ sizesAll
  | [], h, _, _ => absurd rfl h
  | [a], _, _, h => by
    have ha := h a (by simp)
    exact List.mem_append_left _ (List.mem_append_left _ (List.mem_map.mpr ⟨a, mem_four ha.1 ha.2, rfl⟩))
  | [a, b], _, _, h => by
    have ha := h a (by simp)
    have hb := h b (by simp)
    exact List.mem_append_left _ (List.mem_append_right _ (List.mem_flatMap.mpr ⟨a, mem_four ha.1 ha.2, List.mem_map.mpr ⟨b, mem_four hb.1 hb.2, rfl⟩⟩))
  | [a, b, c], _, _, h => by
    have ha := h a (by simp)
    have hb := h b (by simp)
    have hc := h c (by simp)
    exact List.mem_append_right _ (List.mem_flatMap.mpr ⟨a, mem_four ha.1 ha.2, List.mem_flatMap.mpr ⟨b, mem_four hb.1 hb.2, List.mem_map.mpr ⟨c, mem_four hc.1 hc.2, rfl⟩⟩⟩)
  | _ :: _ :: _ :: _ :: _, _, h, _ => by simp at h

theorem cuts_congr {l k : List Int} (h : ∀ n : Nat, cutGo l n 0 0 = cutGo k n 0 0) : ∀ n, cuts l n = cuts k n
  | 0 => rfl
  | n + 1 => by unfold cuts; rw [cuts_congr h n, h n]
theorem head_sizes {l tl : List Int} (hl : l ≠ []) (h : ∀ x ∈ l, 1 ≤ x ∧ x ≤ 4) : (l ++ tl).head? ≠ some 0 := by
  cases l with
  | nil => exact absurd rfl hl
  | cons c r =>
    intro e
    have := h c (.head _)
    have e2 : c = 0 := by simpa using e
    omega
theorem row_plain {l : List Int} (hl : l ≠ []) (h3 : l.length ≤ 3) (h : ∀ x ∈ l, 1 ≤ x ∧ x ≤ 4) : RowP l := by
  refine ⟨by omega, ?_, ?_, rowChk_ok (List.all_eq_true.mp chk_a l (mem_sizes hl h3 h))⟩
  · have := head_sizes (tl := []) hl h
    rwa [List.append_nil] at this
  · have := gseq_pos l [] (fun x hx => (h x hx).1) (.inl rfl) none (fun y hy => nomatch hy)
    rwa [List.append_nil] at this
theorem row_rest {l : List Int} (hl : l ≠ []) (h3 : l.length ≤ 3) (h : ∀ x ∈ l, 1 ≤ x ∧ x ≤ 4) {z : Int} (hz : z = 0 ∨ z = 127) {rest : List Int} (hr : rest.length ≤ 2) : RowP (l ++ z :: rest) := by
  refine ⟨by simp only [List.length_append, List.length_cons]; omega, head_sizes hl h, gseq_pos l (z :: rest) (fun x hx => (h x hx).1) (.inr ⟨z, rest, rfl, hz⟩) none (fun y hy => nomatch hy), ?_⟩
  have e1 : ∀ n, cuts (l ++ z :: rest) n = cuts (l ++ [z]) n := cuts_congr fun n => cutGo_rest z hz rest l n 0 0
  have e2 : marksF (l ++ z :: rest) = marksF (l ++ [z]) := by
    unfold marksF
    rw [show gseq (l ++ z :: rest) none = gseq (l ++ [z]) none from funext fun k => gseq_rest z hz rest l none k]
  have hc : rowChk (l ++ [z]) = true := by
    rcases hz with rfl | rfl
    · exact List.all_eq_true.mp chk_b l (mem_sizes hl h3 h)
    · exact List.all_eq_true.mp chk_c l (mem_sizes hl h3 h)
  intro n hn
  rw [e1, e2]
  exact rowChk_ok hc n hn
end Mine
end

theorem Mine.part_exc : True := by
  w_top off
  k_with_none
  trivial
section
open PySem PySem.W PyProof.Rows PySem.Spec PySem.Calls
set_option maxRecDepth 100000
namespace Mine

theorem memX {env : Env} {L b : Addr} {outer : List Env} (hf : env.frame = some L) (hm : b ∈ (env :: outer).filterMap (·.frame)) : b = L ∨ b ∈ outer.filterMap (·.frame) := by
  obtain ⟨e, he, hb⟩ := List.mem_filterMap.mp hm
  rcases List.mem_cons.mp he with rfl | he
  · exact .inl (Option.some.inj (hf.symm.trans hb)).symm
  · exact .inr (List.mem_filterMap.mpr ⟨e, he, hb⟩)

section
variable {M : Model} {A : Around} {E : Value → Shared → Prop} {s' : Shared} {base g g₂ h : Heap} {outer : List Env} {L e t : Addr} {m : Str → Option Value} {env : Env} {Q : Unit → Shared → Prop} {news : List (Addr × Obj)} {cls : Value} {vs : List Value}
/-- an exception leaves a frame of any kind -/
theorem leave_onX (hf : env.frame = some L) (K : Below A base outer g) (F : Fr g L g₂ m) (R : RaisedSN base g₂ (env :: outer) e cls news s'.heap) (hsm : g₂.UpToSlots s'.heap)
    (hQ : ∀ h', RaisedSN base g outer e cls news h' → g.UpToSlots h' → Q () { s' with heap := h' }) :
    wpAny M (A.deeper env) (leaving env (.ref e)) Q E s' := by
  obtain ⟨B, a0, hB, hBG, hl, hfl⟩ := R
  exact wpAny_leaves_onW (Around.frames_deeper K.stack) hf hfl fun h' x1 x2 =>
    hQ h' ⟨B, a0, hB, fun b o q nm => hBG b o (F.keep b o q) (fun hm => by
      rcases memX hf hm with z | z
      · rw [z, kts_self F] at q
        cases q
      · exact nm z), fun q hq => ⟨(hl q hq).1, kts_none F.keep (hl q hq).2.1, (hl q hq).2.2⟩, x1⟩ ((Heap.UpToSlots.of_keeps F.keep).trans (hsm.trans x2))
end

section
variable {A₀ : Around} {base g G B h₅ : Heap} {outer : List Env} {L : Addr} {m : Str → Option Value} {env : Env}
theorem groundE (hf : env.frame = some L) (K : Below A₀ base outer g) (F : Fr g L G m) (hBG : ∀ b o, G.get? b = some o → b ∉ (env :: outer).filterMap (·.frame) → B.get? b = some o) (hBh : B.StaysIn h₅) (hsm : G.UpToSlots h₅) :
    ∃ g', KtsTurn (outer.filterMap (·.frame)) g g' ∧ Fr g' L h₅ m ∧ Below A₀ base outer g' := by
  obtain ⟨T, S⟩ := kts_turn_at (h := h₅) (fs := outer.filterMap (·.frame)) (g := g)
    (fun b hb => let ⟨_, o, ho, _⟩ := K.frames.mem hb; ⟨o, ho⟩)
    (fun b o e nm => hBh b o (hBG b o (F.keep b o e) (fun hm => by
      rcases memX hf hm with z | z
      · rw [z, kts_self F] at e; cases e
      · exact nm z)))
    (fun b o e hm => by
      obtain ⟨_, o', ho', hd⟩ := K.frames.mem hm
      rw [e] at ho'; cases ho'
      exact hsm b o (F.keep b o e) hd)
  refine ⟨_, T, ⟨hsm.ns F.ns, S, by rw [T.size]; exact F.above⟩, ⟨K.stack, fun b o e => T.other b o (K.stays b o e) (fun hm => by
    rw [(K.frames.mem hm).1] at e; cases e), K.frames.of_keeps fun b o e _ => ?_⟩⟩
  obtain ⟨sl, hs⟩ := T.up e
  exact ⟨_, hs, rfl⟩
theorem freshE {b : Addr} (hf : env.frame = some L) (F : Fr g L G m) (hBG : ∀ b o, G.get? b = some o → b ∉ (env :: outer).filterMap (·.frame) → B.get? b = some o) (hb : B.get? b = none)
    (hnf : ∀ o, g.get? b = some o → b ∈ outer.filterMap (·.frame) → False) : g.get? b = none := by
  cases q : g.get? b with
  | none => rfl
  | some o =>
    by_cases hm : b ∈ outer.filterMap (·.frame)
    · exact (hnf o q hm).elim
    · have := hBG b o (F.keep b o q) (fun hm' => by
        rcases memX hf hm' with z | z
        · rw [z, kts_self F] at q; cases q
        · exact hm z)
      rw [hb] at this; cases this
end

section
variable {prog : Program} {w : World} {A₀ : Around} {E : Value → Shared → Prop} {s' : Shared} {base g g₀ G : Heap} {outer : List Env} {L a e t : Addr} {m : Str → Option Value} {cn : Str} {cs : Scope} {ccd cls c : Value} {cl : List (Str × Addr)}
  {vs : List Value} {n x : Str} {b₀ : Stmt} {suite : List Stmt} {pos np : Pos} {rest hs : List ExceptHandler} {Q : Flow → Shared → Prop} {news : List (Addr × Obj)} {KF : Frag} {nm : Option Str} {body : List Stmt}
  {p : Program} {loose : List Str} {mean : ExcName → Option Value} {mg mb : Str → Option Value}

/-- the frame's own try looks at an exception that came out of a call -/
theorem lookN (R : RaisedSN base G (envX cn cs L a ccd cl :: outer) e cls news s'.heap) (K : Below A₀ base outer g) (hsm : G.UpToSlots s'.heap)
    (k : ∀ h', RaisedSN base G (envX cn cs L a ccd cl :: outer) e cls news h' → G.UpToSlots h' → wpAny (model prog w) (A₀.deeper (envX cn cs L a ccd cl)) (handleBy (.ref e) (envX cn cs L a ccd cl) hs) Q E { s' with heap := h' }) :
    wpAny (model prog w) (A₀.deeper (envX cn cs L a ccd cl)) (noteFrame (.ref e) (envX cn cs L a ccd cl))
      (fun _ s₂ => wpAny (model prog w) (A₀.deeper (envX cn cs L a ccd cl)) (setFlight (.ref e) none) (fun _ s₃ =>
        wpAny (model prog w) (A₀.deeper (envX cn cs L a ccd cl)) (handleBy (.ref e) (envX cn cs L a ccd cl) hs) Q E s₃) E s₂) E s' := by
  obtain ⟨B, a0, hB, hBG, hl, hfl⟩ := R
  refine wpAny_looks_onW (Around.frames_deeper K.stack) rfl hfl fun h₄ hheld₄ hsm₄ => ?_
  refine wpAny_landsW hheld₄ fun h₅ hheld hsm₅' => ?_
  exact k h₅ ⟨B, a0, hB, hBG, hl, hheld⟩ (hsm.trans (hsm₄.trans hsm₅'))
theorem lookA (R : RaisedS base G (envX cn cs L a ccd cl :: outer) e cls t vs news s'.heap) (K : Below A₀ base outer g) (hsm : G.UpToSlots s'.heap)
    (k : ∀ h', RaisedS base G (envX cn cs L a ccd cl :: outer) e cls t vs news h' → G.UpToSlots h' → wpAny (model prog w) (A₀.deeper (envX cn cs L a ccd cl)) (handleBy (.ref e) (envX cn cs L a ccd cl) hs) Q E { s' with heap := h' }) :
    wpAny (model prog w) (A₀.deeper (envX cn cs L a ccd cl)) (noteFrame (.ref e) (envX cn cs L a ccd cl))
      (fun _ s₂ => wpAny (model prog w) (A₀.deeper (envX cn cs L a ccd cl)) (setFlight (.ref e) none) (fun _ s₃ =>
        wpAny (model prog w) (A₀.deeper (envX cn cs L a ccd cl)) (handleBy (.ref e) (envX cn cs L a ccd cl) hs) Q E s₃) E s₂) E s' := by
  obtain ⟨⟨B, hB, hBG, hl, hfl, hnew⟩, htup⟩ := R
  refine wpAny_looks_onW (Around.frames_deeper K.stack) rfl hfl fun h₄ hheld₄ hsm₄ => ?_
  refine wpAny_landsW hheld₄ fun h₅ hheld hsm₅' => ?_
  exact k h₅ ⟨⟨B, hB, hBG, hl, hheld, hnew⟩, htup.of_slots (hsm₄.trans hsm₅')⟩ (hsm.trans (hsm₄.trans hsm₅'))

/-- a clause that asks for a built-in class -/
theorem testX {A : Around} {E : Value → Shared → Prop} {Q : Bool → Shared → Prop} {s : Shared} {b : Bool} (F : Fr g L s.heap m) (X : KF.In g) (T : TopRead p loose mg mb g) (LT : Looks (model prog w) s.heap (typeOf (.ref e)) cls)
    (ex : nsIn KF mainGlobals x = some none) (hv : bootBuiltins x = some c) (hn : x ≠ "__name__") (he : exmOne KF cls c = some b) (hq : Q b s)
    (hk : cs.kind = .function) (hx : (envX cn cs L a ccd cl).kindOf x = some .globalImplicit) (hd : (x == ("__debug__" : Str)) = false) :
    wpAny (model prog w) A (eval (.Name x np) (envX cn cs L a ccd cl)) (fun c s₁ => wpAny (model prog w) A (excMatches (.ref e) c) Q E s₁) E s :=
  nameX_B F X T ex hv hn ((exm_one (X.keeps F.keep) LT he).here hq) hk hx hd

theorem hitN (R : RaisedSN base G (envX cn cs L a ccd cl :: outer) e cls news s'.heap) (F : Fr g L G m) (K : Below A₀ base outer g) (hsm : G.UpToSlots s'.heap) (XB : KF.In base) (TB : Top p loose mean mg mb base)
    (D : KtsDicts (outer.filterMap (·.frame)) g) (T0 : KtsTurn (outer.filterMap (·.frame)) g₀ g)
    (ex : nsIn KF mainGlobals x = some none) (hv : bootBuiltins x = some c) (hn : x ≠ "__name__") (he : exmOne KF cls c = some true)
    (k : ∀ h' g', KtsTurn (outer.filterMap (·.frame)) g₀ g' → Fr g' L h' m → News g' L h' news → Below A₀ base outer g' → KF.In g' → Top p loose mean mg mb g' → KtsDicts (outer.filterMap (·.frame)) g' →
      wpAny (model prog w) ((A₀.deeper (envX cn cs L a ccd cl)).mark (some (.ref e))) (execs (b₀ :: suite) (envX cn cs L a ccd cl)) Q E { s' with heap := h' })
    (hk : cs.kind = .function) (hx : (envX cn cs L a ccd cl).kindOf x = some .globalImplicit) (hd : (x == ("__debug__" : Str)) = false)
    (hE : PassesOwnAt (model prog w) ((A₀.deeper (envX cn cs L a ccd cl)).mark (some (.ref e))) (A₀.deeper (envX cn cs L a ccd cl)) (envX cn cs L a ccd cl) E) :
    wpAny (model prog w) (A₀.deeper (envX cn cs L a ccd cl)) (handleBy (.ref e) (envX cn cs L a ccd cl) (.ExceptHandler (some (.Name x np)) none (b₀ :: suite) pos :: rest)) Q E s' := by
  have R' := R
  obtain ⟨B₁, a1, _, hBG₁, _, hfl₁⟩ := R'
  obtain ⟨g₅, T₅, F₅, K₅⟩ := groundE rfl K F hBG₁ hfl₁.1 hsm
  refine wpAny_handleBy_cons (codeAny_handlers_test (testX F₅ (XB.keeps K₅.stays) (topRead_of (TB.keeps K₅.stays)) R.ty ex hv hn he ?_ hk hx hd)) (by intro q; cases q)
  obtain ⟨B, a0, hB, hBG, hl, hheld⟩ := R
  have hL : B.get? L = none := by
    obtain ⟨_, ⟨L', _, hf, hn', _⟩, _⟩ := hheld.2.2.1
    obtain rfl : L = L' := Option.some.inj hf
    exact hn'
  refine codeAny_handlers_suite ?_
  refine lands_againW hheld fun h₆ hfl₆ hsm₆ => ?_
  obtain ⟨g₆, T₆, F₆, K₆⟩ := groundE rfl K F hBG hfl₆.1 (hsm.trans hsm₆)
  have Nl : News g₆ L h₆ news := fun q hq => ⟨hfl₆.1 _ _ (hl q hq).1, (fun z => by have := (hl q hq).1; rw [z, hL] at this; cases this), T₆.none_ _ (kts_none F.keep (hl q hq).2.1)⟩
  exact wpAny_passesOwnAt hE (k h₆ g₆ (T0.trans T₆) F₆ Nl K₆ (XB.keeps K₆.stays) (TB.keeps K₆.stays) (D.turn T₆))

theorem passA (R : RaisedS base G (envX cn cs L a ccd cl :: outer) e cls t vs news s'.heap) (F : Fr g L G m) (K : Below A₀ base outer g) (hsm : G.UpToSlots s'.heap) (XB : KF.In base) (TB : Top p loose mean mg mb base)
    (ex : nsIn KF mainGlobals x = some none) (hv : bootBuiltins x = some c) (hn : x ≠ "__name__") (he : exmOne KF cls c = some false)
    (k : wpAny (model prog w) (A₀.deeper (envX cn cs L a ccd cl)) (handleBy (.ref e) (envX cn cs L a ccd cl) rest) Q E s')
    (hk : cs.kind = .function) (hx : (envX cn cs L a ccd cl).kindOf x = some .globalImplicit) (hd : (x == ("__debug__" : Str)) = false) :
    wpAny (model prog w) (A₀.deeper (envX cn cs L a ccd cl)) (handleBy (.ref e) (envX cn cs L a ccd cl) (.ExceptHandler (some (.Name x np)) nm body pos :: rest)) Q E s' := by
  have R' := R
  obtain ⟨⟨B, hB, hBG, hl, hfl, hnew⟩, htup⟩ := R'
  obtain ⟨g₅, T₅, F₅, K₅⟩ := groundE rfl K F hBG hfl.1 hsm
  exact wpAny_handleBy_cons (codeAny_handlers_test (testX F₅ (XB.keeps K₅.stays) (topRead_of (TB.keeps K₅.stays)) R.toSN.ty ex hv hn he k hk hx hd)) (by intro q; cases q)

theorem hitA (R : RaisedS base G (envX cn cs L a ccd cl :: outer) e cls t vs news s'.heap) (F : Fr g L G m) (K : Below A₀ base outer g) (hsm : G.UpToSlots s'.heap) (XB : KF.In base) (TB : Top p loose mean mg mb base)
    (D : KtsDicts (outer.filterMap (·.frame)) g) (T0 : KtsTurn (outer.filterMap (·.frame)) g₀ g)
    (ex : nsIn KF mainGlobals x = some none) (hv : bootBuiltins x = some c) (hn : x ≠ "__name__") (he : exmOne KF cls c = some true)
    (k : ∀ h' g' oe ot ws nt tk, KtsTurn (outer.filterMap (·.frame)) g₀ g' → Fr g' L h' (fun y => if y = n then some (.ref e) else m y) → News g' L h' ((e, oe) :: (t, ot) :: news) → oe.cls = cls → oe.data = .fields ws → ws[0]? = some (.ref t) → ot.cls = .type "tuple" → ot.data = .seq vs.toArray nt →
      Below A₀ base outer g' → KF.In g' → Top p loose mean mg mb g' → KtsDicts (outer.filterMap (·.frame)) g' →
      wpAny (model prog w) ((A₀.deeper (envX cn cs L a ccd cl)).mark (some (.ref e))) (execs (b₀ :: suite) (envX cn cs L a ccd cl))
        (fun f s₄ => wpAny (model prog w) (A₀.deeper (envX cn cs L a ccd cl)) (do bindName (envX cn cs L a ccd cl) n .none; unbindBehindTheSuite (envX cn cs L a ccd cl) n pos) (fun _ s₅ => Q f s₅) E s₄)
        (AsSuiteRaised (model prog w) ((A₀.deeper (envX cn cs L a ccd cl)).mark (some (.ref e))) (envX cn cs L a ccd cl) n pos (notedBy (model prog w) ((A₀.deeper (envX cn cs L a ccd cl)).mark (some (.ref e))) (envX cn cs L a ccd cl) (cameBackBy (model prog w) (A₀.deeper (envX cn cs L a ccd cl)) (envX cn cs L a ccd cl) E)))
        { s' with heap := h', toks := tk })
    (hk : cs.kind = .function) (hx : (envX cn cs L a ccd cl).kindOf x = some .globalImplicit) (hd : (x == ("__debug__" : Str)) = false) (hlo : (envX cn cs L a ccd cl).kindOf n = some .local) :
    wpAny (model prog w) (A₀.deeper (envX cn cs L a ccd cl)) (handleBy (.ref e) (envX cn cs L a ccd cl) (.ExceptHandler (some (.Name x np)) (some n) (b₀ :: suite) pos :: rest)) Q E s' := by
  have R' := R
  obtain ⟨⟨B₁, _, hBG₁, _, hfl₁, _⟩, _⟩ := R'
  obtain ⟨g₅, T₅, F₅, K₅⟩ := groundE rfl K F hBG₁ hfl₁.1 hsm
  refine wpAny_handleBy_cons (codeAny_handlers_test (testX F₅ (XB.keeps K₅.stays) (topRead_of (TB.keeps K₅.stays)) R.toSN.ty ex hv hn he ?_ hk hx hd)) (by intro q; cases q)
  obtain ⟨⟨B, hB, hBG, hl, hheld, hnew⟩, htup⟩ := R
  have hL : B.get? L = none := by
    obtain ⟨_, ⟨L', _, hf, hn', _⟩, _⟩ := hheld.2.2.1
    obtain rfl : L = L' := Option.some.inj hf
    exact hn'
  refine codeAny_handlers_suite_as ?_
  refine lands_againW hheld fun h₆ hfl₆ hsm₆ => ?_
  obtain ⟨g₆, T₆, F₆, K₆⟩ := groundE rfl K F hBG hfl₆.1 (hsm.trans hsm₆)
  obtain ⟨oe, ws, hoe, hoec, hoed, hoe0⟩ := hfl₆.first
  obtain ⟨ot, nt, hot, hotc, hotd⟩ := htup.of_slots hsm₆
  have ne₆ : g₆.get? e = none := T₆.none_ _ (freshE rfl F hBG hfl₆.2.1 fun o ho m => by
    obtain ⟨_, o', ho', hd⟩ := K.frames.mem m
    rw [ho] at ho'; cases ho'
    obtain ⟨sl, hs⟩ := (hsm.trans hsm₆) _ _ (F.keep _ _ ho) hd
    rw [hoe] at hs; cases hs
    exact hd _ hoed)
  have nt₆ : g₆.get? t = none := T₆.none_ _ (freshE rfl F hBG hnew fun o ho m => by
    obtain ⟨o', es, n', ho', hd⟩ := D _ m
    rw [ho] at ho'; cases ho'
    obtain ⟨sl, hs⟩ := (hsm.trans hsm₆) _ _ (F.keep _ _ ho) (fun vs q => by rw [hd] at q; cases q)
    rw [hot] at hs; cases hs
    have z := hd.symm.trans hotd
    cases z)
  have Nl : News g₆ L h₆ news := fun q hq => ⟨hfl₆.1 _ _ (hl q hq).1, (fun z => by have := (hl q hq).1; rw [z, hL] at this; cases this), T₆.none_ _ (kts_none F.keep (hl q hq).2.1)⟩
  have N₆ := News.more F₆ (News.more F₆ Nl hot (fun es n q => by rw [hotd] at q; cases q) nt₆) hoe (fun es n q => by rw [hoed] at q; cases q) ne₆
  refine storeX_L F₆ N₆ (fun h₇ F₇ N₇ => ?_) hk hlo
  exact k h₇ g₆ oe ot ws nt _ (T0.trans T₆) F₇ N₇ hoec hoed hoe0 hotc hotd K₆ (XB.keeps K₆.stays) (TB.keeps K₆.stays) (D.turn T₆)
end

section
variable {prog : Program} {w : World} {A₀ A : Around} {s : Shared} {base h₀ : Heap} {L : Addr} {m : Str → Option Value} {env : Env} {news : List (Addr × Obj)} {K : Frag} {p : Program} {loose : List Str} {mean : ExcName → Option Value} {mg mb : Str → Option Value}
    {R : Result → Shared → Prop} {name qual : Str} {params : Arguments} {body : List Stmt} {scope : Scope} {dV kV doc pm cdv ct oc : Value} {an od : Option Addr} {osl : Array (Option Value)} {f : Addr} {args : Args} {binds : List (Str × Value)}
/-- a def with cells is entered from the first frame; what is caught in it may turn that frame's slots -/
theorem code_defCS0 (B : Below A₀ base [] h₀) (F : Fr h₀ L s.heap m) (X₀ : K.In h₀) (N : News h₀ L s.heap news) (T : Top p loose mean mg mb h₀) (hA : A.frames = some [env]) (hf : env.frame = some L) (hke : env.scope.kind = .function)
    (ho : K.lookup f = some ⟨oc, od, .func (fnOf name qual params body scope dV kV doc pm an cdv ct), osl⟩) (hcd : codeIn K cdv qual = true) (hroom : A.depth < recursionLimit)
    (hbind : BindsTo s (fnOf name qual params body scope dV kV doc pm an cdv ct) args binds) (hkind : (binds.all fun y => scope.names.lookup y.1 == some .local || scope.names.lookup y.1 == some .cell) = true)
    (hnd : ((cellsFrom 0 scope.names []).map (·.1)).Nodup)
    (h : ∀ g L' h₁ tk cells, Fr h₀ L g m → Fr g L' h₁ (bindL (envOfC qual scope L' f cdv).kindOf binds fun _ => none) → News g L' h₁ (cells ++ news) →
      CellsAre (bindC (envOfC qual scope L' f cdv).kindOf binds fun _ => none) (cellsFrom (L' + 1) scope.names []) cells → Below A base [env] g → K.In g → Top p loose mean mg mb g → KtsDicts [L] g → (∀ p ∈ news, p.1 < L') →
      wpAny (model prog w) (A.deeper (envOfC qual scope L' f cdv)) (execs body (envOfC qual scope L' f cdv))
        (fun fl s' => LeaveS0 [L] h₀ L m g R (match fl with | .ret v => v | _ => .none) s')
        (fun e s' => wpAny (model prog w) (A.deeper (envOfC qual scope L' f cdv)) (leaving (envOfC qual scope L' f cdv) e) (fun _ s'' => R (.error e) s'') (fun e' s'' => R (.error e') s'') s')
        { s with heap := h₁, toks := tk })
    (hco : scope.isCoroutine = false) (hgen : scope.isGenerator = false) (hk : scope.kind = .function) : codeAny (model prog w) A (.call (.ref f) args) R s := by
  obtain ⟨FG, BG, st, _⟩ := groundX (R := R) B F N hA hf hke
  have X := X₀.keeps F.keep
  refine codeAny_call_function hroom (X _ _ ho) rfl hco hgen rfl (codeRec_of X hcd) (hbind _ _ _ _ ?_)
  refine wpAny_newFunctionEnv_cells hk (kindsX hkind _) fun env' he s' x => ?_
  subst he
  refine ⟨(T.nolimit.keeps F.keep).keeps x.toInCall.keep, codeAny_func ?_⟩
  obtain ⟨h₁, tk, rfl, _⟩ := x.done
  have hk₁ := x.toInCall.keep
  obtain ⟨cells, NC, Y⟩ := Cl.news (h₀ := s.heap) (Nat.le_refl _) fun n c hm => ⟨x.cell n c (lookup_of_mem_nodup (cellsFrom_names scope.names 0 (s.heap.objs.size + 1) [] [] rfl ▸ hnd) hm), x.above n c hm⟩
  have FG' := FG
  obtain ⟨⟨oL, es, ep, hLg, hLd, hLk, hLf⟩, _, _⟩ := FG'
  refine wpAny_mono (h _ s.heap.objs.size h₁ tk cells FG ⟨x.toInCall.ns, fun b o e => hk₁ b o (of_hideAll _ e), Nat.le_of_eq (hideAll_size _ _)⟩ (fun p hp => ?_) Y BG (X₀.keeps st) (T.keeps st) (fun b hb => by
      rcases List.mem_cons.mp hb with rfl | hb
      · exact ⟨oL, es, ep, hLg, hLd⟩
      · cases hb) (fun p hp => Heap.lt_size (N p hp).1)) (fun fl s' hl => ?_) fun _ _ y => y
  · rcases List.mem_append.mp hp with hp | hp
    · refine ⟨(NC p hp).1, (NC p hp).2.1, ?_⟩
      cases q : (hideAll s.heap (news.map (·.1))).get? p.1 with
      | none => rfl
      | some o => have := of_hideAll _ q; rw [(NC p hp).2.2] at this; cases this
    · exact ⟨hk₁ _ _ (N p hp).1, Nat.ne_of_lt (Heap.lt_size (N p hp).1), hideAll_none _ (List.mem_map_of_mem hp)⟩
  · obtain ⟨g', L', m', news', T', F', N', k⟩ := hl
    have nL₀ : h₀.get? L = none := kts_self F
    obtain ⟨sl, hs⟩ := T'.up hLg
    refine k ⟨⟨_, es, ep, F'.keep _ _ hs, hLd, hLk, hLf⟩, fun b o e => F'.keep b o (T'.other b o (st b o e) (fun q => by
      rcases List.mem_cons.mp q with z | z
      · rw [z, nL₀] at e; cases e
      · cases z)), F.above⟩ fun p hp => ⟨(N' p hp).1, fun q => ?_, ?_⟩
    · have := (N' p hp).2.2; rw [q, hs] at this; cases this
    · cases q : h₀.get? p.1 with
      | none => rfl
      | some o =>
        obtain ⟨sl', hs'⟩ := T'.up (st _ _ q)
        have := (N' p hp).2.2
        rw [hs'] at this; cases this
end

/-- a call that raises -/
abbrev ConE (w : World) (p : Program) (loose : List Str) (mean : ExcName → Option Value) (mg mb : Str → Option Value) (f : Addr) (news : List (Addr × Obj)) (d : Nat) (pre : Prop) (vs : List Value) (kw : List (Str × Value)) (cls : String) : Prop :=
  ∀ (dp un : Nat) (gd : Option (List Code)) (cn : Str) (cs : Scope) (a : Addr) (ccd : Value) (cl : List (Str × Addr)) (outer : List Env) (A₀ : Around) (base h₀ : Heap) (L : Addr) (m : Str → Option Value) (s : Shared) (Q E : Value → Shared → Prop),
    Below A₀ base outer h₀ → Fr h₀ L s.heap m → (Mine.hd.heap_39 w.params).In h₀ → News h₀ L s.heap news → Top p loose mean mg mb h₀ → cs.kind = .function →
    pre → dp + d < recursionLimit → un + 8 * d < cLine →
    (∀ (g₂ : Heap) (e : Addr) (h' : Heap) (tk' : Nat), Fr h₀ L g₂ m → RaisedSN base g₂ (envX cn cs L a ccd cl :: outer) e (.type cls) news h' → g₂.UpToSlots h' → E (.ref e) { s with heap := h', toks := tk' }) →
      wpAny (model Challenge.rw_nb0109_01.row.prog w) (ktrTop dp un gd cn cs L a ccd cl outer) (call (.ref f) vs kw) Q E s
/-- a call that raises, its words known -/
abbrev ConEA (w : World) (p : Program) (loose : List Str) (mean : ExcName → Option Value) (mg mb : Str → Option Value) (f : Addr) (news : List (Addr × Obj)) (d : Nat) (pre : Prop) (vs : List Value) (kw : List (Str × Value)) (cls : String) (W : List Value → Prop) : Prop :=
  ∀ (dp un : Nat) (gd : Option (List Code)) (cn : Str) (cs : Scope) (a : Addr) (ccd : Value) (cl : List (Str × Addr)) (outer : List Env) (A₀ : Around) (base h₀ : Heap) (L : Addr) (m : Str → Option Value) (s : Shared) (Q E : Value → Shared → Prop),
    Below A₀ base outer h₀ → Fr h₀ L s.heap m → (Mine.hd.heap_39 w.params).In h₀ → News h₀ L s.heap news → Top p loose mean mg mb h₀ → cs.kind = .function →
    pre → dp + d < recursionLimit → un + 8 * d < cLine →
    (∀ (g₂ : Heap) (e t : Addr) (ws : List Value) (h' : Heap) (tk' : Nat), W ws → Fr h₀ L g₂ m → RaisedS base g₂ (envX cn cs L a ccd cl :: outer) e (.type cls) t ws news h' → g₂.UpToSlots h' → E (.ref e) { s with heap := h', toks := tk' }) →
      wpAny (model Challenge.rw_nb0109_01.row.prog w) (ktrTop dp un gd cn cs L a ccd cl outer) (call (.ref f) vs kw) Q E s
end Mine
end

theorem Mine.part_stripr : True := by
  w_top off
  k_with_none
  trivial
section
open PySem PySem.W PyProof.Rows PySem.Spec PySem.Calls
namespace Mine


set_option maxRecDepth 100000 in
set_option maxHeartbeats 8000000 in
theorem strip_raise (w : World) (p : Program) (loose : List Str) (mean : ExcName → Option Value) (mg mb : Str → Option Value) (news : List (Addr × Obj)) 
   (W : Nat) (x : Str) (hx : x = ⟨(List.replicate W 32).toArray⟩) (t0 : Tok) (a : Int) (t1 : Tok)  : 
   ConE w p loose mean mg mb 28 news 1 ((W : Int) < a ∧ W ≤ 100) [.str x t0, .int a t1] [] "IndexError" := by
  k_with_none
  (k_with "exec While BoolOp cons nil" => (refine Halt.out ?_))
  (k_with "MPost" => (dsimp only [MPost]))
  (k_with "MEnd" => (refine m_end (_, _, _, _) (by assumption) (by assumption) (fun _ h => h) (by kst_all) (by ksw_same) ?_; dsimp only; refine Halt.out ?_))
  (k_with "leaving ref" => (refine Halt.out ?_))
  (k_with "subscriptTail Name Name str int" => (refine Halt.out ?_))
  dsimp only [ConE]
  k_fill
  intros
  rename_i hok hdp hun hret
  refine wpAny_call ?_
  k_dflt cell_enter
  k_steps
  unfold Halt
  rename Fr _ _ _ _ => F
  rename News _ _ _ _ => N
  have hlen : x.length = W := by rw [hx]; simp [Str.length]
  refine' while_x (σ := Int × Tok × Int × Tok) (fun _ => news) (fun c => [("lpos", .int c.1 c.2.1), ("amount", .int c.2.2.1 c.2.2.2)]) [] (fun c => 0 ≤ c.1 ∧ c.1 ≤ W ∧ c.2.2.1 = a - c.1) 
    (fun c => False) (fun c => W - c.1.toNat) (0, ?tk, a, t1) F N ?hk ?hp ?done ?turn
  case hk => kst_all
  case hp => exact ⟨Int.le_refl _, by dsimp only; omega, by dsimp only; omega⟩
  case turn =>
    clear F N
    rintro ⟨lp, tl, am, ta⟩ u h tk hP F N
    dsimp only [kstB] at hP F N
    obtain ⟨hp0, hp1, rfl⟩ := hP
    have hne : a - lp ≠ 0 := by omega
    try k_fold
    k_steps
    · unfold Halt
      refine item_str_or rfl (fitsSsize_of (N := 9223372036854775808) (by omega) (by omega) (Int.le_refl _)) (fun hout h' tk' e hxe => ?_) (fun h1 h2 => ?_)
      · exact leave_newS (by assumption) hxe F N (fun h'' R _ U => hret _ e h'' _ (by assumption) R U)
      · have hb : (Txt.item x lp == Str.ofString " ") = true := (item_blank hp0 h2 rfl).mpr (by
          have hlt : lp.toNat < W := by omega
          rw [hx]
          simp [hlt])
        k_steps
        unfold Halt
        exact ⟨⟨by omega, by omega, by omega⟩, by omega⟩
    · exact absurd (by assumption) hne
  case done =>
    rintro ⟨lp, tl, am, ta⟩ u h tk hx
    exact hx.elim
end Mine
end

theorem Mine.part_bise : True := by
  w_top off
  k_with_none
  trivial
section
open PySem PySem.W PyProof.Rows PySem.Spec PySem.Calls
namespace Mine




set_option maxRecDepth 100000 in
set_option maxHeartbeats 8000000 in
theorem bisl_keyE (w : World) (p : Program) (loose : List Str) (mean : ExcName → Option Value) (mg mb : Str → Option Value) (news : List (Addr × Obj))
   (D : Addr) (vs : List Value) (nn : Nat) (ns : List Int) (x : Int) (t1 : Tok) (l0 : Int) (t2 : Tok) (h1 : Int) (t3 : Tok) (hm : (D, listOf vs.toArray nn) ∈ news) (hi : IntsAre vs ns) (hlen : ns.length ≤ 100) (hl0 : 0 ≤ l0) (hlh : l0 < h1) (hh1 : h1 ≤ ns.length)
   (f : Addr) (fo : Obj) (fd : FuncData) (hf : (f, fo) ∈ news) (hfd : fo.data = .func fd) (d : Nat)
   (hkey : ∀ (t : Tok), ConE w p loose mean mg mb f news d True [.int (ns.getD (Int.fdiv (l0 + h1) 2).toNat 0) t] [] "IndexError") : 
   ConE w p loose mean mg mb 46 news (d + 1) True [.ref D, .int x t1, .int l0 t2, .int h1 t3] [("key", .ref f)] "IndexError" := by
  k_with_none
  (k_with "exec While Compare cons nil" => (refine Halt.out ?_))
  (k_with "MPost" => (dsimp only [MPost]))
  (k_with "MEnd" => (refine m_end (_, _, _, _) (by assumption) (by assumption) (fun _ h => h) (by kst_all) (by ksw_same) ?_; dsimp only; refine Halt.out ?_))
  (k_with "call builtin:len" => (refine kst_len (by assumption) (by assumption) (IntsAre.length (by assumption)) (by omega) ?_))
  (k_with "subscriptTail" => (refine item_list_ints (News.isList (by assumption) (by assumption)) (by assumption) (by omega) (by omega) (by omega) ?_; intro _))
  (k_with "callWith ref" => (refine callWith_F (by assumption) (by assumption) (by assumption) ?_))
  (k_with "And" => (refine ⟨News.get (by assumption) (by assumption), ?_⟩; try dsimp only [List.nil_append, List.cons_append]))
  (k_with "call ref" => (refine Halt.out ?_))
  dsimp only [ConE] at hkey ⊢
  k_fill
  intros
  rename_i hret
  refine wpAny_call ?_
  k_dflt (refine' code_def ?k1 ?k2 ?k3 ?k4 ?k5 ?kA ?kF ?kK ?k6 ?k7 ?k8 ?k9 ?kB ?_ ?c2 ?c3 ?c4 ?c5; (case kA => exact rfl); (case kF => exact rfl); (case kK => assumption); (case k1 => k_asm); (case k2 => k_asm); (case k3 => k_asm); (case k4 => k_asm); (case k5 => k_asm); (case k6 => k_is); (case k7 => k_is); (case k8 => ktr_room); (case k9 => (refine' kp_binds ?kx ?ke; (case kx => k_in); (case ke => exact fun _ => rfl))); (case c5 => decide); (case kB => exact locs rfl); (case c2 => exact rfl); (case c3 => exact rfl); (case c4 => exact rfl); k_whole; intro g' L' h' FG' F' N' B' X' T'; (try dsimp only); (try k_lift B'); (try k_fold))
  k_steps
  unfold Halt
  rename Fr _ _ _ _ => F
  rename News _ _ _ _ => N
  refine' while_x (σ := Int × Tok × Int × Tok) (fun _ => news) (fun c => [("lo", .int c.1 c.2.1), ("hi", .int c.2.2.1 c.2.2.2)]) ["mid"] (fun c => c.1 = l0 ∧ c.2.2.1 = h1) 
    (fun c => False) (fun c => 0) (l0, ?tkA, h1, ?tkB) F N ?hk ?hp ?done ?turn
  case hk => kst_all
  case hp => exact ⟨rfl, rfl⟩
  case turn =>
    clear F N
    rintro ⟨lo, tl, hh, ta⟩ u h tk hP F N
    dsimp only [kstB] at hP F N
    obtain ⟨rfl, rfl⟩ := hP
    have hmid : lo ≤ Int.fdiv (lo + hh) 2 ∧ Int.fdiv (lo + hh) 2 < hh := by
      rw [Int.fdiv_eq_ediv_of_nonneg _ (by omega)]; omega
    try k_fold
    k_steps
    unfold Halt
    rename News _ _ _ _ => N
    k_dflt (refine' hkey _ _ _ _ _ _ _ _ _ _ _ _ _ _ _ _ _ _ ?hB ?hF ?hX ?hN ?hT ?hK trivial ?hd ?hu ?hR)
    case hB => k_asm
    case hF => k_asm
    case hX => k_asm
    case hN => k_asm
    case hT => k_asm
    case hK => exact rfl
    case hd => ktr_room
    case hu => ktr_units
    case hR =>
      intro g₂ e h' tk' Fg R U
      exact leave_onX rfl (by assumption) Fg R U (fun h'' R' U' => hret _ e h'' _ (by assumption) R' U')
  case done =>
    rintro ⟨lp, tl, am, ta⟩ u h tk hx
    exact hx.elim

set_option maxRecDepth 100000 in
set_option maxHeartbeats 8000000 in
theorem bisl_neg (w : World) (p : Program) (loose : List Str) (mean : ExcName → Option Value) (mg mb : Str → Option Value) (news : List (Addr × Obj))
   (D : Addr) (x : Int) (t1 : Tok) (t2 : Tok) (h1 : Int) (t3 : Tok) (f : Addr) : 
   ConEA w p loose mean mg mb 46 news 1 True [.ref D, .int x t1, .int (-1) t2, .int h1 t3] [("key", .ref f)] "ValueError" (fun ws => ∃ t, ws = [.str (Str.ofString "lo must be non-negative") t]) := by
  k_with_none
  (k_with "exec While Compare cons nil" => (refine Halt.out ?_))
  (k_with "MPost" => (dsimp only [MPost]))
  (k_with "MEnd" => (refine m_end (_, _, _, _) (by assumption) (by assumption) (fun _ h => h) (by kst_all) (by ksw_same) ?_; dsimp only; refine Halt.out ?_))
  (k_with "call builtin:len" => (refine kst_len (by assumption) (by assumption) (IntsAre.length (by assumption)) (by omega) ?_))
  (k_with "subscriptTail" => (refine item_list_ints (News.isList (by assumption) (by assumption)) (by assumption) (by omega) (by omega) (by omega) ?_; intro _))
  (k_with "callWith ref" => (refine callWith_F (by assumption) (by assumption) (by assumption) ?_))
  (k_with "And" => (refine ⟨News.get (by assumption) (by assumption), ?_⟩; try dsimp only [List.nil_append, List.cons_append]))
  (k_with "call ref" => (refine Halt.out ?_))
  (k_with "leaving ref" => (refine Halt.out ?_))
  (k_with "exec Raise some none" => (refine Halt.out ?_))
  (k_with "And" => (refine Halt.out ?_))
  dsimp only [ConEA]
  k_fill
  intros
  rename_i hret
  refine wpAny_call ?_
  k_dflt (refine' code_def ?k1 ?k2 ?k3 ?k4 ?k5 ?kA ?kF ?kK ?k6 ?k7 ?k8 ?k9 ?kB ?_ ?c2 ?c3 ?c4 ?c5; (case kA => exact rfl); (case kF => exact rfl); (case kK => assumption); (case k1 => k_asm); (case k2 => k_asm); (case k3 => k_asm); (case k4 => k_asm); (case k5 => k_asm); (case k6 => k_is); (case k7 => k_is); (case k8 => ktr_room); (case k9 => (refine' kp_binds ?kx ?ke; (case kx => k_in); (case ke => exact fun _ => rfl))); (case c5 => decide); (case kB => exact locs rfl); (case c2 => exact rfl); (case c3 => exact rfl); (case c4 => exact rfl); k_whole; intro g' L' h' FG' F' N' B' X' T'; (try dsimp only); (try k_lift B'); (try k_fold))
  k_steps
  unfold Halt
  rename Fr _ _ _ _ => F
  k_dflt (refine' Raise_madeB PySem.F.excCall_ValueError PySem.F.excRaise_ValueError rfl ?nm)
  case nm =>
    k_dflt (refine' name_B F ?x1 ?x2 ?x3 PyProof.Rows.Boot.«ValueError» ?x5 ⟨rfl, ?_⟩; (case x1 => k_asm); (case x2 => k_asm); (case x3 => k_is); (case x5 => decide))
    k_steps
    unfold Halt
    refine ⟨by rw [sizeLine_eq]; show 1 ≤ _; decide, fun h' e hm => ?_⟩
    exact leave_raiseS (by assumption) (Heap.MadeExc.of hm) F (by assumption) (fun h'' t R _ U => hret _ e t _ h'' _ ⟨_, rfl⟩ (by assumption) R U)
end Mine
end

theorem Mine.part_forl : True := by
  w_top off
  k_with_none
  trivial
section
open PySem PySem.W PyProof.Rows PySem.Spec PySem.Calls
namespace Mine

/-- a turn's end -/
def TEnd (St : Nat → Shared → Prop) (i : Nat) (f : Flow) (s : Shared) : Prop := f = .next ∧ St i s
/-- a for over a list of tuples; no turn leaves it -/
theorem for_listS {prog : Program} {w : World} {A : Around} {env : Env} {elts : List Expr} {x1 : Nat} {tpos : Pos} {body : List Stmt} {I l : Addr} {items : Array Value} {s₀ : Shared} {R : Result → Shared → Prop}
    (hA : A.handled = none) (St : Nat → Shared → Prop) (hst : ∀ i s, St i s → s.heap.IsListIter I l i ∧ s.heap.IsList l items) (hit : ∀ i, i < items.size → ∃ T, items[i]? = some (.ref T))
    (turn : ∀ i (T : Addr) s h', i < items.size → items[i]? = some (.ref T) → St i s → h'.IsListIter I l (i + 1) → Heap.SameBut I s.heap h' →
      wpAny (model prog w) A (assign (.Tuple elts x1 tpos) env (.ref T)) (fun _ s₂ => wpAny (model prog w) A (execs body env) (TEnd St (i + 1)) (fun _ _ => False) s₂) (fun _ _ => False) { s with heap := h' })
    (done : ∀ s h', St items.size s → Heap.ExtBut I s.heap h' → R (.ok .next) { s with heap := h' })
    (h : St 0 s₀) : codeAny (model prog w) A (.forLoop (.Tuple elts x1 tpos) (.ref I) body [] env) R s₀ := by
  refine codeAny_forLoop_any (fun n s => ∃ i, n + i = items.size ∧ St i s) ?_ items.size ⟨0, rfl, h⟩
  rintro n s ⟨i, hn, hs⟩
  obtain ⟨hI, hl⟩ := hst i s hs
  by_cases hi : i < items.size
  · obtain ⟨T, hT⟩ := hit i hi
    refine wpAny_pyNext_list_item hI hl hT fun h' hI' hsame => ?_
    dsimp only
    refine wpAny_letOwnedTupleGo_listiter hI' ?_
    refine wpAny_mono (turn i T s h' hi hT hs hI' hsame) (fun _ s₂ h₂ => ?_) fun _ _ x => x.elim
    refine wpAny_mono h₂ (fun f s₃ h₃ => ?_) fun _ _ x => x.elim
    obtain ⟨rfl, h₃⟩ := h₃
    exact ⟨n - 1, by omega, i + 1, by omega, h₃⟩
  · have e : i = items.size := by omega
    subst e
    refine wpAny_pyNext_list_end hA hI hl (by simp) fun h' hx => ?_
    dsimp only
    exact wpAny_pure (done s h' hs hx)
end Mine
end

theorem Mine.part_bleq : True := by
  w_top off
  k_with_none
  trivial
section
open PySem PySem.W PyProof.Rows PyProof.V PySem.Spec PySem.Calls PySem.SeqAt
namespace Mine
def toldD (a b : Int) (x y : Str) : PyData := .list [.int a, .int b, .str x, .tuple [.str y]]
theorem told_shaped (a b : Int) {x y : Str} (hx : PyData.strOk x = true) (hy : PyData.strOk y = true) : shaped (toldD a b x y) = true := by
  show (PyData.canLay0 (toldD a b x y) && decide (PyData.depth (toldD a b x y) ≤ 64)) = true
  rw [Bool.and_eq_true]
  refine ⟨?_, decide_eq_true ?_⟩
  · simp [toldD, PyData.canLay0, PyData.canLayAll0, hx, hy]
  · simp [toldD, PyData.depth, PyData.depthAll]
theorem eq_told {prog : Program} {w : World} {A : Around} {E : Value → Shared → Prop} {s : Shared} {a b : Int} {x y : Str} {Tl Rl ta tb : Addr} {q1 q2 q3 q4 r1 r2 r3 r4 : Tok} {n1 n2 : Nat} {oa ob : Obj} {Q : Value → Shared → Prop}
    (h1 : s.heap.IsList Tl #[.int a q1, .int b q2, .str x q3, .ref ta]) (ha : s.heap.get? ta = some oa) (hac : oa.cls = .type "tuple") (had : oa.data = .seq #[.str y q4] n1)
    (h2 : s.heap.IsList Rl #[.int a r1, .int b r2, .str x r3, .ref tb]) (hb : s.heap.get? tb = some ob) (hbc : ob.cls = .type "tuple") (hbd : ob.data = .seq #[.str y r4] n2)
    (hx : PyData.strOk x = true) (hy : PyData.strOk y = true) (hu : A.units + 64 < cLine) (h : Q (.bool true) s) : wpAny (model prog w) A (compareOp .Eq (.ref Tl) (.ref Rl)) Q E s := by
  obtain ⟨o1, e1, c1, k1, d1⟩ := h1
  obtain ⟨o2, e2, c2, k2, d2⟩ := h2
  refine eq_dataH_same (da := toldD a b x y) (db := toldD a b x y) (Reads.list e1 c1 d1 (.cons (.int _ _) (.cons (.int _ _) (.cons (.str _ _) (.cons (.tuple ha hac had (.cons (.str _ _) .nil)) .nil)))))
    (Reads.list e2 c2 d2 (.cons (.int _ _) (.cons (.int _ _) (.cons (.str _ _) (.cons (.tuple hb hbc hbd (.cons (.str _ _) .nil)) .nil))))) (told_shaped a b hx hy) (told_shaped a b hx hy) hu ?_ ?_
  · simp [toldD, noMix, noMixAll]
  · have : PySem.Spec.same (toldD a b x y) (toldD a b x y) = true := by simp [toldD, PySem.Spec.same, PySem.Spec.sameAll]
    rw [this]; exact h
theorem shut_ok (t : List Nat) (a : Int) : okS a (9 :: (t ++ [10])) ∧ stripL a (9 :: (t ++ [10])) = 9 :: (t ++ [10]) := by
  have h1 : lead a (9 :: (t ++ [10])) = 0 := lead_nb _ a (by simp)
  have h2 : tailS a (9 :: (t ++ [10])) = 0 := by
    unfold tailS
    exact lead_nb _ _ (by simp)
  refine ⟨.inr (by rw [h1]; simp), ?_⟩
  unfold stripL
  rw [h1, h2]
  simp only [Nat.sub_zero, List.drop_zero]
  exact List.take_length
end Mine
end

theorem Mine.part_blanks : True := by
  w_top off
  k_with_none
  trivial
section
open PySem PySem.W PyProof.Rows PySem.Spec PySem.Calls
namespace Mine

abbrev q96 : Str := Str.ofString "_law_blanks" ++ ".<locals>." ++ "<lambda>"
def blankS (W : Int) : Str := ⟨(List.replicate W.toNat 32).toArray⟩
theorem blank_mul (W : Int) : Txt.mul (Str.ofString " ") W = blankS W := by
  have hs : Str.ofString " " = ⟨#[32]⟩ := by decide +kernel
  rw [hs]
  have e := mul_one_list 32 W
  unfold blankS
  rw [← e]
theorem blank_len {W : Int} (h : 0 ≤ W) : ((blankS W).length : Int) = W := by
  simp [blankS, Str.length]; omega
theorem blank_lead {W a : Int} (h0 : 0 ≤ a) (h1 : a ≤ W) : lead a (List.replicate W.toNat 32) = a.toNat := by
  have := lead_rep [] (by simp) W.toNat a h0
  rw [List.append_nil] at this
  rw [this]; omega
theorem blank_strip {W a : Int} (h0 : 0 ≤ a) (h1 : a ≤ W) : okS a (blankS W).cps.toList ∧ (⟨(stripL a (blankS W).cps.toList).toArray⟩ : Str) = blankS (W - a) := by
  have hl := blank_lead h0 h1
  have e : (blankS W).cps.toList = List.replicate W.toNat 32 := by simp [blankS]
  rw [e]
  refine ⟨.inl (by rw [hl]; omega), ?_⟩
  have e0 : a - (a.toNat : Int) = 0 := by omega
  unfold stripL tailS blankS
  rw [hl, e0, lead_zero]
  congr 2
  rw [List.drop_replicate, List.take_of_length_le (by simp)]
  congr 1; omega
theorem shut_eq (W : Int) : (Str.ofString "\t" ++ blankS W ++ Str.ofString "\n").cps.toList = 9 :: (List.replicate W.toNat 32 ++ [10]) := by
  have h1 : Str.ofString "\t" = ⟨#[9]⟩ := by decide +kernel
  have h2 : Str.ofString "\n" = ⟨#[10]⟩ := by decide +kernel
  rw [h1, h2]
  show ((#[9] ++ (blankS W).cps) ++ #[10]).toList = _
  simp [blankS]
theorem shut_strip (W a : Int) : okS a (Str.ofString "\t" ++ blankS W ++ Str.ofString "\n").cps.toList ∧ (⟨(stripL a (Str.ofString "\t" ++ blankS W ++ Str.ofString "\n").cps.toList).toArray⟩ : Str) = Str.ofString "\t" ++ blankS W ++ Str.ofString "\n" := by
  have h := shut_ok (List.replicate W.toNat 32) a
  rw [← shut_eq W] at h
  refine ⟨h.1, ?_⟩
  rw [h.2]
theorem shut_len (W : Int) : (Str.ofString "\t" ++ blankS W ++ Str.ofString "\n").length = W.toNat + 2 := by
  have := congrArg List.length (shut_eq W)
  simp at this
  have e : (Str.ofString "\t" ++ blankS W ++ Str.ofString "\n").length = (Str.ofString "\t" ++ blankS W ++ Str.ofString "\n").cps.size := rfl
  rw [e, this]

/-- what the list told holds ahead of turn i -/
def ToldP (width wish : Int) (i : Nat) (us : List Value) (ext : List (Addr × Obj)) : Prop :=
  (i = 0 ∧ us = [] ∧ ext = []) ∨ (i = 1 ∧ ∃ t1, us = [.int (width - wish) t1] ∧ ext = []) ∨ (i = 2 ∧ ∃ t1 t2, us = [.int (width - wish) t1, .int (width + 1) t2] ∧ ext = []) ∨
  (i = 3 ∧ ∃ t1 t2 t3, us = [.int (width - wish) t1, .int (width + 1) t2, .str (Str.ofString "beyond") t3] ∧ ext = []) ∨
  (i = 4 ∧ ∃ t1 t2 t3 ta ot t4 nt, us = [.int (width - wish) t1, .int (width + 1) t2, .str (Str.ofString "beyond") t3, .ref ta] ∧ ext = [(ta, ot)] ∧ ot.cls = .type "tuple" ∧ ot.data = .seq [Value.str (Str.ofString "lo must be non-negative") t4].toArray nt)
theorem fr_next {g h h' : Heap} {L I : Addr} {o : Obj} {m : Str → Option Value} (F : Fr g L h m) (hs : Heap.SameBut I h h') (hI : I ≠ L) (hg : g.get? I = none) : Fr g L h' m :=
  ⟨F.ns.sameBut hs (Ne.symm hI), fun b ob e => (hs.2 b (fun q => by rw [q, hg] at e; cases e)).trans (F.keep b ob e), F.above⟩
theorem fr_ext {g h h' : Heap} {L I : Addr} {m : Str → Option Value} (F : Fr g L h m) (hs : Heap.ExtBut I h h') (hI : I ≠ L) (hg : g.get? I = none) : Fr g L h' m :=
  ⟨F.ns.extBut hs (Ne.symm hI), fun b ob e => hs b ob (fun q => by rw [q, hg] at e; cases e) (F.keep b ob e), F.above⟩
def BSt (w : World) (p : Program) (loose : List Str) (mean : ExcName → Option Value) (mg mb : Str → Option Value) (A : Around) (base : Heap) (env : Env) (g' : Heap) (L L' : Addr) (m₀ : Str → Option Value) (s₀ : Shared) (I l Tl : Addr) (fixed V : List (Addr × Obj)) (width wish : Int) (i : Nat) (s : Shared) : Prop :=
  ∃ (g h : Heap) (tk : Nat) (u : Str → Option Value) (oI : Obj) (us : List Value) (un : Nat) (ext V2 : List (Addr × Obj)),
    s = { s₀ with heap := h, toks := tk } ∧ KtsTurn [L] g' g ∧ Fr g L' h (kstB (fun z => if (["low", "high", "error"] : List Str).contains z then u z else m₀ z) []) ∧
    News g L' h ((Tl, listOf us.toArray un) :: (I, oI) :: (ext ++ (fixed ++ V2))) ∧ oI.cls = .type "list_iterator" ∧ oI.data = .fields #[.ref l, .int i 0] ∧
    Off2 I Tl ext ∧ Off2 I Tl V2 ∧
    TabIn 96 q96 V2 ∧ (∀ q ∈ V, q.1 ≠ 96 → q ∈ V2) ∧ Below A base [env] g ∧ (Mine.hd.heap_39 w.params).In g ∧ Top p loose mean mg mb g ∧ KtsDicts [L] g ∧ ToldP width wish i us ext
section
variable {w : World} {p : Program} {loose : List Str} {mean : ExcName → Option Value} {mg mb : Str → Option Value} {A : Around} {base : Heap} {env : Env} {g' : Heap} {L L' : Addr} {m₀ : Str → Option Value} {s₀ : Shared} {I l Tl : Addr} {fixed V : List (Addr × Obj)} {width wish : Int} {i : Nat} {St : Nat → Shared → Prop}
theorem bst_mk {g h : Heap} {tk : Nat} {m₁ : Str → Option Value} {oI : Obj} {us : List Value} {un : Nat} {ext V2 : List (Addr × Obj)} (hSt : St = BSt w p loose mean mg mb A base env g' L L' m₀ s₀ I l Tl fixed V width wish)
    (KT : KtsTurn [L] g' g) (hm : ∀ z, (["low", "high", "error"] : List Str).contains z = false → m₁ z = m₀ z) (F : Fr g L' h m₁) (N : News g L' h ((Tl, listOf us.toArray un) :: (I, oI) :: (ext ++ (fixed ++ V2)))) (hc : oI.cls = .type "list_iterator") (hd : oI.data = .fields #[.ref l, .int i 0])
    (d1 : Off2 I Tl ext) (d2 : Off2 I Tl V2) (TI : TabIn 96 q96 V2) (hV : ∀ q ∈ V, q.1 ≠ 96 → q ∈ V2) (BG : Below A base [env] g) (XG : (Mine.hd.heap_39 w.params).In g) (TG : Top p loose mean mg mb g) (KD : KtsDicts [L] g) (T : ToldP width wish i us ext) :
    St i { s₀ with heap := h, toks := tk } := by
  subst hSt
  exact ⟨g, h, tk, m₁, oI, us, un, ext, V2, rfl, KT, ksw_fr (ps := []) (fun _ h => nomatch h) (fun z _ hz => hm z hz) F, N, hc, hd, d1, d2, TI, hV, BG, XG, TG, KD, T⟩
/-- ahead of a turn: the iterator has gone on by one -/
theorem bst_turn {s : Shared} {h9 : Heap} {G : Prop} {j : Nat} (hSt : St = BSt w p loose mean mg mb A base env g' L L' m₀ s₀ I l Tl fixed V width wish) (H : St i s) (hI : h9.IsListIter I l j) (hs : Heap.SameBut I s.heap h9) (hTI : Tl ≠ I) (hfx : Off2 I Tl fixed)
    (k : ∀ (g h : Heap) (tk : Nat) (u : Str → Option Value) (oJ : Obj) (us : List Value) (un : Nat) (ext V2 : List (Addr × Obj)), s = { s₀ with heap := h, toks := tk } → KtsTurn [L] g' g → Fr g L' h9 (kstB (fun z => if (["low", "high", "error"] : List Str).contains z then u z else m₀ z) []) →
      News g L' h9 ((Tl, listOf us.toArray un) :: (I, oJ) :: (ext ++ (fixed ++ V2))) → oJ.cls = .type "list_iterator" → oJ.data = .fields #[.ref l, .int j 0] → Off2 I Tl ext → Off2 I Tl V2 → TabIn 96 q96 V2 → (∀ q ∈ V, q.1 ≠ 96 → q ∈ V2) →
      Below A base [env] g → (Mine.hd.heap_39 w.params).In g → Top p loose mean mg mb g → KtsDicts [L] g → ToldP width wish i us ext → G) : G := by
  subst hSt
  obtain ⟨g, h, tk, u, oI, us, un, ext, V2, es, KT, F, N, hcI, hdI, d1, d2, TI2, hV2, BG, XG, TG, KD, hTo⟩ := H
  obtain ⟨oJ, hoJ, hcJ, hdJ⟩ := hI
  have hI1 := (N (I, oI) (.tail _ (.head _))).2
  have hs' : Heap.SameBut I h h9 := by rw [es] at hs; exact hs
  exact k g h tk u oJ us un ext V2 es KT (fr_next (o := oI) F hs' hI1.1 hI1.2) (news_step N hs' hoJ hTI d1 hfx d2) hcJ hdJ d1 d2 TI2 hV2 BG XG TG KD hTo
theorem bst_done {s : Shared} {h9 : Heap} {G : Prop} (hSt : St = BSt w p loose mean mg mb A base env g' L L' m₀ s₀ I l Tl fixed V width wish) (H : St 4 s) (hs : Heap.ExtBut I s.heap h9) (hTI : Tl ≠ I) (hfx : Off2 I Tl fixed)
    (k : ∀ (g h : Heap) (tk : Nat) (u : Str → Option Value) (un : Nat) (V2 : List (Addr × Obj)) (t1 t2 t3 : Tok) (ta : Addr) (ot : Obj) (t4 : Tok) (nt : Nat), s = { s₀ with heap := h, toks := tk } → KtsTurn [L] g' g → Fr g L' h9 (kstB (fun z => if (["low", "high", "error"] : List Str).contains z then u z else m₀ z) []) →
      News g L' h9 ((Tl, listOf #[Value.int (width - wish) t1, .int (width + 1) t2, .str (Str.ofString "beyond") t3, .ref ta] un) :: (ta, ot) :: (fixed ++ V2)) → ot.cls = .type "tuple" → ot.data = .seq [Value.str (Str.ofString "lo must be non-negative") t4].toArray nt → TabIn 96 q96 V2 → (∀ q ∈ V, q.1 ≠ 96 → q ∈ V2) →
      Below A base [env] g → (Mine.hd.heap_39 w.params).In g → Top p loose mean mg mb g → G) : G := by
  subst hSt
  obtain ⟨g, h, tk, u, oI, us, un, ext, V2, es, KT, F, N, hcI, hdI, d1, d2, TI2, hV2, BG, XG, TG, KD, hTo⟩ := H
  have hI1 := (N (I, oI) (.tail _ (.head _))).2
  have hs' : Heap.ExtBut I h h9 := by rw [es] at hs; exact hs
  rcases hTo with ⟨h4, _⟩ | ⟨h4, _⟩ | ⟨h4, _⟩ | ⟨h4, _⟩ | ⟨_, q1, q2, q3, ta, ot, t4, nt, rfl, rfl, hotc, hotd⟩
  · cases h4
  · cases h4
  · cases h4
  · cases h4
  exact k g h tk u un V2 q1 q2 q3 ta ot t4 nt es KT (fr_ext F hs' hI1.1 hI1.2) (news_gone N hs' hTI d1 hfx d2) hotc hotd TI2 hV2 BG XG TG
theorem bst_iter {s : Shared} {items : Array Value} {k : Nat} (hSt : St = BSt w p loose mean mg mb A base env g' L L' m₀ s₀ I l Tl fixed V width wish) (hl : (l, listOf items k) ∈ V) (h96 : l ≠ 96) (H : St i s) : s.heap.IsListIter I l i ∧ s.heap.IsList l items := by
  subst hSt
  obtain ⟨g, h, tk, u, oI, us, un, ext, V2, rfl, KT, F, N, hcI, hdI, d1, d2, TI2, hV2, _⟩ := H
  exact ⟨⟨oI, (N _ (.tail _ (.head _))).1, hcI, hdI⟩, News.isList N (.tail _ (.tail _ (List.mem_append_right _ (List.mem_append_right _ (hV2 _ hl h96)))))⟩
end
theorem news_init {h₀ : Heap} {L : Addr} {h : Heap} {i li d3 d2 d1 d0 tl am ce : Addr × Obj} {V : List (Addr × Obj)} (N : News h₀ L h (i :: li :: d3 :: d2 :: d1 :: d0 :: tl :: am :: ce :: V)) : News h₀ L h (tl :: i :: am :: ce :: li :: d3 :: d2 :: d1 :: d0 :: V) :=
  have n : ∀ q ∈ tl :: am :: ce :: V, q ∈ i :: li :: d3 :: d2 :: d1 :: d0 :: tl :: am :: ce :: V := fun q h => .tail _ (.tail _ (.tail _ (.tail _ (.tail _ (.tail _ h)))))
  news_put N (n _ (.head _)) (all_cons (.head _) (all_cons (n _ (.tail _ (.head _))) (all_cons (n _ (.tail _ (.tail _ (.head _)))) (all_cons (.tail _ (.head _)) (all_cons (.tail _ (.tail _ (.head _))) (all_cons (.tail _ (.tail _ (.tail _ (.head _))))
    (all_cons (.tail _ (.tail _ (.tail _ (.tail _ (.head _))))) (all_cons (.tail _ (.tail _ (.tail _ (.tail _ (.tail _ (.head _)))))) (fun q h => n q (.tail _ (.tail _ (.tail _ h))))))))))))
theorem news_fresh {h₀ : Heap} {L : Addr} {h : Heap} {V : List (Addr × Obj)} (N : News h₀ L h V) : ∀ q ∈ V, q.1 ≠ h.objs.size := fun q hq => Nat.ne_of_lt (Heap.lt_size (N q hq).1)
abbrev tup2 (a : Int) (ta : Tok) (b : Int) (tb : Tok) : Obj := { cls := .type "tuple", data := .seq #[.int a ta, .int b tb] }
def mapOf {h₀ : Heap} {L : Addr} {h : Heap} {m : Str → Option Value} (_ : Fr h₀ L h m) : Str → Option Value := m
theorem name_goesX {M : Model} {A : Around} {E : Value → Shared → Prop} {s : Shared} {cn : Str} {cs : Scope} {L a : Addr} {ccd : Value} {cl : List (Str × Addr)} {h₀ : Heap} {m : Str → Option Value} {news : List (Addr × Obj)} {n : Str} {pos : Pos} {Q : Unit → Shared → Prop} (F : Fr h₀ L s.heap m) (N : News h₀ L s.heap news)
    (h : ∀ h' v, Fr h₀ L h' (fun x => if x = n then v else m x) → News h₀ L h' news → Q () { s with heap := h', toks := s.toks + 1 })
    (hk : cs.kind = .function) (hl : (envX cn cs L a ccd cl).kindOf n = some .local) :
    wpAny M A (do bindName (envX cn cs L a ccd cl) n .none; unbindBehindTheSuite (envX cn cs L a ccd cl) n pos) Q E s :=
  wpAny_nameGoes_keeps hl F.ns (by show (cs.kind == .class || (cs.kind == .module && L != mainGlobals)) = false; rw [hk]; rfl) fun h' v hn hs => h h' v (F.set hn hs) (N.set hs)
theorem news_re {h₀ : Heap} {L : Addr} {h : Heap} {a b c d i : Addr × Obj} {r : List (Addr × Obj)} (N : News h₀ L h (a :: b :: c :: d :: i :: r)) : News h₀ L h (d :: i :: b :: r) := fun q hq => N q (by
  simp only [List.mem_cons] at hq ⊢
  rcases hq with h | h | h | h <;> simp [h])
theorem allLt_mem {d : Nat} : ∀ {l : List (Addr × Obj)}, AllLt d l → ∀ q ∈ l, q.1 < d
  | [], _, _, hq => nomatch hq
  | _ :: _, h, q, hq => by
    rcases List.mem_cons.mp hq with rfl | hq
    · exact h.1
    · exact allLt_mem h.2 q hq

set_option maxRecDepth 100000 in
set_option maxHeartbeats 8000000 in
theorem blanks_ok (w : World) (p : Program) (loose : List Str) (mean : ExcName → Option Value) (mg mb : Str → Option Value) (V : List (Addr × Obj)) (TI : TabIn 96 q96 V)
    (width : Int) (t1 : Tok) (tail : Int) (t2 : Tok) (hw1 : 1 ≤ width) (hw2 : width ≤ 13) (ht1 : 0 ≤ tail) (ht2 : tail ≤ 2)
    (dp un : Nat) (gd : Option (List Code)) (cn : Str) (cs : Scope) (a : Addr) (ccd : Value) (cl : List (Str × Addr)) (A₀ : Around) (base h₀ : Heap) (L : Addr) (m : Str → Option Value) (s : Shared) (Q E : Value → Shared → Prop)
    (hB : Below A₀ base [] h₀) (hF : Fr h₀ L s.heap m) (hX : (Mine.hd.heap_39 w.params).In h₀) (hN : News h₀ L s.heap V) (hT : Top p loose mean mg mb h₀) (hXB : (Mine.hd.heap_39 w.params).In base) (hTB : Top p loose mean mg mb base) (hk : cs.kind = .function)
    (hdp : dp + 5 < recursionLimit) (hun : un + 200 < cLine) 
    (hret : ∀ (V' : List (Addr × Obj)) (h' : Heap) (tk' : Nat), TabIn 96 q96 V' → (∀ q ∈ V, q.1 ≠ 96 → q ∈ V') → Fr h₀ L h' m → News h₀ L h' V' → Q (.bool true) { s with heap := h', toks := tk' }) :
    wpAny (model Challenge.rw_nb0109_01.row.prog w) (ktrTop dp un gd cn cs L a ccd cl []) (call (.ref 101) [.int width t1, .int tail t2]) Q E s := by
  k_with_none
  (k_with "call ref" => (refine Halt.out ?_))
  (k_with "storeName" => ((with_reducible show wpAny _ _ (storeName _ (Str.ofString "blanks") _) _ _ _); refine Halt.out ?_))
  (k_with "eval Lambda" => (refine Halt.out ?_))
  (k_with "call type:list" => (refine Halt.out ?_))
  (k_with "pyIter ref" => (refine Halt.out ?_))
  (k_with "exec For Tuple List cons nil" => (refine Halt.out ?_))
  (k_with "eval Name" => (k_dflt (refine' nameX_F ?N ?c ?m ?d ?_ ?a ?b; (case a => rfl); (case b => rfl); (case N => k_asm); (case c => rfl); (case m => (repeat (first | exact List.Mem.head _ | refine List.Mem.tail _ ?_))); (case d => assumption); k_whole)))
  (k_with "noteFrame ref" => (refine Halt.out ?_))
  (k_with "bind" => (refine Halt.out ?_))
  (k_with "getAttr ref" => (refine Halt.out ?_))
  (k_with "LeaveS0" => (refine Halt.out ?_))
  (k_with "compareOp Eq ref ref" => (refine Halt.out ?_))
  (k_with "TEnd" => (refine Halt.out ?_))
  (k_with "call builtin:list.append" => (refine Halt.out ?_))
  (k_with "exec Try" => (refine Halt.out ?_))
  revert hX; k_fill; intro hX
  refine wpAny_call ?_
  k_dflt (refine' code_defCS0 (binds := [("width", .int width t1), ("tail", .int tail t2)]) ?k1 ?k2 ?k3 ?k4 ?k5 ?kA ?kF ?kK ?k6 ?k7 ?k8 ?k9 ?kB ?kD ?_ ?c2 ?c3 ?c4; (case kA => exact rfl); (case kF => exact rfl); (case kK => assumption); (case k1 => k_asm); (case k2 => k_asm); (case k3 => exact hX); (case k4 => k_asm); (case k5 => exact hT); (case k6 => k_is); (case k7 => k_is); (case k8 => ktr_room); (case k9 => exact BindsTo.of_eq rfl); (case kB => exact rfl); (case kD => decide +kernel); (case c2 => exact rfl); (case c3 => exact rfl); (case c4 => exact rfl); k_whole)
  intro g' L' h' tk' cells' FG' F' N' Y' B' X' T' KD' l1
  k_cells Y'
  dsimp only [List.cons_append, List.nil_append] at N'
  try dsimp only
  try k_fold
  rename_i o1 d1
  replace d1 : o1.data = Data.cell none := d1
  k_steps
  unfold Halt
  rename Fr _ _ _ _ => F
  rename News _ _ _ _ => N
  rw [blank_mul]
  refine' stCN (own := []) (rest := V) F N rfl d1 ?h1x ?h2x ?_
  case h1x => intro q hq; cases hq
  case h2x => intro q hq; exact Nat.ne_of_lt (Nat.lt_succ_of_lt (l1 q hq))
  clear F N
  intro h2 oB F N dB
  dsimp only [List.cons_append, List.nil_append] at N
  try dsimp only
  k_steps
  unfold Halt
  rename Fr _ _ _ _ => F
  rename News _ _ _ _ => N
  rename IsRange _ _ _ _ _ _ _ _ => RG
  have hwi : (if width < tail then width else tail) = min tail width := by split <;> omega
  rw [hwi] at F
  refine list_rangeL (n := (width + 3).toNat) rfl F N RG (by omega) (by omega) ?_
  clear F N RG
  intro Am ams na h3 tk3 hAm lA F N
  have hAmk : Halt (IntsAre ams (idx (width + 3).toNat)) := hAm
  try dsimp only
  k_steps
  unfold Halt
  refine wpAny_For ?_
  k_steps
  unfold Halt
  rename_i Tl hx6 lTl hx5 D0 hx4 lD0 D1 hx3 lD1 D2 hx2 lD2 D3 hx1 lD3 Li hx0 F N lLi
  obtain ⟨ka3, kb3, ka2, kb2, ka1, kb1, ka0, kb0, NT⟩ : ∃ ka3 kb3 ka2 kb2 ka1 kb1 ka0 kb0 : Tok, News g' L' hx0 ((Li, listOf #[Value.ref D0, Value.ref D1, Value.ref D2, Value.ref D3] 0) :: (D3, tup2 (-1) ka3 width kb3) :: (D2, tup2 (width + 1) ka2 (width + 3) kb2) :: (D1, tup2 (width + 1) ka1 (width + 1) kb1) :: (D0, tup2 0 ka0 (width + 1) kb0) :: (Tl, listOf #[] 0) :: (Am, listOf ams.toArray na) :: (L' + 1, oB) :: V) := ⟨_, _, _, _, _, _, _, _, N⟩
  clear N
  have N := NT
  clear NT
  refine wpAny_pyIter_list (News.isList N (.head _)) ?_
  have N2 := news_init (news_pushed (s := { s with heap := hx0 }) F N (h' := hx0.push { cls := .type "list_iterator", data := .fields #[.ref Li, .int 0 0] }) (D := hx0.objs.size) (fun b o e => Heap.get?_push_of_some _ e) (Heap.get?_push_size _ rfl) rfl)
  have F2 := F.push (o := { cls := .type "list_iterator", data := .fields #[.ref Li, .int 0 0] })
  have hps : ∃ psT, (96, tabObj psT) ∈ V := TI.imp fun _ h => h.1
  obtain ⟨psT, hpsT⟩ := hps
  have h96 : 96 < L' := l1 _ hpsT
  have hcell : L' + 1 ≠ 96 := Nat.ne_of_gt (Nat.lt_succ_of_lt h96)
  have hAm96 : Am ≠ 96 := Nat.ne_of_gt (lA _ (.tail _ hpsT))
  have hTl96 : Tl ≠ 96 := Nat.ne_of_gt (allLt_mem lTl.2.2 _ hpsT)
  have hD096 : D0 ≠ 96 := Nat.ne_of_gt (allLt_mem lD0.2.2.2 _ hpsT)
  have hD196 : D1 ≠ 96 := Nat.ne_of_gt (allLt_mem lD1.2.2.2.2 _ hpsT)
  have hD296 : D2 ≠ 96 := Nat.ne_of_gt (allLt_mem lD2.2.2.2.2.2 _ hpsT)
  have hD396 : D3 ≠ 96 := Nat.ne_of_gt (allLt_mem lD3.2.2.2.2.2.2 _ hpsT)
  have hLi96 : Li ≠ 96 := Nat.ne_of_gt (allLt_mem lLi.2.2.2.2.2.2.2 _ hpsT)
  have hI96 : hx0.objs.size ≠ 96 := Ne.symm (news_fresh N (96, _) (.tail _ (.tail _ (.tail _ (.tail _ (.tail _ (.tail _ (.tail _ (.tail _ hpsT)))))))))
  have hfr := news_fresh N
  have hTI : Tl ≠ hx0.objs.size := hfr (Tl, _) (.tail _ (.tail _ (.tail _ (.tail _ (.tail _ (.head _))))))
  have hfx : Off2 hx0.objs.size Tl [(Am, listOf ams.toArray na), (L' + 1, oB)] := off2_cons (hfr _ (.tail _ (.tail _ (.tail _ (.tail _ (.tail _ (.tail _ (.head _)))))))) (Nat.ne_of_lt lTl.1) (off2_cons (hfr _ (.tail _ (.tail _ (.tail _ (.tail _ (.tail _ (.tail _ (.tail _ (.head _))))))))) (Nat.ne_of_lt lTl.2.1) off2_nil)
  have hoff : Off2 hx0.objs.size Tl ((Li, listOf #[Value.ref D0, Value.ref D1, Value.ref D2, Value.ref D3] 0) :: (D3, tup2 (-1) ka3 width kb3) :: (D2, tup2 (width + 1) ka2 (width + 3) kb2) :: (D1, tup2 (width + 1) ka1 (width + 1) kb1) :: (D0, tup2 0 ka0 (width + 1) kb0) :: V) :=
    off2_cons (hfr _ (.head _)) (Nat.ne_of_gt lLi.2.2.2.2.1) (off2_cons (hfr _ (.tail _ (.head _))) (Nat.ne_of_gt lD3.2.2.2.1) (off2_cons (hfr _ (.tail _ (.tail _ (.head _)))) (Nat.ne_of_gt lD2.2.2.1) (off2_cons (hfr _ (.tail _ (.tail _ (.tail _ (.head _))))) (Nat.ne_of_gt lD1.2.1) (off2_cons (hfr _ (.tail _ (.tail _ (.tail _ (.tail _ (.head _)))))) (Nat.ne_of_gt lD0.1)
      (fun q hq => ⟨hfr q (.tail _ (.tail _ (.tail _ (.tail _ (.tail _ (.tail _ (.tail _ (.tail _ hq)))))))), Nat.ne_of_lt (allLt_mem lTl.2.2 q hq)⟩)))))
  obtain ⟨St, hSt⟩ : ∃ St : Nat → Shared → Prop, St = BSt w p loose mean mg mb (ktrTop dp un gd cn cs L a ccd cl []) base (envX cn cs L a ccd cl) g' L L' (mapOf F2) s hx0.objs.size Li Tl [(Am, listOf ams.toArray na), (L' + 1, oB)] ((Li, listOf #[Value.ref D0, Value.ref D1, Value.ref D2, Value.ref D3] 0) :: (D3, tup2 (-1) ka3 width kb3) :: (D2, tup2 (width + 1) ka2 (width + 3) kb2) :: (D1, tup2 (width + 1) ka1 (width + 1) kb1) :: (D0, tup2 0 ka0 (width + 1) kb0) :: V) width (min tail width) := ⟨_, rfl⟩
  refine' for_listS (I := hx0.objs.size) (l := Li) (items := #[Value.ref D0, Value.ref D1, Value.ref D2, Value.ref D3]) rfl St ?hst ?hit ?turn ?done ?init
  case init =>
    exact bst_mk (us := []) (ext := []) hSt KtsTurn.refl (fun _ _ => rfl) F2 N2 rfl rfl off2_nil hoff (TI.mono fun x hx => (.tail _ (.tail _ (.tail _ (.tail _ (.tail _ hx)))))) (fun _ h _ => h) B' X' T' KD' (.inl ⟨rfl, rfl, rfl⟩)
  case hst => exact fun i s H => bst_iter hSt (.head _) hLi96 H
  case hit =>
    intro i hi
    match i, hi with
    | 0, _ => exact ⟨D0, rfl⟩
    | 1, _ => exact ⟨D1, rfl⟩
    | 2, _ => exact ⟨D2, rfl⟩
    | 3, _ => exact ⟨D3, rfl⟩
  case turn =>
    clear hfr
    generalize hx0.objs.size = I at hI96 hTI hfx hSt ⊢
    dsimp only [mapOf] at hSt
    clear lTl lD0 lD1 lD2 lD3 lLi N2 F2 hoff F N FG' KD' hret
    rintro i T s9 h9 hi hT hS hI' hsame
    refine bst_turn hSt hS hI' hsame hTI hfx ?_
    clear hS hI' hsame
    intro g h tkZ u oJ us un ext V2 es KT F N hcJ hdJ de dV TI2 hV2 BG XG TG KD hTo
    subst es
    rcases hTo with ⟨rfl, rfl, rfl⟩ | ⟨rfl, tq1, rfl, rfl⟩ | ⟨rfl, tq1, tq2, rfl, rfl⟩ | ⟨rfl, tq1, tq2, tq3, rfl, rfl⟩ | ⟨rfl, _⟩
    · cases hT
      dsimp only [List.cons_append, List.nil_append] at N
      dsimp only [kstB] at F
      dsimp only
      replace N := news_put (q := (D0, tup2 0 ka0 (width + 1) kb0)) N (.tail _ (.tail _ (.tail _ (.tail _ (hV2 _ (.tail _ (.tail _ (.tail _ (.tail _ (.head _))))) hD096))))) (fun _ h => h)
      try k_fold
      k_steps
      unfold Halt
      rename News _ _ _ _ => N
      replace N := news_tl N
      refine wpAny_Try_except ?_
      k_steps
      unfold Halt
      rename Fr _ _ _ _ => F
      rename News _ _ _ _ => N
      have C100 : CodeHd g 100 96 := by
        k_dflt (refine' codeHd_of XG ?x1 ?x2 ?x3 ?x4 ?x5 ?x6 ?x7 ?x8 ?x9; (case x1 => k_is); (case x2 => exact rfl); (case x3 => exact rfl); (case x4 => exact rfl); (case x5 => exact rfl); (case x6 => exact rfl); (case x7 => exact rfl); (case x8 => exact rfl); (case x9 => decide))
      have hszI := Heap.lt_size (N _ (.tail _ (.head _))).1
      have hszT := Heap.lt_size (N _ (.head _)).1
      refine' lamW (front := [_, _, _, _]) F N TG C100 rfl ?hfr0 TI2 rfl rfl rfl ?_
      case hfr0 => exact all_cons hTl96 (all_cons hI96 (all_cons hAm96 (all_cons hcell all_nil)))
      clear F N
      intro f cc ctv V3 hh3 tk3 F N TI3 hV3 hl3 hcc hnw
      dsimp only [List.cons_append, List.nil_append] at N hl3
      have dV3 := off2_new dV hszI hszT hnw
      try dsimp only
      k_steps
      unfold Halt
      obtain ⟨oc, vc, tc, hcm, hcd, hcv⟩ := hcc
      k_dflt (refine' (bisl_keyB w p loose mean mg mb _ Am ams na (idx (width + 3).toNat) (-min tail width) _ (0) _ (width + 1) _ ((width - min tail width).toNat) ?hm0 hAm ?hl0 ?h00 ?hk00 ?hk10 ?hh0 f _ _ ?hf0 ?hfd0 (fun j => -(width - (j : Int))) 2 ?hkey0 ?hq0) _ _ _ _ _ _ _ _ _ _ _ _ _ _ _ _ _ ?hB0 ?hF0 ?hX0 ?hN0 ?hT0 ?hK0 ?hpre0 ?hd0 ?hu0 ?hR0)
      case hB0 => k_asm
      case hF0 => k_asm
      case hX0 => k_asm
      case hN0 => k_asm
      case hT0 => k_asm
      case hK0 => exact rfl
      case hpre0 => trivial
      case hd0 => ktr_room
      case hu0 => ktr_units
      case hm0 => repeat (first | exact List.Mem.head _ | refine List.Mem.tail _ ?_)
      case hl0 => rw [idx_len]; omega
      case h00 => omega
      case hk00 => omega
      case hk10 => omega
      case hh0 => rw [idx_len]; omega
      case hf0 => exact .head _
      case hfd0 => exact rfl
      case hq0 => intro j hj0 hj1; omega
      case hkey0 =>
        clear F N
        intro i t hi0 hi1
        have hin : i < (width + 3).toNat := by omega
        rw [idx_get hin]
        dsimp only [ConV]
        intro dp un gd cn cs a ccd cl outer A₀ base h₀ L m s Q E hB hF hX hN hT hk _ hdp hun hret
        refine wpAny_call ?_
        k_dflt (refine' kla_code (binds := [("n", .int (i : Int) t)]) ?k1 ?k2 ?k3 ?k4 ?k5 ?kA ?kF ?kK ?k6 ?k7 ?k8 ?k9 ?kB ?_ ?c2 ?c3 ?c4 ?c5; (case kA => exact rfl); (case kF => exact rfl); (case kK => assumption); (case k1 => k_asm); (case k2 => k_asm); (case k3 => k_asm); (case k4 => k_asm); (case k5 => k_asm); (case k6 => exact List.Mem.head _); (case k7 => exact ⟨_, _, _, _, rfl, (hN _ (.tail _ (.tail _ (.tail _ (.tail _ (.tail _ hcm)))))).1, hcd, hcv⟩); (case k8 => ktr_room); (case k9 => exact rfl); (case c5 => decide); (case kB => exact locs rfl); (case c2 => exact rfl); (case c3 => exact rfl); (case c4 => exact rfl); k_whole; intro g2 L2 h2 FG2 F2 N2 B2 X2 T2; (try dsimp only); (try k_fold))
        k_steps
        unfold Halt
        have hbs := blank_strip (W := width) (a := (i : Int)) (by omega) (by omega)
        k_dflt (refine' (strip_ok w p loose mean mg mb _ (blankS width) _ (i : Int) _) _ _ _ _ _ _ _ _ _ _ _ _ _ _ _ _ _ ?hBK ?hFK ?hXK ?hNK ?hTK ?hKK ?hpreK ?hdK ?huK ?hRK)
        case hBK => k_asm
        case hFK => k_asm
        case hXK => k_asm
        case hNK => k_asm
        case hTK => k_asm
        case hKK => exact rfl
        case hpreK => exact ⟨hbs.1, by have := blank_len (W := width) (by omega); omega⟩
        case hdK => ktr_room
        case huK => ktr_units
        case hRK =>
          intro t4 h9 tk9 F N
          try dsimp only
          rw [hbs.2]
          have hbl := blank_len (W := width - i) (by omega)
          k_steps
          rw [hbl]
          exact hret _ _ _ (by assumption) (by assumption)
      case hR0 =>
        clear F N
        intro t9 h9 tk9 F N
        try dsimp only
        rw [Int.toNat_of_nonneg (show 0 ≤ width - min tail width by omega)]
        k_steps
        unfold Halt
        rename Fr _ _ _ _ => F
        rename News _ _ _ _ => N
        refine' append_K F (news_tl N) (Upd.head ?hua0) ?_ ?hza0
        case hua0 => exact off2_told hTI hfx dV3
        case hza0 => rw [sizeLine_eq]; simp
        clear F N
        intro h4 F N
        try dsimp only
        k_steps
        unfold Halt
        rename Fr _ _ _ _ => F
        rename News _ _ _ _ => N
        exact ⟨rfl, bst_mk (us := [_]) (ext := []) (V2 := V3) hSt KT (by repeat (first | exact off_base | refine off_set (by decide +kernel) ?_)) F N hcJ hdJ off2_nil dV3 TI3 (fun q hq hne => hV3 q (hV2 q hq hne) hne) BG XG TG KD (.inr (.inl ⟨rfl, _, rfl, rfl⟩))⟩
    · cases hT
      dsimp only [List.cons_append, List.nil_append] at N
      dsimp only [kstB] at F
      dsimp only
      replace N := news_put (q := (D1, tup2 (width + 1) ka1 (width + 1) kb1)) N (.tail _ (.tail _ (.tail _ (.tail _ (hV2 _ (.tail _ (.tail _ (.tail _ (.head _)))) hD196))))) (fun _ h => h)
      try k_fold
      k_steps
      unfold Halt
      rename News _ _ _ _ => N
      replace N := news_tl N
      refine wpAny_Try_except ?_
      k_steps
      unfold Halt
      rename Fr _ _ _ _ => F
      rename News _ _ _ _ => N
      have C100 : CodeHd g 100 96 := by
        k_dflt (refine' codeHd_of XG ?x1 ?x2 ?x3 ?x4 ?x5 ?x6 ?x7 ?x8 ?x9; (case x1 => k_is); (case x2 => exact rfl); (case x3 => exact rfl); (case x4 => exact rfl); (case x5 => exact rfl); (case x6 => exact rfl); (case x7 => exact rfl); (case x8 => exact rfl); (case x9 => decide))
      have hszI := Heap.lt_size (N _ (.tail _ (.head _))).1
      have hszT := Heap.lt_size (N _ (.head _)).1
      refine' lamW (front := [_, _, _, _]) F N TG C100 rfl ?hfr1 TI2 rfl rfl rfl ?_
      case hfr1 => exact all_cons hTl96 (all_cons hI96 (all_cons hAm96 (all_cons hcell all_nil)))
      clear F N
      intro f cc ctv V3 hh3 tk3 F N TI3 hV3 hl3 hcc hnw
      dsimp only [List.cons_append, List.nil_append] at N hl3
      have dV3 := off2_new dV hszI hszT hnw
      try dsimp only
      k_steps
      unfold Halt
      obtain ⟨oc, vc, tc, hcm, hcd, hcv⟩ := hcc
      k_dflt (refine' (bisl_keyB w p loose mean mg mb _ Am ams na (idx (width + 3).toNat) (-min tail width) _ (width + 1) _ (width + 1) _ ((width + 1).toNat) ?hm1 hAm ?hl1 ?h01 ?hk01 ?hk11 ?hh1 f _ _ ?hf1 ?hfd1 (fun j => -(width - (j : Int))) 2 ?hkey1 ?hq1) _ _ _ _ _ _ _ _ _ _ _ _ _ _ _ _ _ ?hB1 ?hF1 ?hX1 ?hN1 ?hT1 ?hK1 ?hpre1 ?hd1 ?hu1 ?hR1)
      case hB1 => k_asm
      case hF1 => k_asm
      case hX1 => k_asm
      case hN1 => k_asm
      case hT1 => k_asm
      case hK1 => exact rfl
      case hpre1 => trivial
      case hd1 => ktr_room
      case hu1 => ktr_units
      case hm1 => repeat (first | exact List.Mem.head _ | refine List.Mem.tail _ ?_)
      case hl1 => rw [idx_len]; omega
      case h01 => omega
      case hk01 => omega
      case hk11 => omega
      case hh1 => rw [idx_len]; omega
      case hf1 => exact .head _
      case hfd1 => exact rfl
      case hq1 => intro j hj0 hj1; omega
      case hkey1 =>
        intro i t hi0 hi1
        exfalso; omega
      case hR1 =>
        clear F N
        intro t9 h9 tk9 F N
        try dsimp only
        rw [Int.toNat_of_nonneg (show 0 ≤ width + 1 by omega)]
        k_steps
        unfold Halt
        rename Fr _ _ _ _ => F
        rename News _ _ _ _ => N
        refine' append_K F (news_tl N) (Upd.head ?hua1) ?_ ?hza1
        case hua1 => exact off2_told hTI hfx dV3
        case hza1 => rw [sizeLine_eq]; simp
        clear F N
        intro h4 F N
        try dsimp only
        k_steps
        unfold Halt
        rename Fr _ _ _ _ => F
        rename News _ _ _ _ => N
        exact ⟨rfl, bst_mk (us := [_, _]) (ext := []) (V2 := V3) hSt KT (by repeat (first | exact off_base | refine off_set (by decide +kernel) ?_)) F N hcJ hdJ off2_nil dV3 TI3 (fun q hq hne => hV3 q (hV2 q hq hne) hne) BG XG TG KD (.inr (.inr (.inl ⟨rfl, _, _, rfl, rfl⟩)))⟩
    · cases hT
      dsimp only [List.cons_append, List.nil_append] at N
      dsimp only [kstB] at F
      dsimp only
      replace N := news_put (q := (D2, tup2 (width + 1) ka2 (width + 3) kb2)) N (.tail _ (.tail _ (.tail _ (.tail _ (hV2 _ (.tail _ (.tail _ (.head _))) hD296))))) (fun _ h => h)
      try k_fold
      k_steps
      unfold Halt
      rename News _ _ _ _ => N
      replace N := news_tl N
      refine wpAny_Try_except ?_
      k_steps
      unfold Halt
      rename Fr _ _ _ _ => F
      rename News _ _ _ _ => N
      have C100 : CodeHd g 100 96 := by
        k_dflt (refine' codeHd_of XG ?x1 ?x2 ?x3 ?x4 ?x5 ?x6 ?x7 ?x8 ?x9; (case x1 => k_is); (case x2 => exact rfl); (case x3 => exact rfl); (case x4 => exact rfl); (case x5 => exact rfl); (case x6 => exact rfl); (case x7 => exact rfl); (case x8 => exact rfl); (case x9 => decide))
      have hszI := Heap.lt_size (N _ (.tail _ (.head _))).1
      have hszT := Heap.lt_size (N _ (.head _)).1
      refine' lamW (front := [_, _, _, _]) F N TG C100 rfl ?hfr2 TI2 rfl rfl rfl ?_
      case hfr2 => exact all_cons hTl96 (all_cons hI96 (all_cons hAm96 (all_cons hcell all_nil)))
      clear F N
      intro f cc ctv V3 hh3 tk3 F N TI3 hV3 hl3 hcc hnw
      dsimp only [List.cons_append, List.nil_append] at N hl3
      have dV3 := off2_new dV hszI hszT hnw
      try dsimp only
      k_steps
      unfold Halt
      obtain ⟨oc, vc, tc, hcm, hcd, hcv⟩ := hcc
      k_dflt (refine' (bisl_keyE w p loose mean mg mb _ Am ams na (idx (width + 3).toNat) (-min tail width) _ (width + 1) _ (width + 3) _ ?hm2 hAm ?hl2 ?h02 ?hlh2 ?hh2 f _ _ ?hf2 ?hfd2 2 ?hkey2) _ _ _ _ _ _ _ _ _ _ _ _ _ _ _ _ _ ?hB2 ?hF2 ?hX2 ?hN2 ?hT2 ?hK2 ?hpre2 ?hd2 ?hu2 ?hR2)
      case hB2 => k_asm
      case hF2 => k_asm
      case hX2 => k_asm
      case hN2 => k_asm
      case hT2 => k_asm
      case hK2 => exact rfl
      case hpre2 => trivial
      case hd2 => ktr_room
      case hu2 => ktr_units
      case hm2 => repeat (first | exact List.Mem.head _ | refine List.Mem.tail _ ?_)
      case hl2 => rw [idx_len]; omega
      case h02 => omega
      case hlh2 => omega
      case hh2 => rw [idx_len]; omega
      case hf2 => exact .head _
      case hfd2 => exact rfl
      case hkey2 =>
        clear F N
        intro t
        have hmid : Int.fdiv (width + 1 + (width + 3)) 2 = width + 2 := by rw [Int.fdiv_eq_ediv_of_nonneg _ (by omega)]; omega
        rw [hmid, idx_get (show (width + 2).toNat < (width + 3).toNat by omega), Int.toNat_of_nonneg (by omega)]
        dsimp only [ConE]
        intro dp un gd cn cs a ccd cl outer A₀ base h₀ L m s Q E hB hF hX hN hT hk _ hdp hun hret
        refine wpAny_call ?_
        k_dflt (refine' kla_code (binds := [("n", .int (width + 2) t)]) ?k1 ?k2 ?k3 ?k4 ?k5 ?kA ?kF ?kK ?k6 ?k7 ?k8 ?k9 ?kB ?_ ?c2 ?c3 ?c4 ?c5; (case kA => exact rfl); (case kF => exact rfl); (case kK => assumption); (case k1 => k_asm); (case k2 => k_asm); (case k3 => k_asm); (case k4 => k_asm); (case k5 => k_asm); (case k6 => exact List.Mem.head _); (case k7 => exact ⟨_, _, _, _, rfl, (hN _ (.tail _ (.tail _ (.tail _ (.tail _ (.tail _ hcm)))))).1, hcd, hcv⟩); (case k8 => ktr_room); (case k9 => exact rfl); (case c5 => decide); (case kB => exact locs rfl); (case c2 => exact rfl); (case c3 => exact rfl); (case c4 => exact rfl); k_whole; intro g2 L2 h2 FG2 F2 N2 B2 X2 T2; (try dsimp only); (try k_fold))
        k_steps
        unfold Halt
        k_dflt (refine' (strip_raise w p loose mean mg mb _ width.toNat (blankS width) rfl _ (width + 2) _) _ _ _ _ _ _ _ _ _ _ _ _ _ _ _ _ _ ?hBK ?hFK ?hXK ?hNK ?hTK ?hKK ?hpreK ?hdK ?huK ?hRK)
        case hBK => k_asm
        case hFK => k_asm
        case hXK => k_asm
        case hNK => k_asm
        case hTK => k_asm
        case hKK => exact rfl
        case hpreK => exact ⟨by omega, by omega⟩
        case hdK => ktr_room
        case huK => ktr_units
        case hRK =>
          intro g₂ e h' tk' Fg R U
          exact leave_onX rfl (by assumption) Fg R U (fun h'' R' U' => hret _ e h'' _ (by assumption) R' U')
      case hR2 =>
        clear F N
        intro g₂ e h5 tk5 Fg R U
        try dsimp only
        k_dflt (refine' lookN R BG U ?_)
        intro h6 R6 U6
        k_dflt (refine' hitN R6 Fg BG U6 hXB hTB KD KT ?ex2 PyProof.Rows.Boot.«IndexError» ?hn2 ?he2 ?_ ?hk2 ?hx2 ?hd2 ?hE2)
        case ex2 => k_is
        case hn2 => decide
        case he2 => kts_exm
        case hk2 => exact rfl
        case hx2 => exact rfl
        case hd2 => decide
        case hE2 => exact PassesOwnAt.never
        clear R R6 U U6 Fg
        intro h7 g3 KT3 F N BG3 XG3 TG3 KD3
        clear BG XG TG KD C100
        try dsimp only
        k_steps
        unfold Halt
        rename Fr _ _ _ _ => F
        rename News _ _ _ _ => N
        refine' append_K F (news_tl N) (Upd.head ?hua2) ?_ ?hza2
        case hua2 => exact off2_told hTI hfx dV3
        case hza2 => rw [sizeLine_eq]; simp
        clear F N
        intro h4 F N
        try dsimp only
        k_steps
        unfold Halt
        rename Fr _ _ _ _ => F
        rename News _ _ _ _ => N
        exact ⟨rfl, bst_mk (us := [_, _, _]) (ext := []) (V2 := V3) hSt KT3 (by repeat (first | exact off_base | refine off_set (by decide +kernel) ?_)) F N hcJ hdJ off2_nil dV3 TI3 (fun q hq hne => hV3 q (hV2 q hq hne) hne) BG3 XG3 TG3 KD3 (.inr (.inr (.inr (.inl ⟨rfl, _, _, _, rfl, rfl⟩))))⟩
    · cases hT
      dsimp only [List.cons_append, List.nil_append] at N
      dsimp only [kstB] at F
      dsimp only
      replace N := news_put (q := (D3, tup2 (-1) ka3 width kb3)) N (.tail _ (.tail _ (.tail _ (.tail _ (hV2 _ (.tail _ (.head _)) hD396))))) (fun _ h => h)
      try k_fold
      k_steps
      unfold Halt
      rename News _ _ _ _ => N
      replace N := news_tl N
      refine wpAny_Try_except ?_
      k_steps
      unfold Halt
      rename Fr _ _ _ _ => F
      rename News _ _ _ _ => N
      have C100 : CodeHd g 100 96 := by
        k_dflt (refine' codeHd_of XG ?x1 ?x2 ?x3 ?x4 ?x5 ?x6 ?x7 ?x8 ?x9; (case x1 => k_is); (case x2 => exact rfl); (case x3 => exact rfl); (case x4 => exact rfl); (case x5 => exact rfl); (case x6 => exact rfl); (case x7 => exact rfl); (case x8 => exact rfl); (case x9 => decide))
      have hszI := Heap.lt_size (N _ (.tail _ (.head _))).1
      have hszT := Heap.lt_size (N _ (.head _)).1
      refine' lamW (front := [_, _, _, _]) F N TG C100 rfl ?hfr3 TI2 rfl rfl rfl ?_
      case hfr3 => exact all_cons hTl96 (all_cons hI96 (all_cons hAm96 (all_cons hcell all_nil)))
      clear F N
      intro f cc ctv V3 hh3 tk3 F N TI3 hV3 hl3 hcc hnw
      dsimp only [List.cons_append, List.nil_append] at N hl3
      have dV3 := off2_new dV hszI hszT hnw
      try dsimp only
      k_steps
      unfold Halt
      obtain ⟨oc, vc, tc, hcm, hcd, hcv⟩ := hcc
      k_dflt (refine' (bisl_neg w p loose mean mg mb _ Am (-min tail width) _ _ width _ f) _ _ _ _ _ _ _ _ _ _ _ _ _ _ _ _ _ ?hB3 ?hF3 ?hX3 ?hN3 ?hT3 ?hK3 ?hpre3 ?hd3 ?hu3 ?hR3)
      case hB3 => k_asm
      case hF3 => k_asm
      case hX3 => k_asm
      case hN3 => k_asm
      case hT3 => k_asm
      case hK3 => exact rfl
      case hpre3 => trivial
      case hd3 => ktr_room
      case hu3 => ktr_units
      case hR3 =>
        clear F N
        intro g₂ e t ws h5 tk5 hW Fg R U
        obtain ⟨tw, rfl⟩ := hW
        try dsimp only
        k_dflt (refine' lookA R BG U ?_)
        intro h6 R6 U6
        k_dflt (refine' passA R6 Fg BG U6 hXB hTB ?ex3 PyProof.Rows.Boot.«IndexError» ?hn3 ?he3 ?_ ?hk3 ?hx3 ?hd3)
        case ex3 => k_is
        case hn3 => decide
        case he3 => kts_exm
        case hk3 => exact rfl
        case hx3 => exact rfl
        case hd3 => decide
        k_dflt (refine' hitA R6 Fg BG U6 hXB hTB KD KT ?ex4 PyProof.Rows.Boot.«ValueError» ?hn4 ?he4 ?_ ?hk4 ?hx4 ?hd4 ?hlo4)
        case ex4 => k_is
        case hn4 => decide
        case he4 => kts_exm
        case hk4 => exact rfl
        case hx4 => exact rfl
        case hd4 => decide
        case hlo4 => exact rfl
        clear R R6 U U6 Fg
        intro h7 g3 oe ot wse nt tk7 KT3 F N hoec hoed hoe0 hotc hotd BG3 XG3 TG3 KD3
        clear BG XG TG KD C100
        try dsimp only
        k_steps
        unfold Halt
        rename Fr _ _ _ _ => F
        rename News _ _ _ _ => N
        refine args_got_builtin PySem.F.attr_ValueError N ⟨oe, ot, wse, nt, .head _, .tail _ (.head _), hoec, hoed, hoe0, hotc, hotd⟩ ?_
        k_steps
        unfold Halt
        have htI : t ≠ I := by
          intro q
          have e1 := (N (t, ot) (.tail _ (.head _))).1
          have e2 := (N (I, oJ) (.tail _ (.tail _ (.tail _ (.tail _ (.head _)))))).1
          dsimp only at e1 e2
          rw [q, e2] at e1
          have e3 := Option.some.inj e1
          have e4 : Value.type "tuple" = Value.type "list_iterator" := by rw [← hcJ, e3, hotc]
          simp at e4
        have htT : t ≠ Tl := by
          intro q
          have e1 := (N (t, ot) (.tail _ (.head _))).1
          have e2 := (N _ (.tail _ (.tail _ (.tail _ (.head _))))).1
          dsimp only at e1 e2
          rw [q, e2] at e1
          have e3 := congrArg Obj.cls (Option.some.inj e1)
          have e4 : Value.type "tuple" = Value.type "list" := hotc.symm.trans e3.symm
          simp at e4
        replace N := news_re N
        refine' append_K F N (Upd.head ?hu3) ?_ ?hz3
        case hu3 => exact off2_told (fx := [_, _, _]) hTI (off2_cons htI htT hfx) dV3
        case hz3 => rw [sizeLine_eq]; simp
        clear F N
        intro h4 F N
        try dsimp only
        k_steps
        unfold Halt
        rename Fr _ _ _ _ => F
        rename News _ _ _ _ => N
        refine name_goesX F N ?_ rfl rfl
        clear F N
        intro h5 ve F N
        try dsimp only
        k_steps
        unfold Halt
        rename Fr _ _ _ _ => F
        rename News _ _ _ _ => N
        exact ⟨rfl, bst_mk (us := [_, _, _, _]) (ext := [(t, ot)]) (V2 := V3) hSt KT3 (by repeat (first | exact off_base | refine off_set (by decide +kernel) ?_)) F N hcJ hdJ (off2_cons htI htT off2_nil) dV3 TI3 (fun q hq hne => hV3 q (hV2 q hq hne) hne) BG3 XG3 TG3 KD3 (.inr (.inr (.inr (.inr ⟨rfl, _, _, _, t, ot, _, _, rfl, rfl, hotc, hotd⟩))))⟩
    · exact absurd hi (Nat.lt_irrefl 4)
  case done =>
    clear hfr
    have hbl1 := blank_len (W := width) (by omega)
    have hbl2 : (blankS width).length ≤ 13 := by omega
    generalize hx0.objs.size = I at hI96 hTI hfx hSt ⊢
    dsimp only [mapOf] at hSt
    clear lTl lD0 lD1 lD2 lD3 lLi N2 F2 hoff F N KD'
    rintro s9 h9 hS hext
    refine bst_done hSt hS hext hTI hfx ?_
    clear hS hext hSt
    intro g h tkZ u un V2 q1 q2 q3 ta ot t4 nt es KT F N hotc hotd TI2 hV2 BG XG TG
    subst es
    dsimp only [List.cons_append, List.nil_append] at N
    dsimp only [kstB] at F
    dsimp only
    try k_fold
    k_steps
    unfold Halt
    k_dflt (refine' (strip_ok w p loose mean mg mb _ (Str.ofString "\t" ++ blankS width ++ Str.ofString "\n") _ width _) _ _ _ _ _ _ _ _ _ _ _ _ _ _ _ _ _ ?hBS ?hFS ?hXS ?hNS ?hTS ?hKS ?hpreS ?hdS ?huS ?hRS)
    case hBS => k_asm
    case hFS => k_asm
    case hXS => k_asm
    case hNS => k_asm
    case hTS => k_asm
    case hKS => exact rfl
    case hpreS => exact ⟨(shut_strip width width).1, by rw [shut_len]; omega⟩
    case hdS => ktr_room
    case huS => ktr_units
    case hRS =>
      rename Fr _ _ _ _ => F
      rename News _ _ _ _ => N
      clear F N
      intro tS hS tkS F N
      try dsimp only
      rw [(shut_strip width width).2]
      k_steps
      · exfalso
        rename (_ != _) = true => hne
        simp at hne
      unfold Halt
      rename Fr _ _ _ _ => F
      rename News _ _ _ _ => N
      refine eq_told (News.isList N (.tail _ (.tail _ (.head _)))) (N (ta, ot) (.tail _ (.tail _ (.tail _ (.head _))))).1 hotc hotd (News.isList N (.head _)) (N _ (.tail _ (.head _))).1 rfl rfl (by decide +kernel) (by decide +kernel) (by ktr_units) ?_
      k_steps
      unfold Halt
      rename Fr _ _ _ _ => F
      rename News _ _ _ _ => N
      rename IsRange _ _ _ _ _ _ _ _ => RG
      refine list_rangeL (n := (width + 3).toNat) rfl F N RG (by omega) (by omega) ?_
      clear F N RG
      intro Am2 ams2 na2 h8 tk8 hAm2 lA2 F N
      try dsimp only
      k_steps
      unfold Halt
      rename Fr _ _ _ _ => F
      rename News _ _ _ _ => N
      refine eq_intsK (News.isList N (by repeat (first | exact List.Mem.head _ | refine List.Mem.tail _ ?_))) (Halt.out hAmk) (News.isList N (.head _)) hAm2 (by ktr_units) ?_
      rw [show decide (idx (width + 3).toNat = idx (width + 3).toNat) = true from decide_eq_true rfl]
      k_steps
      unfold Halt
      rename Fr _ _ _ _ => F
      rename News _ _ _ _ => N
      refine leaveS0_ F N KT (fun F0 N0 => ?_)
      exact hret V2 _ _ TI2 (fun q hq hne => hV2 q (by repeat (first | exact hq | refine List.Mem.tail _ ?_)) hne) F0 (news_all N0 (fun q hq => by repeat (first | exact hq | refine List.Mem.tail _ ?_)))
end Mine
end

theorem Mine.part_lawp : True := by
  w_top off
  k_with_none
  trivial
section
open PySem PySem.W PyProof.Rows PySem.Spec PySem.Calls
namespace Mine
/-- the law's end: True is given back, what stood is unchanged but for the tables of the lambdas' codes -/
def LawEnd (s₁ : Shared) (tabs : List (Addr × Addr)) (r : Result) (s' : Shared) : Prop :=
  r = .ok (.ret (.bool true)) ∧ (∀ b o, (ghostOf s₁.heap tabs).get? b = some o → s'.heap.get? b = some o) ∧ s'.os = s₁.os ∧ AllBare s'.gens ∧ GrownAll tabs s'.heap
theorem law_post {M : Model} {A : Around} {cd : Code} {s s₁ : Shared} {cw : ClaimW} {cl : Str → Option Addr} {mean : ExcName → Option Value} {args : List WData} {tabs : List (Addr × Addr)} (hT : TabsAt tabs s₁.heap) (hr : ∀ a x, cw.raises a x = false) (hp : cw.post args (.bool true) args = true)
    (h : codeAny M A cd (LawEnd s₁ tabs) s) : codeAny M A cd (GoodWG cw cl mean args s₁) s :=
  codeAny_mono h fun r s' ⟨hr1, hk, hos, hg, hgr⟩ => by
    have keep : ∀ b o, b ∉ tabs.map (·.2) → s₁.heap.get? b = some o → s'.heap.get? b = some o := fun b o hb e => hk b o (ghost_ne e hb)
    have grown : ∀ b o, b ∈ tabs.map (·.2) → s₁.heap.get? b = some o → isCodeTable s₁.heap b ∧ o = tabObj #[] ∧ ∃ ps, s'.heap.get? b = some (tabObj ps) := fun b o hb e => by
      obtain ⟨q, hq, rfl⟩ := List.mem_map.mp hb
      have e2 := (hT q hq).2
      rw [e] at e2
      exact ⟨((hT q hq).1.tab (hT q hq).2).isCodeTable, Option.some.inj e2, hgr.get q hq⟩
    refine ⟨.inl ⟨_, _, [], hr1, hr args, .bool true, hp, unshared_nil⟩, ⟨fun b o e => ?_, fun b o e => ?_⟩, hos, hg⟩
    · by_cases hb : b ∈ tabs.map (·.2)
      · obtain ⟨ht, rfl, ps, hP⟩ := grown b o hb e
        exact .inr (.inl ⟨ht, rfl, #[], ps, rfl, by rw [Array.empty_append]; exact hP⟩)
      · exact .inl (keep b o hb e)
    · by_cases hb : b ∈ tabs.map (·.2)
      · obtain ⟨_, _, ps, hP⟩ := grown b o hb e
        exact ⟨_, hP⟩
      · exact ⟨o, keep b o hb e⟩
end Mine
end

theorem Mine.part_lawq : True := by
  w_top off
  k_with_none
  trivial
section
open PySem PySem.W PyProof.Rows PySem.Spec PySem.Calls
namespace Mine
theorem nums_len (ns : List Int) : (numsF ns).length = 9 := by
  simp [numsF]; omega
theorem nums_bd (ns : List Int) : ∀ x ∈ numsF ns, 0 ≤ x ∧ x < 100000000 := by
  intro x hx
  unfold numsF at hx
  rcases List.mem_append.mp hx with h | h
  · obtain ⟨n, _, rfl⟩ := List.mem_map.mp h
    have e : (10 : Int) ^ 8 = 100000000 := by decide
    rw [e]
    exact ⟨Int.fmod_nonneg_of_pos _ (by decide), Int.fmod_lt_of_pos _ (by decide)⟩
  · have h2 := List.mem_of_mem_drop h
    simp only [List.mem_cons, List.not_mem_nil, or_false] at h2
    omega
theorem getD_bd {l : List Int} (h : ∀ x ∈ l, 0 ≤ x ∧ x < 100000000) (i : Nat) : 0 ≤ l.getD i 0 ∧ l.getD i 0 < 100000000 := by
  rw [List.getD_eq_getElem?_getD]
  cases e : l[i]? with
  | none => exact ⟨by decide, by decide⟩
  | some x => exact h x (List.mem_of_getElem? e)

/-- sizes of groups -/
def SizesP (l : List Int) : Prop := l ≠ [] ∧ l.length ≤ 3 ∧ ∀ x ∈ l, 1 ≤ x ∧ x ≤ 4
theorem sizes_ok {NS : List Int} (h9 : NS.length = 9) {k : Int} (h0 : 0 ≤ k) (h1 : k < 3) : SizesP (((NS.drop (1 : Int).toNat).take (min (2 + k).toNat NS.length - (1 : Int).toNat)).map fun n => 1 + n.fmod 4) := by
  have e1 : (1 : Int).toNat = 1 := rfl
  have hl : (((NS.drop (1 : Int).toNat).take (min (2 + k).toNat NS.length - (1 : Int).toNat)).map fun n => 1 + n.fmod 4).length = (2 + k).toNat - 1 := by
    simp only [List.length_map, List.length_take, List.length_drop, h9, e1]
    omega
  refine ⟨fun e => ?_, by rw [hl]; omega, fun x hx => ?_⟩
  · rw [e] at hl; simp at hl; omega
  · obtain ⟨n, _, rfl⟩ := List.mem_map.mp hx
    have a1 := Int.fmod_nonneg_of_pos n (b := 4) (by decide)
    have a2 := Int.fmod_lt_of_pos n (b := 4) (by decide)
    constructor <;> omega

theorem tab_filter {P : Addr} {q : Str} {V : List (Addr × Obj)} {h₀ h : Heap} {L : Addr} (TI : TabIn P q V) (N : News h₀ L h V) (bad : List Addr) (hP : P ∉ bad)
    (hbad : ∀ b ∈ bad, ∀ o, h.get? b = some o → ∀ vs, o.data = .fields vs → ∀ t, vs[1]? ≠ some (.str q t)) : TabIn P q (V.filter fun e => !bad.contains e.1) := by
  obtain ⟨ps, h1, h2, h3⟩ := TI
  have keep : ∀ e ∈ V, e.1 ∉ bad → e ∈ V.filter fun e => !bad.contains e.1 := fun e he hb => List.mem_filter.mpr ⟨he, by simpa using hb⟩
  refine ⟨ps, keep _ h1 hP, h2, fun pos c hc => ?_⟩
  obtain ⟨c', oc, vs, t, e, ne, hin, hd, hv⟩ := h3 pos c hc
  exact ⟨c', oc, vs, t, e, ne, keep _ hin (fun hb => hbad c' hb oc (N _ hin).1 vs hd t hv), hd, hv⟩
theorem triples_one : ∀ (l : List Value), TriplesOk l → ∀ (q : Str) (t : Tok), l[1]? ≠ some (.str q t)
  | [], _, _, _ => by simp
  | .int _ _ :: .int _ _ :: _ :: rest, _, _, _ => by simp
/-- a table outlives the turning of another -/
theorem tab_keep {P P' : Addr} {q q' : Str} {V V' : List (Addr × Obj)} {h₀ h : Heap} {L : Addr} (TI : TabIn P q V) (TI' : TabIn P' q' V) (N : News h₀ L h V) (hne : P ≠ P') (hk : ∀ e ∈ V, e.1 ≠ P' → e ∈ V') : TabIn P q V' := by
  obtain ⟨ps, h1, h2, h3⟩ := TI
  obtain ⟨ps', h1', h2', _⟩ := TI'
  refine ⟨ps, hk _ h1 hne, h2, fun pos c hc => ?_⟩
  obtain ⟨c', oc, vs, t, e, ne, hin, hd, hv⟩ := h3 pos c hc
  refine ⟨c', oc, vs, t, e, ne, hk _ hin (fun hb => ?_), hd, hv⟩
  have e1 := (N _ hin).1
  have e2 := (N _ h1').1
  dsimp only at hb e1 e2
  rw [hb, e2] at e1
  have e3 := Option.some.inj e1
  have e4 : Data.fields ps' = .fields vs := by rw [← hd, ← e3]
  injection e4 with e5
  subst e5
  exact triples_one ps'.toList h2' q t (by simpa using hv)
theorem tab_grown {P : Addr} {q : Str} {V : List (Addr × Obj)} {h₀ h : Heap} {L : Addr} (TI : TabIn P q V) (N : News h₀ L h V) : GrownAt P h := by
  obtain ⟨ps, h1, _⟩ := TI
  exact ⟨ps, (N _ h1).1⟩
theorem tab_new {P : Addr} {q : Str} {V : List (Addr × Obj)} (h : (P, tabObj #[]) ∈ V) : TabIn P q V := ⟨#[], h, True.intro, fun pos c hc => by simp [codeAmong] at hc⟩

/-- where a zip of two lists stands -/
def ZS (z TI TO i1 i2 l1 l2 : Addr) (xs ys : Array Value) (i : Nat) (h : Heap) : Prop :=
  IsZip h z TI TO .none ∧ IsPair h TI (.ref i1) (.ref i2) ∧ (∃ a b, IsPair h TO a b) ∧ h.IsListIter i1 l1 i ∧ h.IsListIter i2 l2 i ∧ h.IsList l1 xs ∧ h.IsList l2 ys
theorem for_zipS {prog : Program} {w : World} {A : Around} {env : Env} {elts : List Expr} {x1 : Nat} {tpos : Pos} {body : List Stmt} {z TI TO i1 i2 l1 l2 : Addr} {xs ys : Array Value} {n : Nat} {s₀ : Shared} {R : Result → Shared → Prop}
    (hA : A.handled = none) (D : ZipApart z TI TO i1 i2 l1 l2) (hx : xs.size = n) (hy : ys.size = n) (St : Nat → Shared → Prop) (hst : ∀ i s, St i s → ZS z TI TO i1 i2 l1 l2 xs ys i s.heap)
    (turn : ∀ i x y s h', i < n → xs[i]? = some x → ys[i]? = some y → St i s → ZS z TI TO i1 i2 l1 l2 xs ys (i + 1) h' → IsPair h' s.heap.objs.size x y → (∀ c o, c ≠ z → c ≠ TO → c ≠ i1 → c ≠ i2 → s.heap.get? c = some o → h'.get? c = some o) →
      wpAny (model prog w) A (assign (.Tuple elts x1 tpos) env (.ref s.heap.objs.size)) (fun _ s₂ => wpAny (model prog w) A (execs body env) (TEnd St (i + 1)) (fun _ _ => False) s₂) (fun _ _ => False) { s with heap := h' })
    (done : ∀ s h', St n s → (∀ c o, c ≠ z → c ≠ TO → c ≠ i1 → c ≠ i2 → s.heap.get? c = some o → h'.get? c = some o) → R (.ok .next) { s with heap := h' })
    (h : St 0 s₀) : codeAny (model prog w) A (.forLoop (.Tuple elts x1 tpos) (.ref z) body [] env) R s₀ := by
  refine codeAny_forLoop_any (fun k s => ∃ i, k + i = n ∧ St i s) ?_ n ⟨0, rfl, h⟩
  rintro k s ⟨i, hn, hs⟩
  obtain ⟨hz, hTI, ⟨a, b, hTO⟩, h1, h2, hl1, hl2⟩ := hst i s hs
  by_cases hi : i < n
  · have hix : i < xs.size := by omega
    have hiy : i < ys.size := by omega
    refine wpAny_pyNext_zip_item D hz hTI hTO h1 h2 hl1 hl2 (Array.getElem?_eq_getElem hix) (Array.getElem?_eq_getElem hiy) fun h' a1 a2 a3 a4 a5 a6 hk => ?_
    dsimp only
    have lt : ∀ {c o}, s.heap.get? c = some o → s.heap.objs.size ≠ c := fun e => Nat.ne_of_gt (Heap.lt_size e)
    refine wpAny_letOwnedTupleGo_zip a1 fun h'' hz'' hs'' => ?_
    refine wpAny_mono (turn i xs[i] ys[i] s h'' hi (Array.getElem?_eq_getElem hix) (Array.getElem?_eq_getElem hiy) hs ?_ (hs''.extBut _ _ (lt hz) a5) (fun c o c1 c2 c3 c4 e => hs''.extBut _ _ c1 (hk c o c1 c2 c3 c4 e))) (fun _ s₂ h₂ => ?_) fun _ _ x => x.elim
    · exact ⟨hz'', hs''.extBut _ _ D.TIz (hk _ _ D.TIz D.TITO D.TIi1 D.TIi2 hTI), ⟨_, _, hs''.extBut _ _ D.TOz a2⟩, a3.extBut hs''.extBut D.i1z, a4.extBut hs''.extBut D.i2z,
        (hl1.at fun o e => hk _ o D.l1z D.l1TO D.l1i1 D.l1i2 e).extBut hs''.extBut D.l1z, (hl2.at fun o e => hk _ o D.l2z D.l2TO D.l2i1 D.l2i2 e).extBut hs''.extBut D.l2z⟩
    refine wpAny_mono h₂ (fun f s₃ h₃ => ?_) fun _ _ x => x.elim
    obtain ⟨rfl, h₃⟩ := h₃
    exact ⟨k - 1, by omega, i + 1, by omega, h₃⟩
  · have e : i = n := by omega
    subst e
    refine wpAny_pyNext_zip_end hA D hz hTI hTO h1 h2 hl1 hl2 (.inl (by rw [Array.getElem?_eq_none]; omega)) fun h' hk => ?_
    dsimp only
    exact wpAny_pure (done s h' hs hk)

abbrev zipO (TI TO : Addr) : Obj := { cls := .type "zip", dict := none, data := .fields #[.none, .bool false, .bool false, .ref TI, .ref TO], slots := #[] }
abbrev pairO (a b : Value) : Obj := { cls := .type "tuple", data := .seq #[a, b] }
def LSt (L : Addr) (h₀ : Heap) (m₀ : Str → Option Value) (s₀ : Shared) (z TI TO i1 i2 l1 l2 : Addr) (xs ys : Array Value) (fixed : List (Addr × Obj)) (q1 q2 : Str) (i : Nat) (s : Shared) : Prop :=
  ∃ (h : Heap) (tk : Nat) (gens : Array GenState) (u : Str → Option Value) (oz oTI oTO o1 o2 : Obj) (V2 : List (Addr × Obj)),
    s = { s₀ with heap := h, toks := tk, gens := gens } ∧ AllBare gens ∧ Fr h₀ L h (kstB (fun y => if (["row", "n", "width", "tail"] : List Str).contains y then u y else m₀ y) []) ∧
    News h₀ L h ((z, oz) :: (TI, oTI) :: (TO, oTO) :: (i1, o1) :: (i2, o2) :: V2) ∧ (∀ e ∈ V2, e.1 ≠ z ∧ e.1 ≠ TO ∧ e.1 ≠ i1 ∧ e.1 ≠ i2) ∧ (∀ q ∈ fixed, q ∈ V2) ∧ TabIn 96 q1 V2 ∧ TabIn 86 q2 V2 ∧
    ZS z TI TO i1 i2 l1 l2 xs ys i h
theorem news_ne {h₀ : Heap} {L : Addr} {h : Heap} {V : List (Addr × Obj)} {a b : Addr} {o o' : Obj} (N : News h₀ L h V) (h1 : (a, o) ∈ V) (h2 : (b, o') ∈ V) (hc : o.cls ≠ o'.cls) : a ≠ b := fun e => by
  have e1 := (N _ h1).1
  have e2 := (N _ h2).1
  dsimp only at e1 e2
  rw [e, e2] at e1
  exact hc (congrArg Obj.cls (Option.some.inj e1)).symm
theorem fr_upd {g h h' : Heap} {L : Addr} {m : Str → Option Value} (F : Fr g L h m) (hL : ∀ o, h.get? L = some o → h'.get? L = some o) (hk : ∀ b o, g.get? b = some o → h.get? b = some o → h'.get? b = some o) : Fr g L h' m := by
  obtain ⟨o, es, ep, ho, r⟩ := F.ns
  exact ⟨⟨o, es, ep, hL o ho, r⟩, fun b ob e => hk b ob e (F.keep b ob e), F.above⟩
theorem ZS.keep {z TI TO i1 i2 l1 l2 : Addr} {xs ys : Array Value} {i : Nat} {h h' : Heap} (x : ZS z TI TO i1 i2 l1 l2 xs ys i h) (hk : ∀ c, c = z ∨ c = TI ∨ c = TO ∨ c = i1 ∨ c = i2 ∨ c = l1 ∨ c = l2 → ∀ o, h.get? c = some o → h'.get? c = some o) : ZS z TI TO i1 i2 l1 l2 xs ys i h' := by
  obtain ⟨hz, hTI, ⟨a, b, hTO⟩, h1, h2, hl1, hl2⟩ := x
  exact ⟨hk z (by simp) _ hz, hk TI (by simp) _ hTI, ⟨a, b, hk TO (by simp) _ hTO⟩, h1.at fun o e => hk i1 (by simp) o e, h2.at fun o e => hk i2 (by simp) o e, hl1.at fun o e => hk l1 (by simp) o e, hl2.at fun o e => hk l2 (by simp) o e⟩

theorem neA {S a b : Nat} (h : a ≠ b) : S + a ≠ S + b := fun q => h (Nat.add_left_cancel q)
theorem ne0 {S k : Nat} (h : 0 < k) : S ≠ S + k := Nat.ne_of_lt (Nat.lt_add_of_pos_right h)
theorem neL {l S : Nat} (h : l < S) (k : Nat) : l ≠ S + k := Nat.ne_of_lt (Nat.lt_of_lt_of_le h (Nat.le_add_right S k))
theorem zip_apart {S l1 l2 : Addr} (h1 : l1 < S) (h2 : l2 < S) : ZipApart (S + 4) (S + 2) (S + 3) S (S + 1) l1 l2 :=
  ⟨neA (by decide), neA (by decide), ne0 (by decide), neA (by decide), neA (by decide), Ne.symm (ne0 (by decide)), neA (by decide), Ne.symm (ne0 (by decide)), neA (by decide), ne0 (by decide),
    neL h1 4, neL h1 3, Nat.ne_of_lt h1, neL h1 1, neL h2 4, neL h2 3, Nat.ne_of_lt h2, neL h2 1⟩
/-- how a turn of the law's for finds its zip, and how it leaves it -/
def LTurn (h₀ : Heap) (L z TI TO i1 i2 l1 l2 : Addr) (xs ys : Array Value) (fixed : List (Addr × Obj)) (q1 q2 : Str) (i : Nat) (h : Heap) (W : List (Addr × Obj)) : Prop :=
  ∃ (pa pb : Value) (o1 o2 : Obj) (V2 : List (Addr × Obj)), W = (z, zipO TI TO) :: (TI, pairO (.ref i1) (.ref i2)) :: (TO, pairO pa pb) :: (i1, o1) :: (i2, o2) :: V2 ∧ News h₀ L h W ∧ o1.data = .fields #[.ref l1, .int i 0] ∧ o2.data = .fields #[.ref l2, .int i 0] ∧
    (∀ e ∈ V2, e.1 ≠ z ∧ e.1 ≠ TO ∧ e.1 ≠ i1 ∧ e.1 ≠ i2) ∧ (∀ q ∈ fixed, q ∈ V2) ∧ TabIn 96 q1 V2 ∧ TabIn 86 q2 V2 ∧ ZS z TI TO i1 i2 l1 l2 xs ys i h
section
variable {L : Addr} {h₀ : Heap} {m₀ : Str → Option Value} {s₁ : Shared} {z TI TO i1 i2 l1 l2 : Addr} {xs ys : Array Value} {fixed : List (Addr × Obj)} {q1 q2 : Str} {i : Nat} {St : Nat → Shared → Prop}
theorem lst_iter {s : Shared} (hSt : St = LSt L h₀ m₀ s₁ z TI TO i1 i2 l1 l2 xs ys fixed q1 q2) (H : St i s) : ZS z TI TO i1 i2 l1 l2 xs ys i s.heap := by
  subst hSt
  obtain ⟨h, tk, gens, u, oz, oTI, oTO, o1, o2, V2, rfl, _, _, _, _, _, _, _, hZ⟩ := H
  exact hZ
theorem lst_init {S : Addr} {h6 h7 : Heap} {gens : Array GenState} {tk : Nat} {V2 : List (Addr × Obj)} {pa pb : Value} (hSt : St = LSt L h₀ m₀ s₁ (S + 4) (S + 2) (S + 3) S (S + 1) l1 l2 xs ys fixed q1 q2) (hg : AllBare gens) (F : Fr h₀ L h7 m₀) (N : News h₀ L h6 V2) (hS : h6.objs.size = S)
    (hk : ∀ c o, h6.get? c = some o → h7.get? c = some o) (hz : IsZip h7 (S + 4) (S + 2) (S + 3) .none) (hTI : IsPair h7 (S + 2) (.ref S) (.ref (S + 1))) (hTO : IsPair h7 (S + 3) pa pb) (hi1 : h7.IsListIter S l1 0) (hi2 : h7.IsListIter (S + 1) l2 0)
    (hf : ∀ q ∈ fixed, q ∈ V2) (T96 : TabIn 96 q1 V2) (T86 : TabIn 86 q2 V2) (hLS : L < S) (hab : h₀.objs.size ≤ L) (hl1 : h6.IsList l1 xs) (hl2 : h6.IsList l2 ys) : St 0 { s₁ with heap := h7, toks := tk, gens := gens } := by
  subst hSt
  obtain ⟨oi1, e1, c1, d1⟩ := id hi1
  obtain ⟨oi2, e2, c2, d2⟩ := id hi2
  have hn0 : ∀ b, L < b → h₀.get? b = none := fun b hb => Heap.get?_none_of_le (Nat.le_trans hab (Nat.le_of_lt hb))
  have nw : ∀ (k : Nat) (o : Obj), h7.get? (S + k) = some o → h7.get? (S + k) = some o ∧ S + k ≠ L ∧ h₀.get? (S + k) = none := fun k o e => ⟨e, Nat.ne_of_gt (Nat.lt_of_lt_of_le hLS (Nat.le_add_right S k)), hn0 _ (Nat.lt_of_lt_of_le hLS (Nat.le_add_right S k))⟩
  have hlt : ∀ e ∈ V2, e.1 < S := fun e he => hS ▸ Heap.lt_size (N e he).1
  refine ⟨h7, tk, gens, m₀, zipO (S + 2) (S + 3), pairO (.ref S) (.ref (S + 1)), pairO pa pb, oi1, oi2, V2, rfl, hg, ksw_fr (ps := []) (fun _ h => nomatch h) (fun _ _ _ => rfl) F, ?_, fun e he => ⟨neL (hlt e he) 4, neL (hlt e he) 3, Nat.ne_of_lt (hlt e he), neL (hlt e he) 1⟩, hf, T96, T86,
    hz, hTI, ⟨_, _, hTO⟩, hi1, hi2, hl1.at (fun o e => hk _ o e), hl2.at (fun o e => hk _ o e)⟩
  exact all_cons (P := fun q : Addr × Obj => h7.get? q.1 = some q.2 ∧ q.1 ≠ L ∧ h₀.get? q.1 = none) (nw 4 _ hz) (all_cons (nw 2 _ hTI) (all_cons (nw 3 _ hTO) (all_cons (nw 0 _ e1) (all_cons (nw 1 _ e2) (fun q hq => ⟨hk _ _ (N q hq).1, (N q hq).2⟩)))))
theorem fr_zip {h h9 : Heap} {m : Str → Option Value} {oz oTI oTO o1 o2 : Obj} {V2 : List (Addr × Obj)} (F : Fr h₀ L h m) (N : News h₀ L h ((z, oz) :: (TI, oTI) :: (TO, oTO) :: (i1, o1) :: (i2, o2) :: V2)) (hk9 : ∀ c o, c ≠ z → c ≠ TO → c ≠ i1 → c ≠ i2 → h.get? c = some o → h9.get? c = some o) : Fr h₀ L h9 m := by
  have a1 := (N (z, oz) (.head _)).2
  have a2 := (N (TO, oTO) (.tail _ (.tail _ (.head _)))).2
  have a3 := (N (i1, o1) (.tail _ (.tail _ (.tail _ (.head _))))).2
  have a4 := (N (i2, o2) (.tail _ (.tail _ (.tail _ (.tail _ (.head _)))))).2
  exact fr_upd F (fun o e => hk9 L o (Ne.symm a1.1) (Ne.symm a2.1) (Ne.symm a3.1) (Ne.symm a4.1) e) (fun b o e0 e => hk9 b o (fun q => by rw [q, a1.2] at e0; cases e0) (fun q => by rw [q, a2.2] at e0; cases e0) (fun q => by rw [q, a3.2] at e0; cases e0) (fun q => by rw [q, a4.2] at e0; cases e0) e)
theorem lst_turn {s : Shared} {h9 : Heap} {G : Prop} {x y : Value} (hSt : St = LSt L h₀ m₀ s₁ z TI TO i1 i2 l1 l2 xs ys fixed q1 q2) (H : St i s) (hZ9 : ZS z TI TO i1 i2 l1 l2 xs ys (i + 1) h9) (hP9 : IsPair h9 s.heap.objs.size x y)
    (hk9 : ∀ c o, c ≠ z → c ≠ TO → c ≠ i1 → c ≠ i2 → s.heap.get? c = some o → h9.get? c = some o) (hab : h₀.objs.size ≤ L)
    (k : ∀ (h : Heap) (tk : Nat) (gens : Array GenState) (u : Str → Option Value) (W : List (Addr × Obj)), s = { s₁ with heap := h, toks := tk, gens := gens } → AllBare gens → Fr h₀ L h9 (kstB (fun y => if (["row", "n", "width", "tail"] : List Str).contains y then u y else m₀ y) []) →
      News h₀ L h9 ((h.objs.size, pairO x y) :: W) → (∀ q ∈ fixed, q ∈ W) → TabIn 96 q1 W → TabIn 86 q2 W → LTurn h₀ L z TI TO i1 i2 l1 l2 xs ys fixed q1 q2 (i + 1) h9 W → G) : G := by
  subst hSt
  obtain ⟨h, tk, gens, u, oz, oTI, oTO, o1, o2, V2, rfl, hgs, F9, N9, hdis, hfx, T96, T86, hZ⟩ := H
  obtain ⟨hz9, hTI9, ⟨pa, pb, hTO9⟩, ⟨oi1, e1, c1, d1⟩, ⟨oi2, e2, c2, d2⟩, hl19, hl29⟩ := id hZ9
  have hLT : L < h.objs.size := F9.ns.lt
  have NW : News h₀ L h9 ((z, zipO TI TO) :: (TI, pairO (.ref i1) (.ref i2)) :: (TO, pairO pa pb) :: (i1, oi1) :: (i2, oi2) :: V2) :=
    all_cons (P := fun q : Addr × Obj => h9.get? q.1 = some q.2 ∧ q.1 ≠ L ∧ h₀.get? q.1 = none) ⟨hz9, (N9 (z, oz) (.head _)).2⟩ (all_cons ⟨hTI9, (N9 (TI, oTI) (.tail _ (.head _))).2⟩ (all_cons ⟨hTO9, (N9 (TO, oTO) (.tail _ (.tail _ (.head _)))).2⟩
      (all_cons ⟨e1, (N9 (i1, o1) (.tail _ (.tail _ (.tail _ (.head _))))).2⟩ (all_cons ⟨e2, (N9 (i2, o2) (.tail _ (.tail _ (.tail _ (.tail _ (.head _)))))).2⟩
      (fun q hq => have n9 := N9 q (.tail _ (.tail _ (.tail _ (.tail _ (.tail _ hq))))); ⟨hk9 _ _ (hdis q hq).1 (hdis q hq).2.1 (hdis q hq).2.2.1 (hdis q hq).2.2.2 n9.1, n9.2⟩)))))
  have up : ∀ q ∈ V2, q ∈ (z, zipO TI TO) :: (TI, pairO (.ref i1) (.ref i2)) :: (TO, pairO pa pb) :: (i1, oi1) :: (i2, oi2) :: V2 := fun q hq => .tail _ (.tail _ (.tail _ (.tail _ (.tail _ hq))))
  refine k h tk gens u _ rfl hgs (fr_zip F9 N9 hk9) ?_ (fun q hq => up q (hfx q hq)) (T96.mono up) (T86.mono up) ⟨pa, pb, oi1, oi2, V2, rfl, NW, d1, d2, hdis, hfx, T96, T86, hZ9⟩
  exact all_cons (P := fun q : Addr × Obj => h9.get? q.1 = some q.2 ∧ q.1 ≠ L ∧ h₀.get? q.1 = none) ⟨hP9, Nat.ne_of_gt hLT, Heap.get?_none_of_le (Nat.le_trans hab (Nat.le_of_lt hLT))⟩ NW
theorem lst_done {s : Shared} {h9 : Heap} {G : Prop} (hSt : St = LSt L h₀ m₀ s₁ z TI TO i1 i2 l1 l2 xs ys fixed q1 q2) (H : St i s) (hk9 : ∀ c o, c ≠ z → c ≠ TO → c ≠ i1 → c ≠ i2 → s.heap.get? c = some o → h9.get? c = some o)
    (k : ∀ (h : Heap) (tk : Nat) (gens : Array GenState) (u : Str → Option Value), s = { s₁ with heap := h, toks := tk, gens := gens } → AllBare gens → Fr h₀ L h9 (kstB (fun y => if (["row", "n", "width", "tail"] : List Str).contains y then u y else m₀ y) []) → GrownAt 96 h9 → GrownAt 86 h9 → G) : G := by
  subst hSt
  obtain ⟨h, tk, gens, u, oz, oTI, oTO, o1, o2, V2, rfl, hgs, F9, N9, hdis, hfx, T96, T86, hZ⟩ := H
  have N10 : News h₀ L h9 V2 := fun q hq => have n9 := N9 q (.tail _ (.tail _ (.tail _ (.tail _ (.tail _ hq))))); ⟨hk9 _ _ (hdis q hq).1 (hdis q hq).2.1 (hdis q hq).2.2.1 (hdis q hq).2.2.2 n9.1, n9.2⟩
  exact k h tk gens u rfl hgs (fr_zip F9 N9 hk9) (tab_grown T96 N10) (tab_grown T86 N10)
theorem lst_end {h9 h11 : Heap} {gens : Array GenState} {tk : Nat} {m₁ : Str → Option Value} {W V4 : List (Addr × Obj)} {k1 k2 : Nat} (hSt : St = LSt L h₀ m₀ s₁ z TI TO i1 i2 l1 l2 xs ys fixed q1 q2) (hT : LTurn h₀ L z TI TO i1 i2 l1 l2 xs ys fixed q1 q2 i h9 W)
    (hne : ∀ c, c = z ∨ c = TI ∨ c = TO ∨ c = i1 ∨ c = i2 → c ≠ 86 ∧ c ≠ 96) (hfc : ∀ q ∈ fixed, q.2.cls = .type "list") (hl1 : (l1, listOf xs k1) ∈ fixed) (hl2 : (l2, listOf ys k2) ∈ fixed)
    (N : News h₀ L h11 V4) (lq : ∀ q ∈ W, q.1 ≠ 86 → q.1 ≠ 96 → q ∈ V4) (T96 : TabIn 96 q1 V4) (T86 : TabIn 86 q2 V4) (hg : AllBare gens) (F : Fr h₀ L h11 m₁) (hm : ∀ y, (["row", "n", "width", "tail"] : List Str).contains y = false → m₁ y = m₀ y) :
    TEnd St i .next { s₁ with heap := h11, toks := tk, gens := gens } := by
  subst hSt
  obtain ⟨pa, pb, oi1, oi2, V2, rfl, N9, d1, d2, hdis, hfx, T96W, T86W, hZ9⟩ := hT
  have up : ∀ q ∈ V2, q ∈ (z, zipO TI TO) :: (TI, pairO (.ref i1) (.ref i2)) :: (TO, pairO pa pb) :: (i1, oi1) :: (i2, oi2) :: V2 := fun q hq => .tail _ (.tail _ (.tail _ (.tail _ (.tail _ hq))))
  obtain ⟨ps86, h86, _⟩ := id T86W
  obtain ⟨ps96, h96, _⟩ := id T96W
  have fxn : ∀ q ∈ fixed, q ∈ V4 := fun q hq => lq q (up _ (hfx q hq)) (news_ne N9 (o := q.2) (up _ (hfx q hq)) (up _ h86) (by rw [hfc q hq]; intro z; cases z)) (news_ne N9 (o := q.2) (up _ (hfx q hq)) (up _ h96) (by rw [hfc q hq]; intro z; cases z))
  have nz := hne z (.inl rfl)
  have nTI := hne TI (.inr (.inl rfl))
  have nTO := hne TO (.inr (.inr (.inl rfl)))
  have n1 := hne i1 (.inr (.inr (.inr (.inl rfl))))
  have n2 := hne i2 (.inr (.inr (.inr (.inr rfl))))
  have mz := lq (z, zipO TI TO) (.head _) nz.1 nz.2
  have mTI := lq (TI, pairO (.ref i1) (.ref i2)) (.tail _ (.head _)) nTI.1 nTI.2
  have mTO := lq (TO, pairO pa pb) (.tail _ (.tail _ (.head _))) nTO.1 nTO.2
  have m1 := lq (i1, oi1) (.tail _ (.tail _ (.tail _ (.head _)))) n1.1 n1.2
  have m2 := lq (i2, oi2) (.tail _ (.tail _ (.tail _ (.tail _ (.head _))))) n2.1 n2.2
  have hbad : ∀ (q0 : Str), ∀ b ∈ ([z, TO, i1, i2] : List Addr), ∀ o, h11.get? b = some o → ∀ vs, o.data = .fields vs → ∀ t, vs[1]? ≠ some (.str q0 t) := fun q0 =>
    all_cons (P := fun b : Addr => ∀ o, h11.get? b = some o → ∀ vs, o.data = .fields vs → ∀ t, vs[1]? ≠ some (.str q0 t))
      (fun o ho vs hd t => by have e := (N _ mz).1; rw [e] at ho; cases ho; cases hd; intro z; cases z)
      (all_cons (fun o ho vs hd t => by have e := (N _ mTO).1; rw [e] at ho; cases ho; cases hd)
      (all_cons (fun o ho vs hd t => by have e := (N _ m1).1; rw [e] at ho; cases ho; rw [d1] at hd; cases hd; intro z; cases z)
      (all_cons (fun o ho vs hd t => by have e := (N _ m2).1; rw [e] at ho; cases ho; rw [d2] at hd; cases hd; intro z; cases z) all_nil)))
  have nb : ∀ P : Addr, z ≠ P → TO ≠ P → i1 ≠ P → i2 ≠ P → P ∉ ([z, TO, i1, i2] : List Addr) := fun P a b c d hm =>
    all_cons (P := fun x : Addr => x ≠ P) a (all_cons b (all_cons c (all_cons d all_nil))) P hm rfl
  refine ⟨rfl, h11, tk, gens, m₁, zipO TI TO, pairO (.ref i1) (.ref i2), pairO pa pb, oi1, oi2, V4.filter (fun e => !([z, TO, i1, i2] : List Addr).contains e.1), rfl, hg, ksw_fr (ps := []) (fun _ h => nomatch h) (fun y _ hy => hm y hy) F, ?f1, ?f2, ?f3, tab_filter T96 N _ (nb 96 nz.2 nTO.2 n1.2 n2.2) (hbad q1), tab_filter T86 N _ (nb 86 nz.1 nTO.1 n1.1 n2.1) (hbad q2), hZ9.keep ?zk⟩
  case f1 =>
    exact all_cons (P := fun q : Addr × Obj => h11.get? q.1 = some q.2 ∧ q.1 ≠ L ∧ h₀.get? q.1 = none) (N _ mz) (all_cons (N _ mTI) (all_cons (N _ mTO) (all_cons (N _ m1) (all_cons (N _ m2) (fun q hq => N q (List.mem_filter.mp hq).1)))))
  case f2 =>
    intro e he
    have h2 := (List.mem_filter.mp he).2
    simp only [List.contains_cons, List.contains_nil, Bool.or_false, Bool.not_eq_true', Bool.or_eq_false_iff, beq_eq_false_iff_ne, ne_eq] at h2
    exact ⟨h2.1, h2.2.1, h2.2.2.1, h2.2.2.2⟩
  case f3 =>
    intro q hq
    have hd := hdis q (hfx q hq)
    refine List.mem_filter.mpr ⟨fxn q hq, ?_⟩
    simp only [List.contains_cons, List.contains_nil, Bool.or_false, Bool.not_eq_true', Bool.or_eq_false_iff, beq_eq_false_iff_ne, ne_eq]
    exact ⟨hd.1, hd.2.1, hd.2.2.1, hd.2.2.2⟩
  case zk =>
    have keepQ : ∀ q ∈ (z, zipO TI TO) :: (TI, pairO (.ref i1) (.ref i2)) :: (TO, pairO pa pb) :: (i1, oi1) :: (i2, oi2) :: V2, q ∈ V4 → ∀ o, h9.get? q.1 = some o → h11.get? q.1 = some o := fun q hq hv o e => by
      rw [(N9 q hq).1] at e
      cases e
      exact (N q hv).1
    rintro cz (rfl | rfl | rfl | rfl | rfl | rfl | rfl)
    · exact keepQ _ (.head _) mz
    · exact keepQ _ (.tail _ (.head _)) mTI
    · exact keepQ _ (.tail _ (.tail _ (.head _))) mTO
    · exact keepQ _ (.tail _ (.tail _ (.tail _ (.head _)))) m1
    · exact keepQ _ (.tail _ (.tail _ (.tail _ (.tail _ (.head _))))) m2
    · exact keepQ _ (up _ (hfx _ hl1)) (fxn _ hl1)
    · exact keepQ _ (up _ (hfx _ hl2)) (fxn _ hl2)
end

def seps : List Str := [Str.ofString ",", Str.ofString " ", Str.ofString "", Str.ofString "::"]
theorem sep_ok {k : Int} (h0 : 0 ≤ k) (h1 : k < 4) : SepP (seps.getD k.toNat Str.empty) := by
  have : k = 0 ∨ k = 1 ∨ k = 2 ∨ k = 3 := by omega
  rcases this with rfl | rfl | rfl | rfl
  · exact ⟨by decide +kernel, by decide +kernel, by decide +kernel⟩
  · exact ⟨by decide +kernel, by decide +kernel, by decide +kernel⟩
  · exact ⟨by decide +kernel, by decide +kernel, by decide +kernel⟩
  · exact ⟨by decide +kernel, by decide +kernel, by decide +kernel⟩
theorem three_of {l : List Int} (h : l.length = 9) : ∃ a b c, l.drop (6 : Int).toNat = [a, b, c] := by
  have hl : (l.drop (6 : Int).toNat).length = 3 := by
    rw [List.length_drop, h]; rfl
  match e : l.drop (6 : Int).toNat, hl with
  | [a, b, c], _ => exact ⟨a, b, c, rfl⟩
theorem ints_three {vs : List Value} {a b c : Int} (h : IntsAre vs [a, b, c]) : ∃ t1 t2 t3, vs = [.int a t1, .int b t2, .int c t3] := by
  cases h with
  | cons _ t1 h => cases h with
    | cons _ t2 h => cases h with
      | cons _ t3 h => cases h; exact ⟨t1, t2, t3, rfl⟩
end Mine
end

theorem Mine.part_law : True := by
  w_top off
  k_with_none
  trivial
section
open PySem PySem.W PyProof.Rows PySem.Spec PySem.Calls
namespace Mine


set_option maxRecDepth 100000 in
set_option maxHeartbeats 8000000 in
theorem law_holds : PySem.Challenge.rw_nb0109_01.Holds := Mine.hd (by
  k_with_none
  (k_with "call ref" => (refine Halt.out ?_))
  (k_with "exec For Tuple Call cons nil" => (refine Halt.out ?_))
  (k_with "subscriptTail Name Slice ref ref" => (refine Halt.out ?_))
  (k_with "subscriptTail Name Constant ref int" => (refine Halt.out ?_))
  (k_with "subscriptTail Name Name ref int" => (refine Halt.out ?_))
  (k_with "binaryOp Add ref ref" => (refine Halt.out ?_))
  (k_with "TEnd" => (refine Halt.out ?_))
  (k_with "subscriptTail" => ((with_reducible show wpAny _ _ (subscriptTail (PySem.Expr.List _ _) _ _ _) _ _ _); refine Halt.out ?_))
  (k_with "call type:zip" => (refine Halt.out ?_))
  k_fill
  intro w s₀ s₁ mg mb G Y fa o pm cd doc dV kV ho hdd hcd hD hmg hg args vals as hpre hlay hrd hwl hlo
  have KX := km_in_of Y
  km_tabs Y
  have X := (Ground.X G).1
  have V := (Ground.X G).2
  refine Ground.open G ?_
  intro T B D TE TW
  try (refine guard_noD D (by decide +kernel) ?_; clear D)
  km_lay T hmg ho hdd cd
  clear hmg
  wrow_args hpre hlay hrd hwl hlo
  first | refine callC_kw (enter_call ?_) | refine enter_call ?_
  w_top on
  refine law_post hT9 (fun _ _ => rfl) ?hpost ?_
  case hpost => wrow_post
  w_call any ho hdd hcd hD T F
  clear hdd
  kn_ghosts F T
  k_drop
  rename_i ns hs hlay0 hL1 hr1 hl2 asA asB lst vs asC hLs1 ra w1 r0 hI hr hc63 hcT h1 X0 T0 B0 F0 cH1 N0 l0
  have hLs := lifted
  have hlen : ns.length ≤ 63 := by omega
  obtain ⟨loose, TL⟩ : ∃ l, Top topProg l (ExcName.means s₀.heap) mg mb (ghostOf s₁.heap [(100, 96), (88, 86)]) := ⟨_, T0⟩
  have hgb : AllBare s₁.gens := .of_eq hg
  obtain ⟨mean, hmean⟩ : ∃ f, f = ExcName.means s₀.heap := ⟨_, rfl⟩
  rw [← hmean] at TL
  have hLaw : ∀ (h' : Heap) (tk' : Nat) (gens' : Array GenState) (d : Drawn), (∀ b o, (ghostOf s₁.heap [(100, 96), (88, 86)]).get? b = some o → h'.get? b = some o) → AllBare gens' → GrownAll [(100, 96), (88, 86)] h' → LawEnd s₁ [(100, 96), (88, 86)] (.ok (.ret (.bool true))) ⟨h', gens', d, tk', s₁.os⟩ := fun h' tk' gens' d x1 x2 x3 => ⟨rfl, x1, rfl, x2, x3⟩
  generalize LawEnd s₁ [(100, 96), (88, 86)] = LE at hLaw ⊢
  generalize s₁.heap.objs.size = L at F0 N0 l0 ⊢
  generalize ghostOf s₁.heap [(100, 96), (88, 86)] = h₀ at X0 TL B0 F0 N0 hLs hLaw ⊢
  clear T0 hmean codeHd cH1 lifted hT9 hT8 hs hlay0 hL1 hr1 hl2 hLs1 ra w1 r0 hr hc63 hcT hcd hD TW TE B T V X ho G Y
  try k_fold
  k_steps
  unfold Halt
  k_dflt (refine' numbers_ok w topProg loose mean mg mb _ lst vs ns hI hlen _ _ _ _ _ _ _ _ _ _ _ _ _ _ _ _ _ B0 F0 X0 N0 TL ?hk1 hLs ?hd1 ?hu1 ?_)
  case hk1 => exact rfl
  case hd1 => decide +kernel
  case hu1 => decide +kernel
  clear F0 N0
  intro Nu nus nn h2 tk2 hNu lNu F N
  try dsimp only
  have hN9 := nums_len ns
  have hNb := nums_bd ns
  generalize numsF ns = NS at hNu hN9 hNb
  k_steps
  unfold Halt
  rename Fr _ _ _ _ => F
  rename News _ _ _ _ => N
  refine item_list_ints (News.isList N (.head _)) hNu (by omega) (by omega) (by omega) ?_
  intro tI0
  have hb0 := getD_bd hNb (0 : Int).toNat
  generalize NS.getD (0 : Int).toNat 0 = n0 at hb0 ⊢
  k_steps
  unfold Halt
  rename Fr _ _ _ _ => F
  rename News _ _ _ _ => N
  have hm0 : 0 ≤ n0.fmod 3 ∧ n0.fmod 3 < 3 := ⟨Int.fmod_nonneg_of_pos _ (by decide), Int.fmod_lt_of_pos _ (by decide)⟩
  refine' kmk_slice_ints F N (News.isList N (.head _)) (IsPart.int _ _) (IsPart.int _ _) hNu (kmk_run hNu (by omega) (by omega)) rfl ?_ ?ks ?kt ?kz
  case ks => with_unfolding_all rfl
  case kt => kmk_pure
  case kz => rw [sizeLine_eq, List.size_toArray, hNu.length]; omega
  clear F N
  intro Sl sws h3 F N lS hSl _ _
  have hSz := sizes_ok hN9 hm0.1 hm0.2
  generalize (NS.drop (1 : Int).toNat).take (min (2 + n0.fmod 3).toNat NS.length - (1 : Int).toNat) = SL at hSl hSz
  have hSL3 : SL.length ≤ 3 := by have := hSz.2.1; rwa [List.length_map] at this
  k_steps
  unfold Halt
  rename_i Sz szs hS1 tkS1 F8 N8 hnone hisl hcar nX N iX
  rename Fr _ _ _ _ => F
  clear N8 hnone hisl hcar
  replace N : News h₀ L hS1 ((Sz, listOf szs.toArray nX) :: _) := N
  rw [show List.filter (fun _ => true) SL = SL from List.filter_eq_self.mpr (fun _ _ => rfl)] at iX
  generalize List.map (fun n => 1 + n.fmod 4) SL = SZ at iX hSz
  refine item_list_ints (News.isList N (by repeat (first | exact List.Mem.head _ | refine List.Mem.tail _ ?_))) hNu (by omega) (by omega) (by omega) ?_
  intro tI4
  have hb4 := getD_bd hNb (4 : Int).toNat
  generalize NS.getD (4 : Int).toNat 0 = n4 at hb4 ⊢
  try dsimp only
  k_steps
  unfold Halt
  rename Fr _ _ _ _ => F
  rename News _ _ _ _ => N
  refine item_list_ints (News.isList N (by repeat (first | exact List.Mem.head _ | refine List.Mem.tail _ ?_))) hNu (by omega) (by omega) (by omega) ?_
  intro tI5
  have hb5 := getD_bd hNb (5 : Int).toNat
  generalize NS.getD (5 : Int).toNat 0 = n5 at hb5 ⊢
  try dsimp only
  have hSZ3 := hSz.2.1
  k_steps
  unfold Halt
  rename Fr _ _ _ _ => F
  rename News _ _ _ _ => N
  refine' kmk_add_ints F N (News.isList N (by repeat (first | exact List.Mem.head _ | refine List.Mem.tail _ ?_))) (News.isList N (.head _)) iX (.cons _ _ .nil) ?_ ?kz1
  case kz1 =>
    rw [sizeLine_eq]
    simp only [List.length_append, List.length_cons, List.length_nil]
    omega
  clear F N
  intro A1 at1 h1 F N lA1 iA1
  k_steps
  unfold Halt
  rename Fr _ _ _ _ => F
  rename News _ _ _ _ => N
  refine' kmk_add_ints F N (News.isList N (.head _)) (News.isList N (by repeat (first | exact List.Mem.head _ | refine List.Mem.tail _ ?_))) iA1 (.cons _ _ (.cons _ _ .nil)) ?_ ?kz2
  case kz2 =>
    rw [sizeLine_eq]
    simp only [List.length_append, List.length_cons, List.length_nil]
    omega
  clear F N
  intro A2 at2 h2 F N lA2 iA2
  k_steps
  unfold Halt
  rename Fr _ _ _ _ => F
  rename News _ _ _ _ => N
  refine' kmk_add_ints F N (News.isList N (by repeat (first | exact List.Mem.head _ | refine List.Mem.tail _ ?_))) (News.isList N (.head _)) iX (.cons _ _ .nil) ?_ ?kz3
  case kz3 =>
    rw [sizeLine_eq]
    simp only [List.length_append, List.length_cons, List.length_nil]
    omega
  clear F N
  intro A3 at3 h3 F N lA3 iA3
  k_steps
  unfold Halt
  rename Fr _ _ _ _ => F
  rename News _ _ _ _ => N
  refine' kmk_add_ints F N (News.isList N (.head _)) (News.isList N (by repeat (first | exact List.Mem.head _ | refine List.Mem.tail _ ?_))) iA3 (.cons _ _ (.cons _ _ .nil)) ?_ ?kz4
  case kz4 =>
    rw [sizeLine_eq]
    simp only [List.length_append, List.length_cons, List.length_nil]
    omega
  clear F N
  intro A4 at4 h4 F N lA4 iA4
  k_steps
  unfold Halt
  rename_i Rw hR1 lR hR2 F N
  replace N := news_all (A := [(Rw, listOf #[Value.ref Sz, Value.ref A2, Value.ref A4] 0), (A4, listOf at4.toArray 0), (A2, listOf at2.toArray 0), (Sz, listOf szs.toArray nX), (Nu, listOf nus.toArray nn), (96, tabObj #[]), (86, tabObj #[])]) N (all_cons (by repeat (first | exact List.Mem.head _ | refine List.Mem.tail _ ?_)) (all_cons (by repeat (first | exact List.Mem.head _ | refine List.Mem.tail _ ?_)) (all_cons (by repeat (first | exact List.Mem.head _ | refine List.Mem.tail _ ?_)) (all_cons (by repeat (first | exact List.Mem.head _ | refine List.Mem.tail _ ?_)) (all_cons (by repeat (first | exact List.Mem.head _ | refine List.Mem.tail _ ?_)) (all_cons (by repeat (first | exact List.Mem.head _ | refine List.Mem.tail _ ?_)) (all_cons (by repeat (first | exact List.Mem.head _ | refine List.Mem.tail _ ?_)) all_nil)))))))
  clear lR lA1 lA2 lA3 lA4 iA1 iA3 hSl lS lNu
  refine wpAny_For ?_
  k_steps
  unfold Halt
  rename Fr _ _ _ _ => F
  rename News _ _ _ _ => N
  refine' kmk_slice_ints F N (News.isList N (by repeat (first | exact List.Mem.head _ | refine List.Mem.tail _ ?_))) (IsPart.int _ _) IsPart.none hNu (kmk_from hNu (by omega)) rfl ?_ ?ks6 ?kt6 ?kz6
  case ks6 => with_unfolding_all rfl
  case kt6 => kmk_pure
  case kz6 => rw [sizeLine_eq, List.size_toArray, hNu.length]; omega
  clear F N
  intro Tl tws h6 F N lT hTl _ _
  obtain ⟨a, b, c, habc⟩ := three_of hN9
  have hba : ∀ x ∈ [a, b, c], 0 ≤ x ∧ x < 100000000 := fun x hx => hNb x (List.mem_of_mem_drop (by rw [habc]; exact hx))
  rw [habc] at hTl
  obtain ⟨ta, tb, tc, rfl⟩ := ints_three hTl
  k_steps
  unfold Halt
  rename Fr _ _ _ _ => F
  rename News _ _ _ _ => N
  refine call_zip_2 (News.isList N (by repeat (first | exact List.Mem.head _ | refine List.Mem.tail _ ?_))) (News.isList N (.head _)) ?_
  intro h7 hz hTI hTO hi1 hi2 hsz hkz
  refine wpAny_pyIter_zip hz ?_
  try dsimp only at hz hTI hTO hi1 hi2 hsz hkz ⊢
  have hRwS := Heap.lt_size (N (Rw, _) (by repeat (first | exact List.Mem.head _ | refine List.Mem.tail _ ?_))).1
  have hTlS := Heap.lt_size (N (Tl, _) (by repeat (first | exact List.Mem.head _ | refine List.Mem.tail _ ?_))).1
  have hLS : L < h6.objs.size := F.ns.lt
  have hab : h₀.objs.size ≤ L := F.above
  generalize hSe : h6.objs.size = S at hz hTI hTO hi1 hi2 hsz hRwS hTlS hLS ⊢
  have F2 : Fr h₀ L h7 _ := F.keeps hkz
  obtain ⟨fixed, hfixed⟩ : ∃ fixed, fixed = [(Rw, listOf #[Value.ref Sz, Value.ref A2, Value.ref A4] 0), (A4, listOf at4.toArray 0), (A2, listOf at2.toArray 0), (Sz, listOf szs.toArray nX), (Tl, listOf #[Value.int a ta, Value.int b tb, Value.int c tc] 0)] := ⟨_, rfl⟩
  have hfc : ∀ q ∈ fixed, q.2.cls = .type "list" := by
    rw [hfixed]
    exact all_cons rfl (all_cons rfl (all_cons rfl (all_cons rfl (all_cons rfl all_nil))))
  have hfRw : (Rw, listOf #[Value.ref Sz, Value.ref A2, Value.ref A4] 0) ∈ fixed := by rw [hfixed]; exact .head _
  have hfA4 : (A4, listOf at4.toArray 0) ∈ fixed := by rw [hfixed]; exact .tail _ (.head _)
  have hfA2 : (A2, listOf at2.toArray 0) ∈ fixed := by rw [hfixed]; exact .tail _ (.tail _ (.head _))
  have hfSz : (Sz, listOf szs.toArray nX) ∈ fixed := by rw [hfixed]; exact .tail _ (.tail _ (.tail _ (.head _)))
  have hfTl : (Tl, listOf #[Value.int a ta, Value.int b tb, Value.int c tc] 0) ∈ fixed := by rw [hfixed]; exact .tail _ (.tail _ (.tail _ (.tail _ (.head _))))
  obtain ⟨St, hSt⟩ : ∃ St : Nat → Shared → Prop, St = LSt L h₀ (mapOf F2) s₁ (S + 4) (S + 2) (S + 3) S (S + 1) Rw Tl #[Value.ref Sz, Value.ref A2, Value.ref A4] #[Value.int a ta, Value.int b tb, Value.int c tc] fixed q96 q86 := ⟨_, rfl⟩
  refine' for_zipS (z := S + 4) (TI := S + 2) (TO := S + 3) (i1 := S) (i2 := S + 1) (l1 := Rw) (l2 := Tl) (xs := #[Value.ref Sz, Value.ref A2, Value.ref A4]) (ys := #[Value.int a ta, Value.int b tb, Value.int c tc]) (n := 3) rfl (zip_apart hRwS hTlS) rfl rfl St (fun i s => lst_iter hSt) ?turn ?done ?init
  case init =>
    refine lst_init hSt hgb F2 N hSe hkz hz hTI hTO hi1 hi2 ?fi ?t96 ?t86 hLS hab (News.isList N (by repeat (first | exact List.Mem.head _ | refine List.Mem.tail _ ?_))) (News.isList N (.head _))
    case fi =>
      rw [hfixed]
      exact all_cons (by repeat (first | exact List.Mem.head _ | refine List.Mem.tail _ ?_)) (all_cons (by repeat (first | exact List.Mem.head _ | refine List.Mem.tail _ ?_)) (all_cons (by repeat (first | exact List.Mem.head _ | refine List.Mem.tail _ ?_)) (all_cons (by repeat (first | exact List.Mem.head _ | refine List.Mem.tail _ ?_)) (all_cons (.head _) all_nil))))
    case t96 => exact tab_new (by repeat (first | exact List.Mem.head _ | refine List.Mem.tail _ ?_))
    case t86 => exact tab_new (by repeat (first | exact List.Mem.head _ | refine List.Mem.tail _ ?_))
  case done =>
    rintro s h9 hS hk9
    refine lst_done hSt hS hk9 ?_
    clear hS hk9
    intro h tk gens u es hgs F g96 g86
    subst es
    dsimp only [mapOf, kstB] at F
    clear hSt N F2
    dsimp only
    k_steps
    exact hLaw h9 _ gens _ F.keep hgs ⟨g96, g86, trivial⟩
  case turn =>
    have hRP := row_plain hSz.1 hSz.2.1 hSz.2.2
    have hRP0 : RowP (SZ ++ [0] ++ [n4.fmod 6, n5.fmod 130]) := by
      rw [List.append_assoc]; exact row_rest hSz.1 hSz.2.1 hSz.2.2 (.inl rfl) (by simp)
    have hRP1 : RowP (SZ ++ [127] ++ [n4.fmod 6, n5.fmod 130]) := by
      rw [List.append_assoc]; exact row_rest hSz.1 hSz.2.1 hSz.2.2 (.inr rfl) (by simp)
    dsimp only [mapOf] at hSt
    rintro i x y s9 h9 hi hx hy hS hZ9 hP9 hk9
    refine lst_turn hSt hS hZ9 hP9 hk9 hab ?_
    clear hS hZ9 hP9 hk9
    intro h tk gens u W es hgs F N hfW T96 T86 hLT
    subst es
    obtain ⟨Dr, rvs, rn, row, nv, t, rfl, rfl, hmem, hIr, hRow, hv0, hv1⟩ : ∃ (Dr : Addr) (rvs : List Value) (rn : Nat) (row : List Int) (nv : Int) (t : Tok), x = .ref Dr ∧ y = .int nv t ∧ (Dr, listOf rvs.toArray rn) ∈ fixed ∧ IntsAre rvs row ∧ RowP row ∧ 0 ≤ nv ∧ nv < 100000000 := by
      match i, hi, hx, hy with
      | 0, _, hx, hy => cases hx; cases hy; exact ⟨Sz, szs, nX, SZ, a, ta, rfl, rfl, hfSz, iX, hRP, hba a (.head _)⟩
      | 1, _, hx, hy => cases hx; cases hy; exact ⟨A2, at2, 0, _, b, tb, rfl, rfl, hfA2, iA2, hRP0, hba b (.tail _ (.head _))⟩
      | 2, _, hx, hy => cases hx; cases hy; exact ⟨A4, at4, 0, _, c, tc, rfl, rfl, hfA4, iA4, hRP1, hba c (.tail _ (.tail _ (.head _)))⟩
    dsimp only
    generalize h.objs.size = Tn at N ⊢
    dsimp only [kstB] at F
    have hk0 : 0 ≤ (nv.fdiv 39).fmod 4 ∧ (nv.fdiv 39).fmod 4 < 4 := ⟨Int.fmod_nonneg_of_pos _ (by decide), Int.fmod_lt_of_pos _ (by decide)⟩
    have hwd : 1 ≤ 1 + nv.fmod 13 ∧ 1 + nv.fmod 13 ≤ 13 := by
      have x1 := Int.fmod_nonneg_of_pos nv (b := 13) (by decide)
      have x2 := Int.fmod_lt_of_pos nv (b := 13) (by decide)
      constructor <;> omega
    have htl : 0 ≤ (nv.fdiv 13).fmod 3 ∧ (nv.fdiv 13).fmod 3 ≤ 2 := by
      have x1 := Int.fmod_nonneg_of_pos (nv.fdiv 13) (b := 3) (by decide)
      have x2 := Int.fmod_lt_of_pos (nv.fdiv 13) (b := 3) (by decide)
      constructor <;> omega
    have hDr86 : Dr ≠ 86 := by
      obtain ⟨ps86, h86, _⟩ := id T86
      exact news_ne (news_tl N) (hfW _ hmem) h86 (by intro q; cases q)
    k_steps
    unfold Halt
    rename Fr _ _ _ _ => F
    rename News _ _ _ _ => N
    dsimp only at F N ⊢
    refine KTb.item_list (ws := seps) (News.isList N (.head _)) (.cons _ _ (.cons _ _ (.cons _ _ (.cons _ _ .nil)))) hk0.1 (by have := hk0.2; show _ < ((4 : Nat) : Int); omega) (by omega) ?_
    intro tsp _
    have hSP := sep_ok hk0.1 hk0.2
    generalize seps.getD ((nv.fdiv 39).fmod 4).toNat Str.empty = sep at hSP ⊢
    have CP := colP_of hRow hSP hwd.1 hwd.2 htl.1 htl.2
    k_steps
    unfold Halt
    rename Fr _ _ _ _ => F
    rename News _ _ _ _ => N
    replace N : News h₀ L _ W := news_tl (news_tl (news_tl N))
    k_dflt (refine' column_ok w topProg loose mean mg mb W T86 Dr rvs rn row (hfW _ hmem) hIr hDr86 _ _ _ _ sep _ (cuts row) CP _ _ _ _ _ _ _ _ _ _ _ _ _ _ _ _ _ B0 F X0 N TL ?ckk ?cdd ?cuu ?_)
    case ckk => exact rfl
    case cdd => decide +kernel
    case cuu => decide +kernel
    have T96c := fun V3 (hV3 : ∀ q ∈ W, q.1 ≠ 86 → q ∈ V3) => tab_keep T96 T86 N (by decide) hV3
    clear F N
    intro V3 h10 tk10 gens3 hgb3 T863 hV3 F N
    have T963 := T96c V3 hV3
    clear T96c
    try dsimp only
    k_steps
    unfold Halt
    rename Fr _ _ _ _ => F
    rename News _ _ _ _ => N
    k_dflt (refine' blanks_ok w topProg loose mean mg mb V3 T963 _ _ _ _ hwd.1 hwd.2 htl.1 htl.2 _ _ _ _ _ _ _ _ _ _ _ _ _ _ _ _ B0 F X0 N TL X0 TL ?bkk ?bdd ?buu ?_)
    case bkk => exact rfl
    case bdd => decide +kernel
    case buu => decide +kernel
    have T86c := fun V4 (hV4 : ∀ q ∈ V3, q.1 ≠ 96 → q ∈ V4) => tab_keep T863 T963 N (by decide) hV4
    clear F N
    intro V4 h11 tk11 T964 hV4 F N
    have T864 := T86c V4 hV4
    clear T86c
    try dsimp only
    k_steps
    unfold Halt
    rename Fr _ _ _ _ => F
    rename News _ _ _ _ => N
    have l96 : 96 < S := Nat.lt_trans l0.1 hLS
    have sne : ∀ k : Nat, S + k ≠ 86 ∧ S + k ≠ 96 := fun k => ⟨Ne.symm (neL (Nat.lt_trans (by decide : (86 : Nat) < 96) l96) k), Ne.symm (neL l96 k)⟩
    exact lst_end hSt hLT (fun c hc => hc.elim (fun e => e ▸ sne 4) (fun hc => hc.elim (fun e => e ▸ sne 2) (fun hc => hc.elim (fun e => e ▸ sne 3) (fun hc => hc.elim (fun e => e ▸ sne 0) (fun e => e ▸ sne 1))))) hfc hfRw hfTl N (fun q hq h1 h2 => hV4 q (hV3 q hq h1) h2) T964 T864 (hgb3 hgs) F (by repeat (first | exact off_base | refine off_set (by decide +kernel) ?_))
)
end Mine
end
end

theorem PySem.Challenge.cw_nb0109_01_holds : PySem.Challenge.rw_nb0109_01.Holds :=
  Mine.law_holds
