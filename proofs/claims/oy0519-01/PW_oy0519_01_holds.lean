import PyProof.Rows.All
import Wide.All
import OpenK.AllK
import Wide.FinOn
import PySem.Challenge.RW_oy0519_01
section
open PySem PySem.W PyProof.Rows
set_option Elab.async false
set_option maxRecDepth 100000 
set_option maxHeartbeats 8000000 
namespace Mine
open_top hd for PySem.Challenge.rw_oy0519_01
end Mine

end
section
open PySem PySem.W PyProof.Rows
set_option Elab.async false
namespace Mine
/-- how far two lists of signs agree from the front -/
def cplL : List Nat → List Nat → Nat
  | a :: x, b :: y => if a = b then cplL x y + 1 else 0
  | [], _ => 0
  | _ :: _, [] => 0
theorem cplL_le_left : ∀ x y, cplL x y ≤ x.length
  | [], _ => by simp [cplL]
  | _ :: _, [] => by simp [cplL]
  | a :: x, b :: y => by
    unfold cplL
    have := cplL_le_left x y
    split <;> simp only [List.length_cons] <;> omega
theorem cplL_le_right : ∀ x y, cplL x y ≤ y.length
  | [], _ => by simp [cplL]
  | _ :: _, [] => by simp [cplL]
  | a :: x, b :: y => by
    unfold cplL
    have := cplL_le_right x y
    split <;> simp only [List.length_cons] <;> omega
theorem cplL_go : ∀ (x y : List Nat) (c : Nat), c ≤ cplL x y → c < x.length → c < y.length → x.getD c 0 = y.getD c 0 → c + 1 ≤ cplL x y
  | [], _, c, _, h, _, _ => absurd h (Nat.not_lt_zero _)
  | _ :: _, [], c, _, _, h, _ => absurd h (Nat.not_lt_zero _)
  | a :: x, b :: y, 0, _, _, _, e => by
    have e' : a = b := by simpa using e
    unfold cplL
    rw [if_pos e']; omega
  | a :: x, b :: y, c + 1, h, h1, h2, e => by
    unfold cplL at h ⊢
    by_cases e' : a = b
    · rw [if_pos e'] at h ⊢
      have := cplL_go x y c (by omega) (by simpa using h1) (by simpa using h2) (by simpa using e)
      omega
    · rw [if_neg e'] at h; omega
theorem cplL_stop : ∀ (x y : List Nat) (c : Nat), c ≤ cplL x y → c < x.length → c < y.length → x.getD c 0 ≠ y.getD c 0 → c = cplL x y
  | [], _, c, _, h, _, _ => absurd h (Nat.not_lt_zero _)
  | _ :: _, [], c, _, _, h, _ => absurd h (Nat.not_lt_zero _)
  | a :: x, b :: y, 0, _, _, _, e => by
    have e' : a ≠ b := by simpa using e
    unfold cplL
    rw [if_neg e']
  | a :: x, b :: y, c + 1, h, h1, h2, e => by
    unfold cplL at h ⊢
    by_cases e' : a = b
    · rw [if_pos e'] at h ⊢
      have := cplL_stop x y c (by omega) (by simpa using h1) (by simpa using h2) (by simpa using e)
      omega
    · rw [if_neg e'] at h; omega

def cpl (x y : Str) : Nat := cplL x.cps.toList y.cps.toList
def csl (x y : Str) : Nat := cplL x.cps.toList.reverse y.cps.toList.reverse
def dropS (x : Str) (n : Nat) : Str := ⟨(x.cps.toList.drop n).toArray⟩
def endS (x : Str) (n : Nat) : Str := ⟨(x.cps.toList.take (x.cps.toList.length - n)).toArray⟩
theorem len_is (x : Str) : x.length = x.cps.toList.length := by simp [Str.length]
theorem cpl_left (x y : Str) : cpl x y ≤ x.length := by rw [len_is]; exact cplL_le_left _ _
theorem cpl_right (x y : Str) : cpl x y ≤ y.length := by rw [len_is]; exact cplL_le_right _ _
theorem csl_left (x y : Str) : csl x y ≤ x.length := by rw [len_is, ← List.length_reverse]; exact cplL_le_left _ _
theorem csl_right (x y : Str) : csl x y ≤ y.length := by rw [len_is, ← List.length_reverse]; exact cplL_le_right _ _
theorem len_dropS (x : Str) (n : Nat) : (dropS x n).length = x.length - n := by simp [dropS, Str.length]
theorem len_endS (x : Str) (n : Nat) : (endS x n).length = x.length - n := by simp [endS, Str.length]

theorem item_at (x : Str) (c : Nat) (h : c < x.length) : Txt.item x (c : Int) = ⟨#[x.cps.toList.getD c 0]⟩ := by
  refine item_meets (by omega) ?_
  have h' : c < x.cps.size := h
  simp [h']
theorem item_end (x : Str) (c : Nat) (h : c < x.length) : Txt.item x (-(c : Int) - 1) = ⟨#[x.cps.toList.reverse.getD c 0]⟩ := by
  have h' : c < x.cps.size := h
  have e := beq_iff_eq.mp (item_closes_neg (x := x) (i := -(c : Int) - 1) (j := ((x.length - 1 - c : Nat) : Int)) (by omega) (by omega) (by omega))
  rw [e]
  have h3 : x.cps.size - 1 - c < x.cps.size := by omega
  have h4 : x.cps.toList.reverse[c]? = some (x.cps[x.cps.size - 1 - c]) := by
    rw [List.getElem?_reverse (by simpa using h')]
    simp [h3]
  rw [List.getD_eq_getElem?_getD, h4]
  simp [Str.length, h3]
theorem one_inj {a b : Nat} : ((⟨#[a]⟩ : Str) == ⟨#[b]⟩) = decide (a = b) := by
  by_cases h : a = b
  · subst h; simp
  · simp [h]

theorem pre_go {x y : Str} {c : Nat} (h : c ≤ cpl x y) (hx : c < x.length) (hy : c < y.length) (e : (Txt.item x (c : Int) == Txt.item y (c : Int)) = true) : c + 1 ≤ cpl x y := by
  rw [item_at x c hx, item_at y c hy, one_inj] at e
  exact cplL_go _ _ _ h (by rw [← len_is]; exact hx) (by rw [← len_is]; exact hy) (of_decide_eq_true e)
theorem pre_stop {x y : Str} {c : Nat} (h : c ≤ cpl x y) (hx : c < x.length) (hy : c < y.length) (e : (Txt.item x (c : Int) == Txt.item y (c : Int)) = false) : c = cpl x y := by
  rw [item_at x c hx, item_at y c hy, one_inj] at e
  exact cplL_stop _ _ _ h (by rw [← len_is]; exact hx) (by rw [← len_is]; exact hy) (of_decide_eq_false e)
theorem post_go {x y : Str} {c : Nat} (h : c ≤ csl x y) (hx : c < x.length) (hy : c < y.length) (e : (Txt.item x (-(c : Int) - 1) == Txt.item y (-(c : Int) - 1)) = true) : c + 1 ≤ csl x y := by
  rw [item_end x c hx, item_end y c hy, one_inj] at e
  exact cplL_go _ _ _ h (by rw [List.length_reverse, ← len_is]; exact hx) (by rw [List.length_reverse, ← len_is]; exact hy) (of_decide_eq_true e)
theorem post_stop {x y : Str} {c : Nat} (h : c ≤ csl x y) (hx : c < x.length) (hy : c < y.length) (e : (Txt.item x (-(c : Int) - 1) == Txt.item y (-(c : Int) - 1)) = false) : c = csl x y := by
  rw [item_end x c hx, item_end y c hy, one_inj] at e
  exact cplL_stop _ _ _ h (by rw [List.length_reverse, ← len_is]; exact hx) (by rw [List.length_reverse, ← len_is]; exact hy) (of_decide_eq_false e)

theorem post_go0 {x y : Str} (hx : 0 < x.length) (hy : 0 < y.length) (e : (Txt.item x (0 - 1) == Txt.item y (0 - 1)) = true) : 0 + 1 ≤ csl x y := post_go (c := 0) (Nat.zero_le _) hx hy e
theorem post_stop0 {x y : Str} (hx : 0 < x.length) (hy : 0 < y.length) (e : (Txt.item x (0 - 1) == Txt.item y (0 - 1)) = false) : 0 = csl x y := post_stop (c := 0) (Nat.zero_le _) hx hy e
theorem slice_from (x : Str) (c : Nat) (h : c ≤ x.length) : Txt.slice x (some (c : Int)) none = dropS x c := by
  rw [slice_from_eq (b := (x.length : Int)) (by omega) (by omega) rfl]
  unfold dropS
  have : ((x.length : Int) - (c : Int)).toNat = (x.cps.toList.drop c).length := by simp [Str.length]
  rw [Int.toNat_natCast, this, List.take_length]
theorem slice_all (x : Str) : Txt.slice x none none = x := by
  unfold Txt.slice
  rw [if_pos]
  simp [PySem.Builtin.Str.strSliceIndices, sliceRange]
  split <;> omega
theorem slice_end (x : Str) (c : Nat) (h0 : c ≠ 0) (h : c ≤ x.length) : Txt.slice x none (some (-(c : Int))) = endS x c := by
  have e := beq_iff_eq.mp (slice_closes_to_neg (x := x) (j := -(c : Int)) (k := ((x.length - c : Nat) : Int)) (by omega) (by omega) (by omega))
  rw [e]
  unfold endS
  simp [Str.length]
theorem endS_zero (x : Str) : endS x 0 = x := by
  unfold endS
  rw [Nat.sub_zero, List.take_length]
end Mine

end
section
open PySem PySem.W PyProof.Rows
set_option Elab.async false
set_option maxRecDepth 100000
namespace Mine
theorem lookup_if {z a : Str} {v : Value} {r : List (Str × Value)} : List.lookup z ((a, v) :: r) = if z = a then some v else List.lookup z r := by
  rw [List.lookup_cons]
  by_cases h : z = a
  · rw [if_pos h, show (z == a) = true from beq_iff_eq.mpr h]
  · rw [if_neg h, show (z == a) = false from beq_eq_false_iff_ne.mpr h]
theorem fr_clean2 {h₀ h : Heap} {L : Addr} {m : Str → Option Value} (F : Fr h₀ L h m) {a b : Str} {va vb : Value} (e : m = fun z => List.lookup z [(b, vb), (a, va)]) :
    Fr h₀ L h (fun z => if z = b then some vb else if z = a then some va else none) := by
  have em : (fun z => if z = b then some vb else if z = a then some va else none) = m := by
    rw [e]; funext z; rw [lookup_if, lookup_if]; rfl
  rw [em]; exact F
theorem fr_clean3 {h₀ h : Heap} {L : Addr} {m : Str → Option Value} (F : Fr h₀ L h m) {a b c : Str} {va vb vc : Value} (e : m = fun z => List.lookup z [(c, vc), (b, vb), (a, va)]) :
    Fr h₀ L h (fun z => if z = c then some vc else if z = b then some vb else if z = a then some va else none) := by
  have em : (fun z => if z = c then some vc else if z = b then some vb else if z = a then some va else none) = m := by
    rw [e]; funext z; rw [lookup_if, lookup_if, lookup_if]; rfl
  rw [em]; exact F
def JV (h₀ : Heap) (L : Addr) (m : Str → Option Value) (news : List (Addr × Obj)) (s : Shared) (nm : Str) (vv : Tok → Value) (s' : Shared) : Prop :=
  ∃ h tk tok, s' = { s with heap := h, toks := tk } ∧ Fr h₀ L h (fun z => if z = nm then some (vv tok) else m z) ∧ News h₀ L h news
def Meet (J : Shared → Prop) (f : Flow) (s : Shared) : Prop := f = .next ∧ J s
theorem cut_next {M : Model} {A : Around} {t : Sem Flow} {Q : Flow → Shared → Prop} {E : Value → Shared → Prop} {s : Shared} (J : Shared → Prop)
    (h1 : wpAny M A t (Meet J) E s) (h2 : ∀ s', J s' → Q .next s') : wpAny M A t Q E s :=
  wpAny_mono h1 (fun f s' h => by obtain ⟨rfl, hj⟩ := h; exact h2 s' hj) fun _ _ h => h
/-- a statement that leaves one name with one value, whichever way it goes -/
theorem cut_name {M : Model} {A : Around} {t : Sem Flow} {Q : Flow → Shared → Prop} {E : Value → Shared → Prop} {s : Shared} {h₀ : Heap} {L : Addr} {m : Str → Option Value} {news : List (Addr × Obj)}
    (nm : Str) (vv : Tok → Value) (F : Fr h₀ L s.heap m) (N : News h₀ L s.heap news)
    (h1 : Fr h₀ L s.heap m → News h₀ L s.heap news → wpAny M A t (Meet (JV h₀ L m news s nm vv)) E s)
    (h2 : ∀ h tk tok, Fr h₀ L h (fun z => if z = nm then some (vv tok) else m z) → News h₀ L h news → Q .next { s with heap := h, toks := tk }) : wpAny M A t Q E s :=
  cut_next _ (h1 F N) (fun s' hj => by obtain ⟨h, tk, tok, rfl, F, N⟩ := hj; exact h2 h tk tok F N)
theorem meet_name {h₀ : Heap} {L : Addr} {m m' : Str → Option Value} {news news' : List (Addr × Obj)} {s : Shared} {nm : Str} {vv : Tok → Value} {h' : Heap} {tk : Nat} {v : Value}
    (F : Fr h₀ L h' m') (N : News h₀ L h' news') (hs : ∀ p ∈ news, p ∈ news') (hv : m' nm = some v) (e : ∃ t, v = vv t) (hr : ∀ z, z ≠ nm → m' z = m z) :
    Meet (JV h₀ L m news s nm vv) .next { s with heap := h', toks := tk } := by
  obtain ⟨t, e⟩ := e
  refine ⟨rfl, h', tk, t, rfl, ?_, fun p hp => N p (hs p hp)⟩
  have em : (fun z => if z = nm then some (vv t) else m z) = m' := by
    funext z
    by_cases hz : z = nm
    · rw [if_pos hz, hz, hv, e]
    · rw [if_neg hz, hr z hz]
  rw [em]; exact F

def CntEnd (h₀ : Heap) (L : Addr) (m : Str → Option Value) (news : List (Addr × Obj)) (s : Shared) (nm : Str) (f : Nat → Int) (v c : Nat) (fl : Flow) (s' : Shared) : Prop :=
  fl = .next ∧ c + 1 ≤ v ∧ JV h₀ L m news s nm (fun t => .int (f (c + 1)) t) s'
def CntStop (h₀ : Heap) (L : Addr) (m : Str → Option Value) (news : List (Addr × Obj)) (s : Shared) (nm : Str) (f : Nat → Int) (v c : Nat) (s' : Shared) : Prop :=
  c = v ∧ JV h₀ L m news s nm (fun t => .int (f c) t) s'
theorem cntEnd_of {h₀ : Heap} {L : Addr} {m m' : Str → Option Value} {news : List (Addr × Obj)} {s : Shared} {nm : Str} {f : Nat → Int} {v c : Nat} {h' : Heap} {tk : Nat} {v' : Int} {t : Tok}
    (F : Fr h₀ L h' m') (N : News h₀ L h' news) (hv : m' nm = some (.int v' t)) (e : v' = f (c + 1)) (hr : ∀ z, z ≠ nm → m' z = m z) (hp : c + 1 ≤ v) :
    CntEnd h₀ L m news s nm f v c .next { s with heap := h', toks := tk } := by
  refine ⟨rfl, hp, ?_⟩
  exact (meet_name F N (fun _ h => h) hv ⟨t, by rw [e]⟩ hr).2
theorem cntStop_of {h₀ : Heap} {L : Addr} {m m' : Str → Option Value} {news : List (Addr × Obj)} {s : Shared} {nm : Str} {f : Nat → Int} {v c : Nat} {h' : Heap} {tk : Nat} {v' : Int} {t : Tok}
    (F : Fr h₀ L h' m') (N : News h₀ L h' news) (hv : m' nm = some (.int v' t)) (e : v' = f c) (hr : ∀ z, z ≠ nm → m' z = m z) (hp : c = v) :
    CntStop h₀ L m news s nm f v c { s with heap := h', toks := tk } := by
  refine ⟨hp, ?_⟩
  exact (meet_name F N (fun _ h => h) hv ⟨t, by rw [e]⟩ hr).2
theorem while_cnt {prog : Program} {w : World} {A : Around} {E : Value → Shared → Prop} {s : Shared} {env : Env} {h₀ : Heap} {L : Addr} {m₀ : Str → Option Value} {news : List (Addr × Obj)} {test : PySem.Expr} {body : List Stmt} {pos : Pos} {Q : Flow → Shared → Prop}
    {t₀ : Tok} {v₀ : Int} (nm : Str) (f : Nat → Int) (v : Nat)
    (F : Fr h₀ L s.heap m₀) (N : News h₀ L s.heap news) (hk : m₀ nm = some (.int v₀ t₀)) (h0 : v₀ = f 0)
    (turn : ∀ (c : Nat) (t : Tok) h tk, c ≤ v → Fr h₀ L h (fun z => if z = nm then some (.int (f c) t) else m₀ z) → News h₀ L h news →
      wpAny (model prog w) A (isTrue test env (eval test env)) (fun b s₂ =>
        if b = true then wpAny (model prog w) A (execs body env) (CntEnd h₀ L m₀ news s nm f v c) E s₂ else CntStop h₀ L m₀ news s nm f v c s₂) E { s with heap := h, toks := tk })
    (done : ∀ h tk tok, Fr h₀ L h (fun z => if z = nm then some (.int (f v) tok) else m₀ z) → News h₀ L h news → Q .next { s with heap := h, toks := tk })
    (hE : PassesOwn (model prog w) A env E) :
    wpAny (model prog w) A (exec (.While test body [] pos) env) Q E s := by
  refine While_inv2 (fun n m nx => n ≤ v ∧ nx = news ∧ ∃ t, m = fun z => if z = nm then some (.int (f (v - n)) t) else m₀ z) (n₀ := v) F N ⟨Nat.le_refl _, rfl, t₀, ?_⟩ ?_ hE
  · funext z
    by_cases hz : z = nm
    · rw [if_pos hz, hz, hk, h0, Nat.sub_self]
    · rw [if_neg hz]
  · rintro n m₁ nx h tk F₁ N₁ ⟨hn, rfl, t, rfl⟩
    refine wpAny_mono (turn (v - n) t h tk (Nat.sub_le _ _) F₁ N₁) (fun b s₂ p => ?_) fun _ _ x => x
    cases b with
    | false =>
      simp only [Bool.false_eq_true, if_false] at p ⊢
      obtain ⟨hc, h', tk', tok, rfl, F', N'⟩ := p
      rw [hc] at F'
      exact done h' tk' tok F' N'
    | true =>
      simp only [if_true] at p ⊢
      refine wpAny_mono p (fun fl s₃ q => ?_) fun _ _ x => x
      obtain ⟨rfl, hc, h', tk', tok, rfl, F', N'⟩ := q
      refine ⟨h', tk', _, nx, n - 1, rfl, F', N', by omega, by omega, rfl, tok, ?_⟩
      have : v - n + 1 = v - (n - 1) := by omega
      rw [this]
theorem while_cnt2 {prog : Program} {w : World} {A : Around} {E : Value → Shared → Prop} {s : Shared} {env : Env} {h₀ : Heap} {L : Addr} {m₀ : Str → Option Value} {news : List (Addr × Obj)} {test : PySem.Expr} {body : List Stmt} {pos : Pos} {Q : Flow → Shared → Prop}
    {t₀ : Tok} {v₀ : Int} (nm : Str) (f : Nat → Int) (v : Nat)
    (F : Fr h₀ L s.heap m₀) (N : News h₀ L s.heap news) (hk : m₀ nm = some (.int v₀ t₀)) (h0 : v₀ = f 0) (hz : f 0 = 0)
    (turn0 : ∀ (t : Tok) h tk, 0 ≤ v → Fr h₀ L h (fun z => if z = nm then some (.int 0 t) else m₀ z) → News h₀ L h news →
      wpAny (model prog w) A (isTrue test env (eval test env)) (fun b s₂ =>
        if b = true then wpAny (model prog w) A (execs body env) (CntEnd h₀ L m₀ news s nm f v 0) E s₂ else CntStop h₀ L m₀ news s nm f v 0 s₂) E { s with heap := h, toks := tk })
    (turn : ∀ (c : Nat) (t : Tok) h tk, c ≠ 0 → c ≤ v → Fr h₀ L h (fun z => if z = nm then some (.int (f c) t) else m₀ z) → News h₀ L h news →
      wpAny (model prog w) A (isTrue test env (eval test env)) (fun b s₂ =>
        if b = true then wpAny (model prog w) A (execs body env) (CntEnd h₀ L m₀ news s nm f v c) E s₂ else CntStop h₀ L m₀ news s nm f v c s₂) E { s with heap := h, toks := tk })
    (done : ∀ h tk tok, Fr h₀ L h (fun z => if z = nm then some (.int (f v) tok) else m₀ z) → News h₀ L h news → Q .next { s with heap := h, toks := tk })
    (hE : PassesOwn (model prog w) A env E) :
    wpAny (model prog w) A (exec (.While test body [] pos) env) Q E s := by
  refine while_cnt nm f v F N hk h0 ?_ done hE
  intro c t h tk hc F' N'
  by_cases h : c = 0
  · subst h
    rw [hz] at F'
    exact turn0 t _ tk hc F' N'
  · exact turn c t _ tk h hc F' N'
end Mine

end
section
open PySem PySem.W PyProof.Rows
set_option Elab.async false
set_option maxRecDepth 100000
namespace Mine
def subC (x y : Str) : Int := if x = y then 0 else if Txt.lower x = Txt.lower y then 1 else 2
abbrev Cell := Int × Int × Int × List Int
def cellStep (b a : Str) (bi : Nat) (c : Cell) (i : Nat) : Cell :=
  let sub := c.1 + subC (Txt.item b (bi : Int)) (Txt.item a (i : Int))
  let d' := c.2.2.2.getD i 0
  let ins := (if d' < c.2.1 then d' else c.2.1) + 2
  let r' := if sub < ins then sub else ins
  (d', r', if r' < c.2.2.1 then r' else c.2.2.1, c.2.2.2.set i r')
def rowAt (b a : Str) (bi : Nat) (row : List Int) : Nat → Cell
  | 0 => ((bi : Int) * 2, (bi : Int) * 2, 9223372036854775807, row)
  | i + 1 => cellStep b a bi (rowAt b a bi row i) i
def row0 (n : Nat) : List Int := (List.range n).map fun i : Nat => 2 * ((i : Int) + 1)
def outAt (b a : Str) : Nat → List Int × Int
  | 0 => (row0 a.length, 0)
  | j + 1 => let c := rowAt b a j (outAt b a j).1 a.length; (c.2.2.2, c.2.1)
def minAt (b a : Str) (j : Nat) : Int := (rowAt b a j (outAt b a j).1 a.length).2.2.1
def dp (a b : Str) (k : Int) : Int := if (List.range b.length).any (fun j => decide (k < minAt b a j)) then k + 1 else (outAt b a b.length).2
def lev3 (a b : Str) (k : Int) : Int := if k < ((b.length : Int) - a.length) * 2 then k + 1 else dp a b k
def lev2 (a b : Str) (k : Int) : Int :=
  if a.length = 0 ∨ b.length = 0 then 2 * ((a.length : Int) + b.length)
  else if 40 < a.length ∨ 40 < b.length then k + 1
  else lev3 (if b.length < a.length then b else a) (if b.length < a.length then a else b) k
def lev1 (a b : Str) (k : Int) : Int := lev2 (endS a (csl a b)) (endS b (csl a b)) k
def lev (x y : Str) (k : Int) : Int := if x = y then 0 else lev1 (dropS x (cpl x y)) (dropS y (cpl x y)) k

section
variable {prog : Program} {w : World} {A : Around} {E : Value → Shared → Prop} {s : Shared} {env : Env} {h₀ : Heap} {L : Addr} {m₀ : Str → Option Value} {news : List (Addr × Obj)} {test : PySem.Expr} {body : List Stmt} {pos : Pos} {Q : Flow → Shared → Prop}
    {t₀ tx ty : Tok} {v₀ : Int} {x y : Str}
theorem while_pre 
    (F : Fr h₀ L s.heap m₀) (N : News h₀ L s.heap news) (hk : m₀ (Str.ofString "pre") = some (.int v₀ t₀)) (h0 : v₀ = 0) (_ha : m₀ (Str.ofString "a") = some (.str x tx)) (_hb : m₀ (Str.ofString "b") = some (.str y ty))
    (turn : ∀ (c : Nat) (t : Tok) h tk, c ≤ cpl x y → cpl x y ≤ x.length → cpl x y ≤ y.length → Fr h₀ L h (fun z => if z = Str.ofString "pre" then some (.int (c : Int) t) else m₀ z) → News h₀ L h news →
      wpAny (model prog w) A (isTrue test env (eval test env)) (fun b s₂ =>
        if b = true then wpAny (model prog w) A (execs body env) (CntEnd h₀ L m₀ news s (Str.ofString "pre") (fun n => (n : Int)) (cpl x y) c) E s₂ else CntStop h₀ L m₀ news s (Str.ofString "pre") (fun n => (n : Int)) (cpl x y) c s₂) E { s with heap := h, toks := tk })
    (done : ∀ (c : Nat) h tk tok, c = cpl x y → c ≤ x.length → c ≤ y.length → Fr h₀ L h (fun z => if z = Str.ofString "pre" then some (.int (c : Int) tok) else m₀ z) → News h₀ L h news → Q .next { s with heap := h, toks := tk })
    (hE : PassesOwn (model prog w) A env E) :
    wpAny (model prog w) A (exec (.While test body [] pos) env) Q E s :=
  while_cnt (Str.ofString "pre") (fun n => (n : Int)) (cpl x y) F N hk h0 (fun c t h tk hc => turn c t h tk hc (cpl_left x y) (cpl_right x y)) (fun h tk tok => done _ h tk tok rfl (cpl_left x y) (cpl_right x y)) hE
theorem while_post 
    (F : Fr h₀ L s.heap m₀) (N : News h₀ L s.heap news) (hk : m₀ (Str.ofString "post") = some (.int v₀ t₀)) (h0 : v₀ = 0) (_ha : m₀ (Str.ofString "a") = some (.str x tx)) (_hb : m₀ (Str.ofString "b") = some (.str y ty))
    (turn0 : ∀ (t : Tok) h tk, csl x y ≤ x.length → csl x y ≤ y.length → Fr h₀ L h (fun z => if z = Str.ofString "post" then some (.int 0 t) else m₀ z) → News h₀ L h news →
      wpAny (model prog w) A (isTrue test env (eval test env)) (fun b s₂ =>
        if b = true then wpAny (model prog w) A (execs body env) (CntEnd h₀ L m₀ news s (Str.ofString "post") (fun n => -(n : Int)) (csl x y) 0) E s₂ else CntStop h₀ L m₀ news s (Str.ofString "post") (fun n => -(n : Int)) (csl x y) 0 s₂) E { s with heap := h, toks := tk })
    (turn : ∀ (c : Nat) (t : Tok) h tk, -(c : Int) ≠ 0 → c ≤ csl x y → csl x y ≤ x.length → csl x y ≤ y.length → (Txt.slice x none (some (-(c : Int)))).length = x.length - c → (Txt.slice y none (some (-(c : Int)))).length = y.length - c → Fr h₀ L h (fun z => if z = Str.ofString "post" then some (.int (-(c : Int)) t) else m₀ z) → News h₀ L h news →
      wpAny (model prog w) A (isTrue test env (eval test env)) (fun b s₂ =>
        if b = true then wpAny (model prog w) A (execs body env) (CntEnd h₀ L m₀ news s (Str.ofString "post") (fun n => -(n : Int)) (csl x y) c) E s₂ else CntStop h₀ L m₀ news s (Str.ofString "post") (fun n => -(n : Int)) (csl x y) c s₂) E { s with heap := h, toks := tk })
    (done : ∀ (c : Nat) h tk tok, c = csl x y → c ≤ x.length → c ≤ y.length → Fr h₀ L h (fun z => if z = Str.ofString "post" then some (.int (-(c : Int)) tok) else m₀ z) → News h₀ L h news → Q .next { s with heap := h, toks := tk })
    (hE : PassesOwn (model prog w) A env E) :
    wpAny (model prog w) A (exec (.While test body [] pos) env) Q E s :=
  while_cnt2 (Str.ofString "post") (fun n => -(n : Int)) (csl x y) F N hk h0 rfl (fun t h tk _ => turn0 t h tk (csl_left x y) (csl_right x y))
    (fun c t h tk h1 hc => turn c t h tk (by omega) hc (csl_left x y) (csl_right x y) (by rw [slice_end x c h1 (Nat.le_trans hc (csl_left x y)), len_endS]) (by rw [slice_end y c h1 (Nat.le_trans hc (csl_right x y)), len_endS]))
    (fun h tk tok => done _ h tk tok rfl (csl_left x y) (csl_right x y)) hE

theorem cut_pre {st : Stmt} {c : Nat} {tp : Tok} (nm : Str) (F : Fr h₀ L s.heap m₀) (N : News h₀ L s.heap news) (_ha : m₀ nm = some (.str x tx)) (_hp : m₀ (Str.ofString "pre") = some (.int (c : Int) tp)) (hc : c ≤ x.length)
    (h1 : Fr h₀ L s.heap m₀ → News h₀ L s.heap news → wpAny (model prog w) A (exec st env) (Meet (JV h₀ L m₀ news s nm (fun t => .str (dropS x c) t))) E s)
    (h2 : ∀ (Y : Str) h tk tok, Y = dropS x c → Y.length = x.length - c → Fr h₀ L h (fun z => if z = nm then some (.str Y tok) else m₀ z) → News h₀ L h news → Q .next { s with heap := h, toks := tk }) :
    wpAny (model prog w) A (exec st env) Q E s := cut_name nm _ F N h1 (fun h tk tok => h2 _ h tk tok rfl (len_dropS x c))
theorem cut_post {st : Stmt} {c : Nat} {tp : Tok} (nm : Str) (F : Fr h₀ L s.heap m₀) (N : News h₀ L s.heap news) (_ha : m₀ nm = some (.str x tx)) (_hp : m₀ (Str.ofString "post") = some (.int (-(c : Int)) tp)) (hc : c ≤ x.length)
    (h1 : Fr h₀ L s.heap m₀ → News h₀ L s.heap news → wpAny (model prog w) A (exec st env) (Meet (JV h₀ L m₀ news s nm (fun t => .str (endS x c) t))) E s)
    (h2 : ∀ (Y : Str) h tk tok, Y = endS x c → Y.length = x.length - c → Fr h₀ L h (fun z => if z = nm then some (.str Y tok) else m₀ z) → News h₀ L h news → Q .next { s with heap := h, toks := tk }) :
    wpAny (model prog w) A (exec st env) Q E s := cut_name nm _ F N h1 (fun h tk tok => h2 _ h tk tok rfl (len_endS x c))
theorem str_pre {c : Nat} {t : Tok} (h : c ≤ x.length) : Value.str (Txt.slice x (some (c : Int)) none) t = .str (dropS x c) t := by rw [slice_from x c h]
theorem str_post0 {c : Nat} {t : Tok} (h : -(c : Int) = 0) : Value.str x t = .str (endS x c) t := by
  rw [show c = 0 by omega, endS_zero]
theorem str_post {c : Nat} {t : Tok} (h0 : -(c : Int) ≠ 0) (h : c ≤ x.length) : Value.str (Txt.slice x none (some (-(c : Int)))) t = .str (endS x c) t := by
  rw [slice_end x c (by omega) h]

theorem slice_all_str {value slice : PySem.Expr} {x : Str} {t : Tok} {Q : Value → Shared → Prop} (hF : Fr h₀ L s.heap m₀) (hN : News h₀ L s.heap news) (h : ∀ h' t' k, Fr h₀ L h' m₀ → News h₀ L h' news → Q (.str x t') { s with heap := h', toks := k })
    (hs : subscripted slice false (.str x t) (.ref s.heap.objs.size) = operate [.ref s.heap.objs.size, .str x t] (getItem (.str x t) (.ref s.heap.objs.size)) := by with_unfolding_all rfl)
    (ht : ∀ r, letTemporaryGo value (.str x t) r = pure () := by intro _; with_unfolding_all rfl) (hsz : x.length ≤ sizeLine := by size_fits) :
    wpAny (model prog w) A (subscriptTail value slice (.str x t) (.ref s.heap.objs.size)) Q E { s with heap := s.heap.push { cls := .type "slice", data := .fields #[.none, .none, .none] } } :=
  slice_strN_nn hF hN (fun h' t' k a b => by rw [slice_all]; exact h h' t' k a b) hs ht hsz
/-- the swap -/
def JSw (h₀ : Heap) (L : Addr) (m : Str → Option Value) (news : List (Addr × Obj)) (s : Shared) (a b : Str) (s' : Shared) : Prop :=
  ∃ h tk ta tb, s' = { s with heap := h, toks := tk } ∧ Fr h₀ L h (fun z => if z = Str.ofString "b" then some (.str b tb) else if z = Str.ofString "a" then some (.str a ta) else m z) ∧ News h₀ L h news
theorem meet_swap {m m' : Str → Option Value} {news' : List (Addr × Obj)} {a b : Str} {ta tb : Tok} {h' : Heap} {tk : Nat}
    (F : Fr h₀ L h' m') (N : News h₀ L h' news') (hs : ∀ p ∈ news, p ∈ news') (ha : m' (Str.ofString "a") = some (.str a ta)) (hb : m' (Str.ofString "b") = some (.str b tb)) (hr : ∀ z, z ≠ Str.ofString "b" → z ≠ Str.ofString "a" → m' z = m z) :
    Meet (JSw h₀ L m news s a b) .next { s with heap := h', toks := tk } := by
  refine ⟨rfl, h', tk, ta, tb, rfl, ?_, fun p hp => N p (hs p hp)⟩
  have em : (fun z => if z = Str.ofString "b" then some (Value.str b tb) else if z = Str.ofString "a" then some (.str a ta) else m z) = m' := by
    funext z
    by_cases hz : z = Str.ofString "b"
    · rw [if_pos hz, hz, hb]
    · rw [if_neg hz]
      by_cases hy : z = Str.ofString "a"
      · rw [if_pos hy, hy, ha]
      · rw [if_neg hy, hr z hz hy]
  rw [em]; exact F
theorem meet_swapY {m m' : Str → Option Value} {news' : List (Addr × Obj)} {a b : Str} {ta tb : Tok} {h' : Heap} {tk : Nat}
    (F : Fr h₀ L h' m') (N : News h₀ L h' news') (hs : ∀ p ∈ news, p ∈ news') (hl : (b.length : Int) < a.length) (ha : m' (Str.ofString "a") = some (.str b ta)) (hb : m' (Str.ofString "b") = some (.str a tb)) (hr : ∀ z, z ≠ Str.ofString "b" → z ≠ Str.ofString "a" → m' z = m z) :
    Meet (JSw h₀ L m news s (if b.length < a.length then b else a) (if b.length < a.length then a else b)) .next { s with heap := h', toks := tk } := by
  have hl' : b.length < a.length := by omega
  rw [if_pos hl', if_pos hl']
  exact meet_swap F N hs ha hb hr
theorem meet_swapN {m : Str → Option Value} {a b : Str} {ta tb : Tok} {h' : Heap} {tk : Nat}
    (F : Fr h₀ L h' m) (N : News h₀ L h' news) (hl : ¬ (b.length : Int) < a.length) (ha : m (Str.ofString "a") = some (.str a ta)) (hb : m (Str.ofString "b") = some (.str b tb)) :
    Meet (JSw h₀ L m news s (if b.length < a.length then b else a) (if b.length < a.length then a else b)) .next { s with heap := h', toks := tk } := by
  have hl' : ¬ b.length < a.length := by omega
  rw [if_neg hl', if_neg hl']
  exact meet_swap F N (fun _ h => h) ha hb (fun _ _ _ => rfl)
theorem cut_swap {st : Stmt} (F : Fr h₀ L s.heap m₀) (N : News h₀ L s.heap news) (_ha : m₀ (Str.ofString "a") = some (.str x tx)) (_hb : m₀ (Str.ofString "b") = some (.str y ty))
    (h1 : Fr h₀ L s.heap m₀ → News h₀ L s.heap news → wpAny (model prog w) A (exec st env) (Meet (JSw h₀ L m₀ news s (if y.length < x.length then y else x) (if y.length < x.length then x else y))) E s)
    (h2 : ∀ (X Y : Str) h tk ta tb, X = (if y.length < x.length then y else x) → Y = (if y.length < x.length then x else y) → X.length ≤ Y.length → (X.length = x.length ∧ Y.length = y.length ∨ X.length = y.length ∧ Y.length = x.length) →
      Fr h₀ L h (fun z => if z = Str.ofString "b" then some (.str Y tb) else if z = Str.ofString "a" then some (.str X ta) else m₀ z) → News h₀ L h news → Q .next { s with heap := h, toks := tk }) :
    wpAny (model prog w) A (exec st env) Q E s := by
  refine cut_next _ (h1 F N) (fun s' hj => ?_)
  obtain ⟨h, tk, ta, tb, rfl, F', N'⟩ := hj
  refine h2 _ _ h tk ta tb rfl rfl ?_ ?_ F' N'
  · split <;> omega
  · split <;> simp
end
theorem lev_same {x y : Str} {k : Int} (h : (x == y) = true) : (0 : Int) = lev x y k := by
  unfold lev; rw [if_pos (beq_iff_eq.mp h)]
theorem lev_from {x y a b A' B' : Str} {k : Int} {c d : Nat} (h : (x == y) = false) (h1 : c = cpl x y) (h2 : a = dropS x c) (h3 : b = dropS y c) (h4 : d = csl a b) (h5 : A' = endS a d) (h6 : B' = endS b d) : lev x y k = lev2 A' B' k := by
  subst h1 h2 h3 h4 h5 h6
  unfold lev lev1
  rw [if_neg (beq_eq_false_iff_ne.mp h)]
theorem lev2_empty {A' B' : Str} {k : Int} (h : ((A'.length : Nat) : Int) = 0 ∨ ((B'.length : Nat) : Int) = 0) : 2 * ((A'.length : Int) + B'.length) = lev2 A' B' k := by
  unfold lev2
  rw [if_pos (by omega)]
theorem lev2_full {A' B' X Y : Str} {k : Int} (h1 : ((A'.length : Nat) : Int) ≠ 0) (h2 : ((B'.length : Nat) : Int) ≠ 0) (h3 : A'.length ≤ 40) (h4 : B'.length ≤ 40)
    (hX : X = (if B'.length < A'.length then B' else A')) (hY : Y = (if B'.length < A'.length then A' else B')) : lev2 A' B' k = lev3 X Y k := by
  subst hX hY
  unfold lev2
  rw [if_neg (by omega), if_neg (by omega)]
theorem lev3_far {X Y : Str} {k : Int} (h : k < ((Y.length : Int) - X.length) * 2) : k + 1 = lev3 X Y k := by
  unfold lev3; rw [if_pos h]
theorem lev3_cut {X Y : Str} {k : Int} {j : Nat} (h : ¬ k < ((Y.length : Int) - X.length) * 2) (hj : j < Y.length) (hm : k < minAt Y X j) : k + 1 = lev3 X Y k := by
  unfold lev3 dp
  rw [if_neg h, if_pos]
  rw [List.any_eq_true]
  exact ⟨j, List.mem_range.mpr hj, decide_eq_true hm⟩
theorem lev3_end {X Y : Str} {k r : Int} {row : List Int} (h : ¬ k < ((Y.length : Int) - X.length) * 2) (ho : outAt Y X Y.length = (row, r)) (hm : ∀ j < Y.length, ¬ k < minAt Y X j) : r = lev3 X Y k := by
  unfold lev3 dp
  rw [if_neg h, if_neg, ho]
  rw [List.any_eq_true]
  rintro ⟨j, hj, e⟩
  exact hm j (List.mem_range.mp hj) (of_decide_eq_true e)
theorem min_is {X Y : Str} {j : Nat} {row row' : List Int} {d r r' mn : Int} (h : outAt Y X j = (row, r)) (h2 : rowAt Y X j row X.length = (d, r', mn, row')) : minAt Y X j = mn := by
  unfold minAt; rw [h, h2]
theorem out_is {X Y : Str} {j : Nat} {row row' : List Int} {d r r' mn : Int} (h : outAt Y X j = (row, r)) (h2 : rowAt Y X j row X.length = (d, r', mn, row')) : outAt Y X (j + 1) = (row', r') := by
  unfold outAt; rw [h]; simp only [h2]
theorem row_is {X Y : Str} {j i : Nat} {R row : List Int} {d r mn : Int} (h : rowAt Y X j R i = (d, r, mn, row)) : rowAt Y X j R (i + 1) = cellStep Y X j (d, r, mn, row) i := by
  rw [rowAt, h]
def Stop (p : Prop) : Prop := p
theorem Stop.out {p : Prop} (h : Stop p) : p := h
end Mine

end
section
open PySem PySem.W PyProof.Rows
set_option Elab.async false
set_option maxRecDepth 100000
set_option maxHeartbeats 1000000
namespace Mine
theorem contains_if {z a : Str} {r : List Str} {p q : Option Value} : (if (a :: r).contains z = true then p else q) = if z = a then p else if r.contains z = true then p else q := by
  rw [List.contains_cons]
  by_cases h : z = a
  · rw [if_pos h, if_pos (by simp [h])]
  · rw [if_neg h]
    have : (z == a) = false := beq_eq_false_iff_ne.mpr h
    rw [this, Bool.false_or]
theorem contains_nil_if {z : Str} {p q : Option Value} : (if ([] : List Str).contains z = true then p else q) = q := by simp
section
variable {prog : Program} {w : World} {A : Around} {E : Value → Shared → Prop} {s : Shared} {env : Env} {h₀ : Heap} {L D r : Addr} {m₀ : Str → Option Value} {news : List (Addr × Obj)} {body : List Stmt} {Q : Flow → Shared → Prop}
    {a1 a2 a3 : Tok} {X Y : Str}
theorem row_list {Q : Value → Shared → Prop} {t u v : Tok} (hh : A.handled = none) (F : Fr h₀ L s.heap m₀) (N : News h₀ L s.heap news) (hr : IsRange s.heap r 2 (2 * ((X.length : Int) + 1)) 2 t u v) (hX : X.length ≤ 40)
    (h : ∀ D us c h' tk, Fr h₀ L h' m₀ → News h₀ L h' ((D, listOf (List.toArray us) c) :: news) → (∀ p ∈ news, p.1 ≠ D) → IntsAre us (row0 X.length) → Q (.ref D) { s with heap := h', toks := tk }) :
    wpAny (model prog w) A (call (.type "list") [.ref r]) Q E s := by
  have hn : Builtin.Range.rangeSize 2 (2 * ((X.length : Int) + 1)) 2 = (X.length : Int) := by
    unfold Builtin.Range.rangeSize
    rw [if_pos (by decide)]
    split <;> omega
  refine call_list_range hh hr (n := X.length) ?_ hn (by omega) fun h' tk acc c hk hD hI => ?_
  · unfold Builtin.Range.small
    rw [hn]
    have fits : ∀ i : Int, 0 ≤ i → i ≤ 1000 → Builtin.Range.rangeFitsLong i = true := fun i h0 h1 => by
      unfold Builtin.Range.rangeFitsLong
      rw [Bool.and_eq_true]
      exact ⟨decide_eq_true (by omega), decide_eq_true (by omega)⟩
    rw [fits 2 (by decide) (by decide), fits (2 * ((X.length : Int) + 1)) (by omega) (by omega), fits (X.length : Int) (by omega) (by omega), if_pos (by decide), fits (2 * ((X.length : Int) + 1) + (2 - 1)) (by omega) (by omega)]
    simp only [Bool.and_self, Bool.or_true]
  · have hD' : h'.get? s.heap.objs.size = some (listOf (List.toArray acc.toList) c) := by
      rw [Array.toArray_toList]
      exact hD
    refine h _ acc.toList c h' tk (F.keeps hk) (news_pushed F N hk hD' rfl) (fun p hp => Nat.ne_of_lt (Heap.lt_size (N p hp).1)) ?_
    have key : ∀ (vs : List Value) (a : Int) (n : Nat), vs.length = n → (∀ (j : Nat) (v : Value), vs[j]? = some v → ∃ t, v = .int (a + j * 2) t) → IntsAre vs ((List.range n).map fun i : Nat => a + i * 2) := by
      intro vs
      induction vs with
      | nil => intro a n e _; subst e; exact IntsAre.nil
      | cons v r ih =>
        intro a n e hj
        subst e
        rw [List.length_cons, List.range_succ_eq_map, List.map_cons, List.map_map]
        obtain ⟨t, ht⟩ := hj 0 v rfl
        have hv : v = .int (a + ((0 : Nat) : Int) * 2) t := ht
        subst hv
        refine IntsAre.cons _ _ ?_
        have := ih (a + 2) r.length rfl fun j v hj' => by
          obtain ⟨t', ht'⟩ := hj (j + 1) v hj'
          exact ⟨t', ht'.trans (by congr 1; omega)⟩
        have e2 : ((fun i : Nat => a + (i : Int) * 2) ∘ Nat.succ) = fun i : Nat => a + 2 + (i : Int) * 2 := by
          funext i; simp only [Function.comp]; omega
        rw [e2]; exact this
    have k2 := key acc.toList 2 X.length (by rw [Array.length_toList]; exact hI.1) fun j v hj => hI.2 j v (by rw [← hj, Array.getElem?_toList])
    have e3 : (List.range X.length).map (fun i : Nat => (2 : Int) + i * 2) = row0 X.length := by
      unfold row0
      apply List.map_congr_left
      intro i _
      omega
    rw [e3] at k2
    exact k2

/-- the outer loop's turn ended -/
def OutEnd (h₀ : Heap) (L : Addr) (m₀ : Str → Option Value) (news : List (Addr × Obj)) (D : Addr) (X Y : Str) (K : Int) (j : Nat) (own : List (Addr × Obj)) (s : Shared) (Q : Flow → Shared → Prop) (fl : Flow) (s' : Shared) : Prop :=
  (∃ v, fl = .ret v ∧ Q fl s') ∨ fl = .next ∧ ∃ us c r row tr h tk m' news', s' = { s with heap := h, toks := tk } ∧ Fr h₀ L h m' ∧ News h₀ L h news' ∧ (∀ p ∈ (D, listOf (List.toArray us) c) :: news, p ∈ news') ∧ (∀ p ∈ own, p ∈ news') ∧
    IntsAre us row ∧ outAt Y X (j + 1) = (row, r) ∧ row.length = X.length ∧ ¬ K < minAt Y X j ∧ m' (Str.ofString "result") = some (.int r tr) ∧
    (∀ z, z ≠ Str.ofString "bindex" → z ≠ Str.ofString "result" → z ≠ Str.ofString "bchar" → z ≠ Str.ofString "distance" → z ≠ Str.ofString "minimum" → z ≠ Str.ofString "index" → z ≠ Str.ofString "substitute" → z ≠ Str.ofString "insert_delete" → m' z = m₀ z)
/-- the inner loop's turn ended -/
def InEnd (h₀ : Heap) (L : Addr) (m₀ : Str → Option Value) (news : List (Addr × Obj)) (D : Addr) (X Y : Str) (j : Nat) (R : List Int) (i : Nat) (own : List (Addr × Obj)) (s : Shared) (fl : Flow) (s' : Shared) : Prop :=
  fl = .next ∧ ∃ us c d r mn row td tr tm h tk m' news', s' = { s with heap := h, toks := tk } ∧ Fr h₀ L h m' ∧ News h₀ L h news' ∧ (∀ p ∈ (D, listOf (List.toArray us) c) :: news, p ∈ news') ∧ (∀ p ∈ own, p ∈ news') ∧
    IntsAre us row ∧ rowAt Y X j R (i + 1) = (d, r, mn, row) ∧ row.length = X.length ∧ m' (Str.ofString "distance") = some (.int d td) ∧ m' (Str.ofString "result") = some (.int r tr) ∧ m' (Str.ofString "minimum") = some (.int mn tm) ∧
    (∀ z, z ≠ Str.ofString "index" → z ≠ Str.ofString "distance" → z ≠ Str.ofString "result" → z ≠ Str.ofString "minimum" → z ≠ Str.ofString "substitute" → z ≠ Str.ofString "insert_delete" → m' z = m₀ z)
theorem sub_grow {p q : Addr × Obj} {l k : List (Addr × Obj)} (hp : p ∈ q :: l) : p ∈ q :: (l ++ k) := by
  rcases List.mem_cons.mp hp with rfl | h
  · exact .head _
  · exact .tail _ (List.mem_append.mpr (.inl h))
theorem sub_own {p q : Addr × Obj} {l k : List (Addr × Obj)} (hp : p ∈ k) : p ∈ q :: (l ++ k) := .tail _ (List.mem_append.mpr (.inr hp))
theorem off_app {a b : List (Addr × Obj)} (ha : ∀ p ∈ a, p.1 ≠ D) (hb : ∀ p ∈ b, p.1 ≠ D) : ∀ p ∈ a ++ b, p.1 ≠ D := fun p hp => (List.mem_append.mp hp).elim (ha p) (hb p)
theorem off_own {own : List (Addr × Obj)} {l : List Addr} (h : OwnOff own (D :: l)) : ∀ p ∈ own, p.1 ≠ D := h.ne (.head _)
theorem row_set {Q : Unit → Shared → Prop} {rest : List (Addr × Obj)} {vs : List Value} {ns : List Int} {n i : Nat} {x : Int} {t u : Tok} (F : Fr h₀ L s.heap m₀) (N : News h₀ L s.heap ((D, listOf (List.toArray vs) n) :: rest)) (hoff : ∀ p ∈ rest, p.1 ≠ D) (hi : IntsAre vs ns) (h1 : i < ns.length) (hfit : i < 1000)
    (h : ∀ h', Fr h₀ L h' m₀ → News h₀ L h' ((D, listOf (List.toArray (vs.set i (.int x u))) n) :: rest) → IntsAre (vs.set i (.int x u)) (ns.set i x) → Q () { s with heap := h' }) :
    wpAny (model prog w) A (setItem (.ref D) (.int (i : Int) t) (.int x u)) Q E s := by
  refine ksa_set F N (k := (i : Int)) (Upd.head hoff) hi (by omega) (by omega) (by omega) fun h' F' N' hi' _ _ => ?_
  rw [Int.toNat_natCast] at N' hi'
  exact h h' F' N' hi'
theorem inEnd_of {X Y : Str} {j i : Nat} {R row : List Int} {own news' : List (Addr × Obj)} {d r mn d' r' mn' : Int} {us' : List Value} {c : Nat} {td tr tm : Tok} {m' : Str → Option Value} {h' : Heap} {tk : Nat}
    (F : Fr h₀ L h' m') (N : News h₀ L h' news') (hs : ∀ p ∈ (D, listOf (List.toArray us') c) :: news, p ∈ news') (ho : ∀ p ∈ own, p ∈ news') (hrow : rowAt Y X j R i = (d, r, mn, row)) (hl : row.length = X.length) (hi : IntsAre us' (row.set i r'))
    (e1 : m' (Str.ofString "distance") = some (.int d' td)) (e2 : m' (Str.ofString "result") = some (.int r' tr)) (e3 : m' (Str.ofString "minimum") = some (.int mn' tm))
    (hd : d' = row.getD i 0) (hr : r' = (if d + subC (Txt.item Y (j : Int)) (Txt.item X (i : Int)) < (if row.getD i 0 < r then row.getD i 0 else r) + 2 then d + subC (Txt.item Y (j : Int)) (Txt.item X (i : Int)) else (if row.getD i 0 < r then row.getD i 0 else r) + 2))
    (hm : mn' = if r' < mn then r' else mn)
    (hz : ∀ z, z ≠ Str.ofString "index" → z ≠ Str.ofString "distance" → z ≠ Str.ofString "result" → z ≠ Str.ofString "minimum" → z ≠ Str.ofString "substitute" → z ≠ Str.ofString "insert_delete" → m' z = m₀ z) :
    InEnd h₀ L m₀ news D X Y j R i own s .next { s with heap := h', toks := tk } := by
  refine ⟨rfl, us', c, d', r', mn', row.set i r', td, tr, tm, h', tk, m', news', rfl, F, N, hs, ho, hi, ?_, by rw [List.length_set, hl], e1, e2, e3, hz⟩
  rw [row_is hrow]
  simp only [cellStep]
  rw [← hr, ← hm, ← hd]
theorem outEnd_ret {X Y : Str} {K : Int} {j : Nat} {own : List (Addr × Obj)} {v : Value} {s' : Shared} (h : Q (.ret v) s') : OutEnd h₀ L m₀ news D X Y K j own s Q (.ret v) s' := .inl ⟨v, rfl, h⟩
theorem outEnd_of {X Y : Str} {K : Int} {j : Nat} {own news' : List (Addr × Obj)} {R row : List Int} {d r0 r mn : Int} {us : List Value} {c : Nat} {tr : Tok} {m' : Str → Option Value} {h' : Heap} {tk : Nat}
    (F : Fr h₀ L h' m') (N : News h₀ L h' news') (hs : ∀ p ∈ (D, listOf (List.toArray us) c) :: news, p ∈ news') (ho : ∀ p ∈ own, p ∈ news') (h0 : outAt Y X j = (R, r0)) (hrow : rowAt Y X j R X.length = (d, r, mn, row)) (hl : row.length = X.length) (hi : IntsAre us row)
    (hm : ¬ K < mn) (e2 : m' (Str.ofString "result") = some (.int r tr))
    (hz : ∀ z, z ≠ Str.ofString "bindex" → z ≠ Str.ofString "result" → z ≠ Str.ofString "bchar" → z ≠ Str.ofString "distance" → z ≠ Str.ofString "minimum" → z ≠ Str.ofString "index" → z ≠ Str.ofString "substitute" → z ≠ Str.ofString "insert_delete" → m' z = m₀ z) :
    OutEnd h₀ L m₀ news D X Y K j own s Q .next { s with heap := h', toks := tk } :=
  .inr ⟨rfl, us, c, r, row, tr, h', tk, m', news', rfl, F, N, hs, ho, hi, out_is h0 hrow, hl, by rw [min_is h0 hrow]; exact hm, e2, hz⟩
theorem inner_loop {tb : Tok} {j : Nat} {R : List Int} {us₀ : List Value} {c₀ : Nat} {d₀ r₀ : Int} {td₀ tr₀ tm₀ : Tok}
    (hL : env.locals = L) (hh : A.handled = none) (hr : IsRange s.heap r 0 (X.length : Int) 1 a1 a2 a3) (hX : X.length ≤ 40)
    (F : Fr h₀ L s.heap m₀) (N : News h₀ L s.heap ((D, listOf (List.toArray us₀) c₀) :: news)) (hi : IntsAre us₀ R) (hR : R.length = X.length)
    (hd : m₀ (Str.ofString "distance") = some (.int d₀ td₀)) (hd0 : d₀ = (j : Int) * 2) (hrs : m₀ (Str.ofString "result") = some (.int r₀ tr₀)) (hr0 : r₀ = (j : Int) * 2) (hmn : m₀ (Str.ofString "minimum") = some (.int 9223372036854775807 tm₀)) (_hb : m₀ (Str.ofString "bchar") = some (.str (Txt.item Y (j : Int)) tb))
    (turn : ∀ (us : List Value) (c : Nat) (d r mn : Int) (row : List Int) (td tr tm : Tok) (i : Nat) (t : Tok) (u : Str → Option Value) h tk own, i < X.length → rowAt Y X j R i = (d, r, mn, row) → row.length = X.length → IntsAre us row →
      OwnOff own (D :: news.map (·.1)) →
      Fr h₀ L h (fun y => if y = Str.ofString "index" then some (.int (i : Int) t) else if y = Str.ofString "distance" then some (.int d td) else if y = Str.ofString "result" then some (.int r tr) else if y = Str.ofString "minimum" then some (.int mn tm) else
        if y = Str.ofString "substitute" then u y else if y = Str.ofString "insert_delete" then u y else m₀ y) →
      News h₀ L h ((D, listOf (List.toArray us) c) :: (news ++ own)) →
      wpAny (model prog w) A (execs body env) (InEnd h₀ L m₀ news D X Y j R i own s) E { s with heap := h, toks := tk })
    (done : ∀ (us : List Value) (c : Nat) (d r mn : Int) (row : List Int) (td tr tm : Tok) (u : Str → Option Value) h tk, rowAt Y X j R X.length = (d, r, mn, row) → row.length = X.length → IntsAre us row →
      Fr h₀ L h (fun y => if y = Str.ofString "index" then u y else if y = Str.ofString "distance" then some (.int d td) else if y = Str.ofString "result" then some (.int r tr) else if y = Str.ofString "minimum" then some (.int mn tm) else
        if y = Str.ofString "substitute" then u y else if y = Str.ofString "insert_delete" then u y else m₀ y) →
      News h₀ L h ((D, listOf (List.toArray us) c) :: news) → Q .next { s with heap := h, toks := tk }) :
    wpAny (model prog w) A (pyIter (.ref r)) (fun it s₂ => LoopAtV prog w A h₀ env (Str.ofString "index") body Q E it s₂) E s := by
  subst hL
  subst hd0 hr0
  refine kst_range (σ := List Value × Nat × Int × Int × Int × List Int × Tok × Tok × Tok) (n := X.length)
    (fun c => (D, listOf (List.toArray c.1) c.2.1) :: news)
    (fun c => [(Str.ofString "distance", .int c.2.2.1 c.2.2.2.2.2.2.1), (Str.ofString "result", .int c.2.2.2.1 c.2.2.2.2.2.2.2.1), (Str.ofString "minimum", .int c.2.2.2.2.1 c.2.2.2.2.2.2.2.2)])
    (fun c => IntsAre c.1 c.2.2.2.2.2.1) [Str.ofString "substitute", Str.ofString "insert_delete"]
    (fun pre c => rowAt Y X j R pre.length = (c.2.2.1, c.2.2.2.1, c.2.2.2.2.1, c.2.2.2.2.2.1) ∧ c.2.2.2.2.2.1.length = X.length)
    (us₀, c₀, (j : Int) * 2, (j : Int) * 2, 9223372036854775807, R, td₀, tr₀, tm₀) hh hr (small_one (by omega) (by omega) (by omega) (by omega)) (by rw [rangeSize_nat]; omega) F N hi ?_ ⟨rfl, hR⟩ ?_ ?_
  · intro p hp
    simp only [List.mem_cons, List.not_mem_nil, or_false] at hp
    rcases hp with rfl | rfl | rfl
    · exact hd
    · exact hrs
    · exact hmn
  · rintro ⟨us, c, d, r', mn, row, td, tr, tm⟩ pre k t u h tk own hk hlt hoff hf ⟨hp, hlen⟩ F' N'
    simp only [Int.zero_add] at hk
    subst hk
    have em : (fun y => if y = Str.ofString "index" then some (Value.int (pre.length : Int) t) else kstB (fun z => if [Str.ofString "substitute", Str.ofString "insert_delete"].contains z = true then u z else m₀ z) [(Str.ofString "distance", .int d td), (Str.ofString "result", .int r' tr), (Str.ofString "minimum", .int mn tm)] y) =
        (fun y => if y = Str.ofString "index" then some (.int (pre.length : Int) t) else if y = Str.ofString "distance" then some (.int d td) else if y = Str.ofString "result" then some (.int r' tr) else if y = Str.ofString "minimum" then some (.int mn tm) else
        if y = Str.ofString "substitute" then u y else if y = Str.ofString "insert_delete" then u y else m₀ y) := by
      funext y
      simp only [kstB]
      rw [contains_if, contains_if, contains_nil_if]
    have F2 := em ▸ F'
    refine wpAny_mono (turn us c d r' mn row td tr tm pre.length t u h tk own hlt hp hlen hf hoff F2 N') (fun fl s₂ q => ?_) fun _ _ x => x
    obtain ⟨rfl, us, c, d, r, mn, row, td, tr, tm, h', tk', m', news', rfl, F3, N3, hs, ho, hi3, hrow, hlen3, e1, e2, e3, hz⟩ := q
    refine kst_end (us, c, d, r, mn, row, td, tr, tm) F3 N3 hs ho rfl hi3 ?_ ?_ ⟨by rw [List.length_append]; exact hrow, hlen3⟩
    · intro p hp
      simp only [List.mem_cons, List.not_mem_nil, or_false] at hp
      rcases hp with rfl | rfl | rfl
      · exact e1
      · exact e2
      · exact e3
    · intro z h1 h2 h3
      simp only [List.contains_cons, List.contains_nil, Bool.or_false, Bool.or_eq_false_iff, beq_eq_false_iff_ne, ne_eq] at h3
      exact hz z h1 (h2 _ (.head _)) (h2 _ (.tail _ (.head _))) (h2 _ (.tail _ (.tail _ (.head _)))) h3.1 h3.2
  · rintro ⟨us, c, d, r', mn, row, td, tr, tm⟩ u h tk hf ⟨hp, hlen⟩ F' N'
    rw [rangeKs_length] at hp
    have em : (fun y => if y = Str.ofString "index" then u y else kstB (fun z => if [Str.ofString "substitute", Str.ofString "insert_delete"].contains z = true then u z else m₀ z) [(Str.ofString "distance", .int d td), (Str.ofString "result", .int r' tr), (Str.ofString "minimum", .int mn tm)] y) =
        (fun y => if y = Str.ofString "index" then u y else if y = Str.ofString "distance" then some (.int d td) else if y = Str.ofString "result" then some (.int r' tr) else if y = Str.ofString "minimum" then some (.int mn tm) else
        if y = Str.ofString "substitute" then u y else if y = Str.ofString "insert_delete" then u y else m₀ y) := by
      funext y
      simp only [kstB]
      rw [contains_if, contains_if, contains_nil_if]
    exact done us c d r' mn row td tr tm u h tk hp hlen hf (em ▸ F') N'

theorem outer_loop {tK tX : Tok} {K : Int} {us₀ : List Value} {c₀ : Nat} {r₀ : Int} {tr₀ : Tok}
    (hL : env.locals = L) (hh : A.handled = none) (hr : IsRange s.heap r 0 (Y.length : Int) 1 a1 a2 a3) (hY : Y.length ≤ 40)
    (F : Fr h₀ L s.heap m₀) (N : News h₀ L s.heap ((D, listOf (List.toArray us₀) c₀) :: news)) (hi : IntsAre us₀ (row0 X.length))
    (hrs : m₀ (Str.ofString "result") = some (.int r₀ tr₀)) (hr0 : r₀ = 0) (_hk : m₀ (Str.ofString "max_cost") = some (.int K tK)) (_ha : m₀ (Str.ofString "a") = some (.str X tX))
    (turn : ∀ (us : List Value) (c : Nat) (r : Int) (row : List Int) (tr : Tok) (j : Nat) (t : Tok) (u : Str → Option Value) h tk own, j < Y.length → outAt Y X j = (row, r) → row.length = X.length → (∀ i < j, ¬ K < minAt Y X i) → IntsAre us row →
      OwnOff own (D :: news.map (·.1)) →
      Fr h₀ L h (fun y => if y = Str.ofString "bindex" then some (.int (j : Int) t) else if y = Str.ofString "result" then some (.int r tr) else
        if y = Str.ofString "bchar" then u y else if y = Str.ofString "distance" then u y else if y = Str.ofString "minimum" then u y else if y = Str.ofString "index" then u y else if y = Str.ofString "substitute" then u y else if y = Str.ofString "insert_delete" then u y else m₀ y) →
      News h₀ L h ((D, listOf (List.toArray us) c) :: (news ++ own)) →
      wpAny (model prog w) A (execs body env) (OutEnd h₀ L m₀ news D X Y K j own s Q) E { s with heap := h, toks := tk })
    (done : ∀ (us : List Value) (c : Nat) (r : Int) (row : List Int) (tr : Tok) (u : Str → Option Value) h tk, outAt Y X Y.length = (row, r) → (∀ i < Y.length, ¬ K < minAt Y X i) → 
      Fr h₀ L h (fun y => if y = Str.ofString "bindex" then u y else if y = Str.ofString "result" then some (.int r tr) else
        if y = Str.ofString "bchar" then u y else if y = Str.ofString "distance" then u y else if y = Str.ofString "minimum" then u y else if y = Str.ofString "index" then u y else if y = Str.ofString "substitute" then u y else if y = Str.ofString "insert_delete" then u y else m₀ y) →
      News h₀ L h ((D, listOf (List.toArray us) c) :: news) → Q .next { s with heap := h, toks := tk }) :
    wpAny (model prog w) A (pyIter (.ref r)) (fun it s₂ => LoopAtV prog w A h₀ env (Str.ofString "bindex") body Q E it s₂) E s := by
  subst hL
  subst hr0
  refine kst_range (σ := List Value × Nat × Int × List Int × Tok) (n := Y.length)
    (fun c => (D, listOf (List.toArray c.1) c.2.1) :: news)
    (fun c => [(Str.ofString "result", .int c.2.2.1 c.2.2.2.2)])
    (fun c => IntsAre c.1 c.2.2.2.1) [Str.ofString "bchar", Str.ofString "distance", Str.ofString "minimum", Str.ofString "index", Str.ofString "substitute", Str.ofString "insert_delete"]
    (fun pre c => outAt Y X pre.length = (c.2.2.2.1, c.2.2.1) ∧ c.2.2.2.1.length = X.length ∧ ∀ i < pre.length, ¬ K < minAt Y X i)
    (us₀, c₀, 0, row0 X.length, tr₀) hh hr (small_one (by omega) (by omega) (by omega) (by omega)) (by rw [rangeSize_nat]; omega) F N hi ?_ ⟨rfl, by simp [row0], fun i hi => absurd hi (Nat.not_lt_zero i)⟩ ?_ ?_
  · intro p hp
    simp only [List.mem_cons, List.not_mem_nil, or_false] at hp
    subst hp
    exact hrs
  · rintro ⟨us, c, r', row, tr⟩ pre k t u h tk own hk hlt hoff hf ⟨hp, hlen, hmin⟩ F' N'
    simp only [Int.zero_add] at hk
    subst hk
    have em : (fun y => if y = Str.ofString "bindex" then some (Value.int (pre.length : Int) t) else kstB (fun z => if [Str.ofString "bchar", Str.ofString "distance", Str.ofString "minimum", Str.ofString "index", Str.ofString "substitute", Str.ofString "insert_delete"].contains z = true then u z else m₀ z) [(Str.ofString "result", .int r' tr)] y) =
        (fun y => if y = Str.ofString "bindex" then some (.int (pre.length : Int) t) else if y = Str.ofString "result" then some (.int r' tr) else
        if y = Str.ofString "bchar" then u y else if y = Str.ofString "distance" then u y else if y = Str.ofString "minimum" then u y else if y = Str.ofString "index" then u y else if y = Str.ofString "substitute" then u y else if y = Str.ofString "insert_delete" then u y else m₀ y) := by
      funext y
      simp only [kstB]
      rw [contains_if, contains_if, contains_if, contains_if, contains_if, contains_if, contains_nil_if]
    have F2 := em ▸ F'
    refine wpAny_mono (turn us c r' row tr pre.length t u h tk own hlt hp hlen hmin hf hoff F2 N') (fun fl s₂ q => ?_) fun _ _ x => x
    rcases q with ⟨v, rfl, q⟩ | ⟨rfl, us, c, r, row, tr, h', tk', m', news', rfl, F3, N3, hs, ho, hi3, hrow, hlen3, hm, e1, hz⟩
    · exact q
    refine kst_end (us, c, r, row, tr) F3 N3 hs ho rfl hi3 ?_ ?_ ⟨by rw [List.length_append]; exact hrow, hlen3, ?_⟩
    · intro p hp
      simp only [List.mem_cons, List.not_mem_nil, or_false] at hp
      subst hp
      exact e1
    · intro z h1 h2 h3
      simp only [List.contains_cons, List.contains_nil, Bool.or_false, Bool.or_eq_false_iff, beq_eq_false_iff_ne, ne_eq] at h3
      exact hz z h1 (h2 _ (.head _)) h3.1 h3.2.1 h3.2.2.1 h3.2.2.2.1 h3.2.2.2.2.1 h3.2.2.2.2.2
    · intro i hi
      rw [List.length_append, List.length_singleton] at hi
      by_cases hj : i = pre.length
      · rw [hj]; exact hm
      · exact hmin i (by omega)
  · rintro ⟨us, c, r', row, tr⟩ u h tk hf ⟨hp, hlen, hmin⟩ F' N'
    rw [rangeKs_length] at hp hmin
    have em : (fun y => if y = Str.ofString "bindex" then u y else kstB (fun z => if [Str.ofString "bchar", Str.ofString "distance", Str.ofString "minimum", Str.ofString "index", Str.ofString "substitute", Str.ofString "insert_delete"].contains z = true then u z else m₀ z) [(Str.ofString "result", .int r' tr)] y) =
        (fun y => if y = Str.ofString "bindex" then u y else if y = Str.ofString "result" then some (.int r' tr) else
        if y = Str.ofString "bchar" then u y else if y = Str.ofString "distance" then u y else if y = Str.ofString "minimum" then u y else if y = Str.ofString "index" then u y else if y = Str.ofString "substitute" then u y else if y = Str.ofString "insert_delete" then u y else m₀ y) := by
      funext y
      simp only [kstB]
      rw [contains_if, contains_if, contains_if, contains_if, contains_if, contains_if, contains_nil_if]
    exact done us c r' row tr u h tk hp hmin (em ▸ F') N'
end
end Mine

end
section
open PySem PySem.W PyProof.Rows
set_option Elab.async false
set_option maxRecDepth 100000 
set_option maxHeartbeats 8000000 
namespace Mine
/-- what a call of the text's def at f comes to: an int -/
abbrev ConI (w : World) (mean : PySem.ExcName → Option Value) (mg mb : Str → Option Value) (d u : Nat) (f : Addr) (news : List (Addr × Obj)) (vs : List Value) (v : Int) : Prop :=
  ∀ (dp un : Nat) (gd : Option (List Code)) (cn : Str) (cs : Scope) (a : Addr) (ccd : Value) (cl : List (Str × Addr)) (outer : List Env) (A₀ : Around) (base h₀ : Heap) (L : Addr) (m : Str → Option Value) (s : Shared) (Q E : Value → Shared → Prop),
    Below A₀ base outer h₀ → Fr h₀ L s.heap m → (hd.heap_39 w.params).In h₀ → News h₀ L s.heap news → Top hd.view_39 (looseW hd.view_39 []) mean mg mb h₀ → cs.kind = .function → dp + d < recursionLimit → un + u < cLine →
    (∀ (t : Tok) (h' : Heap) (tk' : Nat), Fr h₀ L h' m → News h₀ L h' news → Q (.int v t) { s with heap := h', toks := tk' }) →
    wpAny (model PySem.Challenge.rw_oy0519_01.row.prog w) (ktrTop dp un gd cn cs L a ccd cl outer) (call (.ref f) vs) Q E s
theorem sub_eq1 {x y : Str} (h : (x == y) = true) : (0 : Int) = subC x y := by
  unfold subC
  rw [if_pos (beq_iff_eq.mp h)]
theorem sub_eq2 {x y : Str} (h : (x == y) = false) (h2 : (Txt.lower x == Txt.lower y) = true) : (1 : Int) = subC x y := by
  unfold subC
  rw [if_neg (beq_eq_false_iff_ne.mp h), if_pos (beq_iff_eq.mp h2)]
theorem sub_eq3 {x y : Str} (h : (x == y) = false) (h2 : (Txt.lower x == Txt.lower y) = false) : (2 : Int) = subC x y := by
  unfold subC
  rw [if_neg (beq_eq_false_iff_ne.mp h), if_neg (beq_eq_false_iff_ne.mp h2)]
theorem sub_con (w : World) (mean : PySem.ExcName → Option Value) (mg mb : Str → Option Value) (x y : Str) (tx ty : Tok) (news : List (Addr × Obj)) (hx : x.length ≤ 40) (hy : y.length ≤ 40) :
    ConI w mean mg mb 1 8 21 news [.str x tx, .str y ty] (subC x y) := by
  dsimp only [ConI]
  w_top off
  k_fill
  intros; rename_i hret
  refine wpAny_call ?_
  k_dflt cell_enter
  k_steps
  all_goals (refine cb_retI hret ?_ (by k_asm) (by k_asm); first | exact sub_eq1 (by assumption) | exact sub_eq2 (by assumption) (by assumption) | exact sub_eq3 (by assumption) (by assumption))
theorem sub_use {w : World} {mean : PySem.ExcName → Option Value} {mg mb : Str → Option Value} {x y : Str} {tx ty : Tok} {news : List (Addr × Obj)} 
    {dp un : Nat} {gd : Option (List Code)} {cn : Str} {cs : Scope} {a : Addr} {ccd : Value} {cl : List (Str × Addr)} {outer : List Env} {A₀ : Around} {base h₀ : Heap} {L : Addr} {m : Str → Option Value} {s : Shared} {Q E : Value → Shared → Prop}
    (B : Below A₀ base outer h₀) (F : Fr h₀ L s.heap m) (X : (hd.heap_39 w.params).In h₀) (N : News h₀ L s.heap news) (T : Top hd.view_39 (looseW hd.view_39 []) mean mg mb h₀) (hk : cs.kind = .function) (hd' : dp + 1 < recursionLimit) (hu : un + 8 < cLine)
    (hx : x.length ≤ 40) (hy : y.length ≤ 40)
    (ret : ∀ (t : Tok) (h' : Heap) (tk' : Nat), Fr h₀ L h' m → News h₀ L h' news → Q (.int (subC x y) t) { s with heap := h', toks := tk' }) :
    wpAny (model PySem.Challenge.rw_oy0519_01.row.prog w) (ktrTop dp un gd cn cs L a ccd cl outer) (call (.ref 21) [.str x tx, .str y ty]) Q E s :=
  sub_con w mean mg mb x y tx ty news hx hy _ _ _ _ _ _ _ _ _ _ _ _ _ _ _ _ _ B F X N T hk hd' hu ret
end Mine

end
section
open PySem PySem.W PyProof.Rows
set_option Elab.async false
set_option maxRecDepth 100000 
set_option maxHeartbeats 8000000 
namespace Mine
local macro_rules | `(tactic| walk_at "exec While BoolOp") => `(tactic| (k_here; (rename Fr _ _ _ _ => lF'); (rename News _ _ _ _ => lN'); (k_dflt (refine' while_pre lF' lN' ?kk ?k0 ?ka ?kb ?_ ?_ ?he; (case kk => exact rfl); (case k0 => exact rfl); (case ka => exact rfl); (case kb => exact rfl); (case he => passes_own))); (all_goals (intros; (try k_sweep); (try k_fold)))))
local macro_rules | `(tactic| walk_at "exec While BoolOp") => `(tactic| (k_here; (rename Fr _ _ _ _ => lF'); (rename News _ _ _ _ => lN'); (k_dflt (refine' while_post lF' lN' ?kk ?k0 ?ka ?kb ?_ ?_ ?_ ?he; (case kk => exact rfl); (case k0 => exact rfl); (case ka => exact rfl); (case kb => exact rfl); (case he => passes_own))); (all_goals (intros; (try k_sweep); (try k_fold)))))
local macro_rules | `(tactic| walk_at "CntEnd") => `(tactic| ((refine cntEnd_of (by assumption) (by assumption) (by exact rfl) (by first | exact rfl | ((try dsimp only); omega)) (by intro z hz; first | exact if_neg hz | exact rfl | ((try dsimp only); (simp only [if_neg hz]))) ?_); (first | exact pre_go (by assumption) (by omega) (by omega) (by assumption) | exact post_go (by assumption) (by omega) (by omega) (by assumption) | exact post_go0 (by omega) (by omega) (by assumption))))
local macro_rules | `(tactic| walk_at "CntStop") => `(tactic| ((refine cntStop_of (by assumption) (by assumption) (by exact rfl) (by first | exact rfl | ((try dsimp only); omega)) (by intro z hz; first | exact if_neg hz | exact rfl | ((try dsimp only); (simp only [if_neg hz]))) ?_); (first | omega | exact pre_stop (by assumption) (by omega) (by omega) (by assumption) | exact post_stop (by assumption) (by omega) (by omega) (by assumption) | exact post_stop0 (by omega) (by omega) (by assumption))))
local macro_rules | `(tactic| walk_at "exec Assign") => `(tactic| (k_here; (fail_if_success (with_reducible show wpAny _ _ _ (Meet _) _ _)); (with_reducible show wpAny _ _ (exec (Stmt.Assign [Expr.Name (Str.ofString "a") _] (Expr.Subscript (Expr.Name (Str.ofString "a") _) (Expr.Slice (some (Expr.Name (Str.ofString "pre") _)) none none _) _) _) _) _ _ _); (rename Fr _ _ _ _ => lF'); (rename News _ _ _ _ => lN'); (k_dflt (refine' cut_pre (Str.ofString "a") lF' lN' ?ka ?kp ?kc ?_ ?_; (case ka => exact rfl); (case kp => exact rfl); (case kc => assumption))); (all_goals (intros; (try k_sweep); (try k_fold)))))
local macro_rules | `(tactic| walk_at "exec Assign") => `(tactic| (k_here; (fail_if_success (with_reducible show wpAny _ _ _ (Meet _) _ _)); (with_reducible show wpAny _ _ (exec (Stmt.Assign [Expr.Name (Str.ofString "a") _] (Expr.Subscript (Expr.Name (Str.ofString "a") _) (Expr.Slice none (some (Expr.BoolOp _ _ _)) none _) _) _) _) _ _ _); (rename Fr _ _ _ _ => lF'); (rename News _ _ _ _ => lN'); (k_dflt (refine' cut_post (Str.ofString "a") lF' lN' ?ka ?kp ?kc ?_ ?_; (case ka => exact rfl); (case kp => exact rfl); (case kc => assumption))); (all_goals (intros; (try k_sweep); (try k_fold)))))
local macro_rules | `(tactic| walk_at "exec Assign") => `(tactic| (k_here; (fail_if_success (with_reducible show wpAny _ _ _ (Meet _) _ _)); (with_reducible show wpAny _ _ (exec (Stmt.Assign [Expr.Name (Str.ofString "b") _] (Expr.Subscript (Expr.Name (Str.ofString "b") _) (Expr.Slice (some (Expr.Name (Str.ofString "pre") _)) none none _) _) _) _) _ _ _); (rename Fr _ _ _ _ => lF'); (rename News _ _ _ _ => lN'); (k_dflt (refine' cut_pre (Str.ofString "b") lF' lN' ?ka ?kp ?kc ?_ ?_; (case ka => exact rfl); (case kp => exact rfl); (case kc => assumption))); (all_goals (intros; (try k_sweep); (try k_fold)))))
local macro_rules | `(tactic| walk_at "exec Assign") => `(tactic| (k_here; (fail_if_success (with_reducible show wpAny _ _ _ (Meet _) _ _)); (with_reducible show wpAny _ _ (exec (Stmt.Assign [Expr.Name (Str.ofString "b") _] (Expr.Subscript (Expr.Name (Str.ofString "b") _) (Expr.Slice none (some (Expr.BoolOp _ _ _)) none _) _) _) _) _ _ _); (rename Fr _ _ _ _ => lF'); (rename News _ _ _ _ => lN'); (k_dflt (refine' cut_post (Str.ofString "b") lF' lN' ?ka ?kp ?kc ?_ ?_; (case ka => exact rfl); (case kp => exact rfl); (case kc => assumption))); (all_goals (intros; (try k_sweep); (try k_fold)))))
local macro_rules | `(tactic| walk_at "exec If") => `(tactic| (k_here; (fail_if_success (with_reducible show wpAny _ _ _ (Meet _) _ _)); (with_reducible show wpAny _ _ (exec (Stmt.If (Expr.Compare _ [CmpOp.Lt] _ _) [Stmt.Assign [Expr.Tuple _ _ _] _ _] [] _) _) _ _ _); (rename Fr _ _ _ _ => lF'); (rename News _ _ _ _ => lN'); (k_dflt (refine' cut_swap lF' lN' ?ka ?kb ?_ ?_; (case ka => exact rfl); (case kb => exact rfl))); (all_goals (intros; (try k_sweep); (try k_fold)))))
local macro_rules | `(tactic| walk_at "Meet") => `(tactic| ((with_reducible show Meet (JV _ _ _ _ _ _ _) _ _); (k_dflt (refine' meet_name (by assumption) (by assumption) (fun p h => h) ?hv ?he ?hr; (case hv => exact if_pos rfl); (case he => (with_reducible first | (refine ⟨_, str_post0 ?_⟩; assumption) | (refine ⟨_, str_post ?_ ?_⟩ <;> assumption) | (refine ⟨_, str_pre ?_⟩; assumption))); (case hr => (intro z hz; exact if_neg hz))))))
local macro_rules | `(tactic| walk_at "Meet") => `(tactic| ((with_reducible show Meet (JSw _ _ _ _ _ _ _) _ _); (k_dflt (refine' meet_swapY (by assumption) (by assumption) ?hs (by assumption) ?ha ?hb ?hr; (case hs => exact fun p h => List.mem_cons_of_mem _ h); (case ha => exact if_pos rfl); (case hb => exact (if_neg (by decide)).trans (if_pos rfl)); (case hr => (intro z hz hy; exact (if_neg hy).trans (if_neg hz)))))))
local macro_rules | `(tactic| walk_at "Meet") => `(tactic| ((with_reducible show Meet (JSw _ _ _ _ _ _ _) _ _); (k_dflt (refine' meet_swapN (by assumption) (by assumption) (by assumption) ?ha ?hb; (case ha => exact rfl); (case hb => exact rfl)))))
local macro_rules | `(tactic| walk_at "pyIter ref") => `(tactic| (k_here; (with_reducible show wpAny _ _ (pyIter (Value.ref _)) (fun it s₂ => LoopAtV _ _ _ _ _ (Str.ofString "bindex") _ _ _ it s₂) _ _); (rename IsRange _ _ _ _ _ _ _ _ => rgX); (rename Fr _ _ _ _ => lF'); (rename News _ _ _ _ => lN'); (k_dflt (refine' outer_loop ?hL ?hh rgX ?hY lF' lN' ?hi ?h1 ?h2 ?h3 ?h4 ?_ ?_; (case hL => exact rfl); (case hh => exact rfl); (case hY => omega); (case hi => assumption); (case h1 => exact rfl); (case h2 => exact rfl); (case h3 => exact rfl); (case h4 => exact rfl))); (all_goals (intros; (try k_sweep); (try k_fold)))))
local macro_rules | `(tactic| walk_at "pyIter ref") => `(tactic| (k_here; (with_reducible show wpAny _ _ (pyIter (Value.ref _)) (fun it s₂ => LoopAtV _ _ _ _ _ (Str.ofString "index") _ _ _ it s₂) _ _); (rename IsRange _ _ _ _ _ _ _ _ => rgX); (rename Fr _ _ _ _ => lF'); (rename News _ _ _ _ => lN'); (k_dflt (refine' inner_loop ?hL ?hh rgX ?hX lF' lN' ?hi ?hR ?h1 ?h2 ?h3 ?h4 ?h5 ?h6 ?_ ?_; (case hL => exact rfl); (case hh => exact rfl); (case hX => omega); (case hi => assumption); (case hR => assumption); (case h1 => exact rfl); (case h2 => exact rfl); (case h3 => exact rfl); (case h4 => exact rfl); (case h5 => exact rfl); (case h6 => exact rfl))); (all_goals (intros; (try k_sweep); (try k_fold)))))
local macro_rules | `(tactic| walk_at "call ref") => `(tactic| (k_here; (with_reducible show wpAny _ _ (call (Value.ref 21) [Value.str _ _, Value.str _ _]) _ _ _); (k_dflt (refine' sub_use ?k1 ?k2 ?k3 ?k4 ?k5 ?kK ?kd ?ku ?hx ?hy ?_; (case k1 => k_asm); (case k2 => k_asm); (case k3 => k_asm); (case k4 => k_asm); (case k5 => k_asm); (case kK => exact rfl); (case kd => ktr_room); (case ku => ktr_units); (case hx => omega); (case hy => omega))); intro t9 h9 tk9 F9 N9; (try dsimp only); (try k_sweep); (try k_fold)))
local macro_rules | `(tactic| walk_at "setItem ref int") => `(tactic| (k_here; (with_reducible show wpAny _ _ (setItem (Value.ref _) (Value.int _ _) (Value.int _ _)) _ _ _); (k_dflt (refine' row_set ?F ?N ?o ?i ?l ?f ?_; (case F => k_asm); (case N => k_asm); (case o => exact off_app (off_app (by assumption) (off_own (by assumption))) (off_own (by assumption))); (case i => assumption); (case l => omega); (case f => omega))); intro h' F' N' hi'; (try k_sweep)))
local macro_rules | `(tactic| walk_at "InEnd") => `(tactic| ((k_dflt (refine' inEnd_of ?F ?N ?hs ?ho ?hrow ?hl ?hi ?e1 ?e2 ?e3 ?hd ?hr ?hm ?hz; (case F => k_asm); (case N => k_asm); (case hs => exact fun p hp => sub_grow hp); (case ho => exact fun p hp => sub_own hp); (case hrow => assumption); (case hl => assumption); (case hi => assumption); (case e1 => exact rfl); (case e2 => exact rfl); (case e3 => exact rfl); (case hd => exact rfl); (case hr => exact rfl); (case hm => first | exact (if_pos (by assumption)).symm | exact (if_neg (by assumption)).symm); (case hz => (intro z h1 h2 h3 h4 h5 h6; (try dsimp only); (simp only [if_neg h1, if_neg h2, if_neg h3, if_neg h4, if_neg h5, if_neg h6]); (try rfl)))))))
local macro_rules | `(tactic| walk_at "OutEnd") => `(tactic| ((k_dflt (refine' outEnd_of ?F ?N ?hs ?ho ?h0 ?hrow ?hl ?hi ?hm ?e2 ?hz; (case F => k_asm); (case N => k_asm); (case hs => exact fun p hp => sub_grow hp); (case ho => exact fun p hp => sub_own hp); (case h0 => assumption); (case hrow => assumption); (case hl => assumption); (case hi => assumption); (case hm => assumption); (case e2 => exact rfl); (case hz => (intro z h1 h2 h3 h4 h5 h6 h7 h8; (try dsimp only); (simp only [if_neg h1, if_neg h2, if_neg h3, if_neg h4, if_neg h5, if_neg h6, if_neg h7, if_neg h8]); (try rfl)))))))
local macro_rules | `(tactic| walk_at "OutEnd") => `(tactic| ((with_reducible refine outEnd_ret ?_); (try dsimp only)))
local macro_rules | `(tactic| walk_at "call type:list") => `(tactic| (k_here; (with_reducible show wpAny _ _ (call (Value.type _) [Value.ref _]) _ _ _); (rename IsRange _ _ _ _ _ _ _ _ => rgX); (with_unfolding_all refine' row_list ?k0 ?k1 ?k2 ?k3 ?k4 ?_; (case k0 => rfl); (case k1 => k_asm); (case k2 => k_asm); (case k3 => exact rgX); (case k4 => omega)); intro D' us' c' h' tk' F' N' ho' hI'; (try k_sweep)))
local macro_rules | `(tactic| walk_at "ite") => `(tactic| ((with_reducible show if ((_ : Int) != 0) = true then _ else _); refine ite_pos (bne_iff_ne.mpr (by assumption)) ?_))
local macro_rules | `(tactic| walk_at "subscriptTail Name Slice str ref") => `(tactic| ((with_reducible show wpAny _ _ (subscriptTail _ (Expr.Slice none (some (Expr.BoolOp _ _ _)) none _) _ _) _ _ _); (with_reducible rename Fr _ _ _ _ => F'); (with_reducible rename News _ _ _ _ => N'); refine slice_all_str (s := ⟨_, _, _, _, _⟩) F' N' ?_; intro _ _ _ _ _))
theorem lev_con (w : World) (mean : PySem.ExcName → Option Value) (mg mb : Str → Option Value) (x y : Str) (k : Int) (tx ty tk : Tok) (news : List (Addr × Obj)) (hx : x.length ≤ 40) (hy : y.length ≤ 40) :
    ConI w mean mg mb 2 16 28 news [.str x tx, .str y ty, .int k tk] (lev x y k) := by
  dsimp only [ConI]
  w_top off
  k_fill
  intros; rename_i hret
  refine wpAny_call ?_
  k_dflt cell_enter
  rename Fr _ _ _ _ => F0
  have F1 := fr_clean3 F0 (a := Str.ofString "a") (b := Str.ofString "b") (c := Str.ofString "max_cost") (va := .str x tx) (vb := .str y ty) (vc := .int k tk) (by with_unfolding_all rfl)
  clear F0
  repeat' (first | (k_unfold; (try dsimp only)) | walk1 | (dsimp only; walk1))
  all_goals try (refine cb_retI hret ?_ (by k_asm) (by first | k_asm | exact cb_drop (by assumption) (fun p hp => List.mem_cons_of_mem _ hp) | exact cb_drop (by assumption) (fun p hp => .tail _ (List.mem_append.mpr (.inl hp)))); first | exact lev_same (by assumption) | (refine Eq.trans ?_ (lev_from (by assumption) (by assumption) (by assumption) (by assumption) (by assumption) (by assumption) (by assumption)).symm; first | exact lev2_empty (.inl (by assumption)) | exact lev2_empty (.inr (by assumption)) | (refine Eq.trans ?_ (lev2_full (by assumption) (by assumption) (by omega) (by omega) (by assumption) (by assumption)).symm; first | exact lev3_far (by assumption) | exact lev3_cut (by assumption) (by assumption) (by rw [min_is (by assumption) (by assumption)]; assumption) | exact lev3_end (by assumption) (by assumption) (by assumption))))
theorem lev_use {w : World} {mean : PySem.ExcName → Option Value} {mg mb : Str → Option Value} {x y : Str} {k : Int} {tx ty tk : Tok} {news : List (Addr × Obj)} 
    {dp un : Nat} {gd : Option (List Code)} {cn : Str} {cs : Scope} {a : Addr} {ccd : Value} {cl : List (Str × Addr)} {outer : List Env} {A₀ : Around} {base h₀ : Heap} {L : Addr} {m : Str → Option Value} {s : Shared} {Q E : Value → Shared → Prop}
    (B : Below A₀ base outer h₀) (F : Fr h₀ L s.heap m) (X : (hd.heap_39 w.params).In h₀) (N : News h₀ L s.heap news) (T : Top hd.view_39 (looseW hd.view_39 []) mean mg mb h₀) (hk : cs.kind = .function) (hd' : dp + 2 < recursionLimit) (hu : un + 16 < cLine)
    (hx : x.length ≤ 40) (hy : y.length ≤ 40)
    (ret : ∀ (t : Tok) (h' : Heap) (tk' : Nat), Fr h₀ L h' m → News h₀ L h' news → Q (.int (lev x y k) t) { s with heap := h', toks := tk' }) :
    wpAny (model PySem.Challenge.rw_oy0519_01.row.prog w) (ktrTop dp un gd cn cs L a ccd cl outer) (call (.ref 28) [.str x tx, .str y ty, .int k tk]) Q E s :=
  lev_con w mean mg mb x y k tx ty tk news hx hy _ _ _ _ _ _ _ _ _ _ _ _ _ _ _ _ _ B F X N T hk hd' hu ret
end Mine

end
section
open PySem PySem.W PyProof.Rows PySem.Calls PySem.Spec PyProof.Rows.LCg
set_option Elab.async false
set_option maxRecDepth 100000
set_option maxHeartbeats 1000000
namespace Mine
section
variable {prog : Program} {w : World} {A : Around} {E : Value → Shared → Prop} {R : Result → Shared → Prop}
theorem compTurn_in (elt it1 it2 : PySem.Expr) (x1 x2 : Str) (px1 px2 : Pos) (scope : Scope) (pos : Pos) (it acc : Value) (env : Env) :
    compTurn (.ListComp elt [⟨.Name x1 px1, it1, [], 0⟩, ⟨.Name x2 px2, it2, [], 0⟩] scope pos) 1 it acc env = (standAt it2.pos >>= fun _ => pyNext it >>= fun r => match r with
      | none => pure (.done .next)
      | some v => letOwnedTupleGo (.Name x2 px2) it v >>= fun _ => assign (.Name x2 px2) env v >>= fun _ =>
        (eval elt env >>= fun x => call (.builtin "list.append") [acc, x] >>= fun _ => pure ()) >>= fun _ =>
          again (.compLoop (.ListComp elt [⟨.Name x1 px1, it1, [], 0⟩, ⟨.Name x2 px2, it2, [], 0⟩] scope pos) 1 it acc env)) := by rfl
theorem compTurn_out (elt it1 it2 : PySem.Expr) (x1 x2 : Str) (px1 px2 : Pos) (scope : Scope) (pos : Pos) (it acc : Value) (env : Env) :
    compTurn (.ListComp elt [⟨.Name x1 px1, it1, [], 0⟩, ⟨.Name x2 px2, it2, [], 0⟩] scope pos) 0 it acc env = (standAt it1.pos >>= fun _ => pyNext it >>= fun r => match r with
      | none => pure (.done .next)
      | some v => letOwnedTupleGo (.Name x1 px1) it v >>= fun _ => assign (.Name x1 px1) env v >>= fun _ =>
        (eval it2 env >>= fun x => standAt it2.pos >>= fun _ => foldedSetIterable it2 env x >>= fun x => holding [x] (pyIter x) >>= fun i2 =>
          runOwn (.compStart (.ListComp elt [⟨.Name x1 px1, it1, [], 0⟩, ⟨.Name x2 px2, it2, [], 0⟩] scope pos) 1 i2 acc env) env >>= fun _ =>
          again (.compLoop (.ListComp elt [⟨.Name x1 px1, it1, [], 0⟩, ⟨.Name x2 px2, it2, [], 0⟩] scope pos) 0 it acc env))) := by rfl

/-- what the element of the comprehension comes to: the two texts, one behind the other -/
def EltCat (prog : Program) (w : World) (A : Around) (elt : PySem.Expr) (cenv : Env) (x1 x2 : Str) : Prop :=
  ∀ (s : Shared) (Q : Value → Shared → Prop) (E : Value → Shared → Prop) (m' : Str → Option Value) (a b : Str) (ta tb : Tok), s.heap.Ns cenv.locals m' → m' x1 = some (.str a ta) → m' x2 = some (.str b tb) → a.length + b.length ≤ 1000 →
    (∀ t tk', Q (.str (a ++ b) t) { s with toks := tk' }) → wpAny (model prog w) A (eval elt cenv) Q E s
theorem strs_get : ∀ {vs : List Value} {ss : List Str}, StrsAre vs ss → ∀ (j : Nat) (v : Value), vs[j]? = some v → ∃ b t, v = .str b t ∧ ss[j]? = some b
  | _, _, .nil, j, v, h => by simp at h
  | _, _, .cons b t _, 0, v, h => ⟨b, t, by simpa using h.symm, rfl⟩
  | _, _, .cons _ _ r, j + 1, v, h => strs_get r j v (by simpa using h)
theorem strs_len {vs : List Value} {ss : List Str} (h : StrsAre vs ss) : vs.length = ss.length := by
  induction h with
  | nil => rfl
  | cons _ _ _ ih => simp [ih]
theorem comp2_inner {elt it1 it2 : PySem.Expr} {x1 x2 : Str} {px1 px2 : Pos} {scope : Scope} {pos : Pos} {I bx D : Addr} {cenv : Env} {sv : List Value} {ss : List Str} {a : Str} {ta : Tok} {ys0 : List Value} {done0 : List Str} {m1 : Str → Option Value}
    (hh : A.handled = none) (hx2 : cenv.kindOf x2 = some .local) (hfun : cenv.scope.kind = .function) (hne : x1 ≠ x2)
    (hIC : I ≠ cenv.locals) (hID : I ≠ D) (hDC : D ≠ cenv.locals) (hbI : bx ≠ I) (hbC : bx ≠ cenv.locals) (hbD : bx ≠ D)
    (hs : StrsAre sv ss) (he : EltCat prog w A elt cenv x1 x2) (hla : ∀ b ∈ ss, a.length + b.length ≤ 1000) (hsz : ys0.length + ss.length ≤ sizeLine)
    (s : Shared) (hI : s.heap.IsListIter I bx 0) (hb : s.heap.IsList bx sv.toArray) (hns : s.heap.Ns cenv.locals m1) (hm1 : m1 x1 = some (.str a ta)) (hD : s.heap.get? D = some (lst ys0)) (hy : StrsAre ys0 done0)
    (hR : ∀ h' tk ys m', (∀ b o, b ∉ [I, cenv.locals, D] → s.heap.get? b = some o → h'.get? b = some o) → h'.Ns cenv.locals m' → h'.get? D = some (lst ys) → StrsAre ys (done0 ++ ss.map (a ++ ·)) → R (.ok .next) { s with heap := h', toks := tk }) :
    codeAny (model prog w) A (.compLoop (.ListComp elt [⟨.Name x1 px1, it1, [], 0⟩, ⟨.Name x2 px2, it2, [], 0⟩] scope pos) 1 (.ref I) (.ref D) cenv) R s := by
  have W := Walks.list (prog := prog) (w := w) hh I bx hbI sv.toArray
  have hsl : sv.toArray.size = ss.length := by rw [List.size_toArray, strs_len hs]
  rw [hsl] at W
  refine codeAny_loop rfl (fun n s' => ∃ h tk j ys m', s' = { s with heap := h, toks := tk } ∧ j ≤ ss.length ∧ n = ss.length - j ∧ (∀ b o, b ∉ [I, cenv.locals, D] → s.heap.get? b = some o → h.get? b = some o) ∧
    (h.IsListIter I bx j ∧ h.IsList bx sv.toArray) ∧ h.Ns cenv.locals m' ∧ m' x1 = some (.str a ta) ∧ h.get? D = some (lst ys) ∧ ys.length = ys0.length + j ∧ StrsAre ys (done0 ++ (ss.take j).map (a ++ ·))) ?_ ss.length
    ⟨s.heap, s.toks, 0, ys0, m1, rfl, Nat.zero_le _, rfl, fun _ _ _ e => e, ⟨hI, hb⟩, hns, hm1, hD, rfl, by simpa using hy⟩
  rintro n s' ⟨h, tk, j, ys, m', rfl, hj, rfl, hk, st, hn, hm, hDg, hyl, hys⟩
  show wpAny _ A ((compTurn (.ListComp elt [⟨.Name x1 px1, it1, [], 0⟩, ⟨.Name x2 px2, it2, [], 0⟩] scope pos) 1 (.ref I) (.ref D) cenv).onRaise (fun x => do noteFrame x cenv; theTreesLotGoes x)) _ _ _
  refine wpAny_noted ?_
  rw [compTurn_in]
  refine wpAny_bind (wpAny_standAt (wpAny_bind ?_))
  by_cases hlt : j < ss.length
  · refine W.item j _ _ _ hlt st fun v h₂ tk₂ hPv st₂ hk₂ => ?_
    obtain ⟨b, tb, rfl, hbj⟩ := strs_get hs j v (by simpa using hPv)
    have hn₂ : h₂.Ns cenv.locals m' := hn.at' fun o e => hk₂ _ o (by simpa using Ne.symm hIC) e
    have hD₂ : h₂.get? D = some (lst ys) := hk₂ _ _ (by simpa using Ne.symm hID) hDg
    refine wpAny_bind (wpAny_of_eq (by rfl) (wpAny_bind ?_))
    refine wpAny_assign_Name (wpAny_storeName_local hx2 hn₂ (fun h₃ hn₃ hs₃ => ?_) (by rw [hfun]; rfl))
    have hD₃ : h₃.get? D = some (lst ys) := hs₃.extBut _ _ hDC hD₂
    refine wpAny_bind (wpAny_bind ?_)
    refine he _ _ _ _ a b ta tb hn₃ (by rw [if_neg hne]; exact hm) (if_pos rfl) (hla b (List.mem_of_getElem? hbj)) fun t tk' => ?_
    refine wpAny_bind (append_at (hsz := by show ys.toArray.size ≤ sizeLine; rw [List.size_toArray, hyl]; omega) hD₃ fun h₅ hs₅ hD₅ => ?_)
    refine wpAny_pure (wpAny_pure ⟨rfl, ss.length - (j + 1), by omega, h₅, _, j + 1, ys ++ [.str (a ++ b) t], _, rfl, hlt, rfl, ?_, ?_, hn₃.sameBut hs₅ (Ne.symm hDC), by rw [if_neg hne]; exact hm, ?_, ?_, ?_⟩)
    · intro c o hc e
      have h1 : c ≠ I := fun q => hc (by simp [q])
      have h2 : c ≠ cenv.locals := fun q => hc (by simp [q])
      have h3 : c ≠ D := fun q => hc (by simp [q])
      exact hs₅.extBut _ _ h3 (hs₃.extBut _ _ h2 (hk₂ _ _ (by simpa using h1) (hk _ _ hc e)))
    · refine W.frame _ _ _ st₂ fun c hc o e => ?_
      rcases List.mem_cons.mp hc with rfl | hc
      · exact hs₅.extBut _ _ hID (hs₃.extBut _ _ hIC e)
      · rw [List.mem_singleton.mp hc] at e ⊢
        exact hs₅.extBut _ _ hbD (hs₃.extBut _ _ hbC e)
    · exact hD₅.trans (congrArg some (lst_snoc ys _))
    · rw [List.length_append, hyl, List.length_singleton, Nat.add_assoc]
    · rw [List.take_add_one, hbj, List.map_append, ← List.append_assoc]
      exact StrsAre.append' hys (.cons _ _ .nil)
  · obtain rfl : j = ss.length := Nat.le_antisymm hj (Nat.not_lt.mp hlt)
    refine W.done _ _ _ st fun h₂ tk₂ hk₂ => ?_
    refine wpAny_pure ?_
    rw [List.take_length] at hys
    refine hR h₂ tk₂ ys m' (fun c o hc e => hk₂ _ _ (fun q => hc (by rw [List.mem_singleton.mp q]; exact List.mem_cons_self)) (hk _ _ hc e)) (hn.at' fun o e => hk₂ _ o (by simpa using Ne.symm hIC) e) (hk₂ _ _ (by simpa using Ne.symm hID) hDg) hys

theorem compStart_in {elt it1 it2 : PySem.Expr} {x1 x2 : Str} {px1 px2 : Pos} {scope : Scope} {pos : Pos} {it acc : Value} {env : Env} {s : Shared}
    (h0 : codeAny (model prog w) A (.compLoop (.ListComp elt [⟨.Name x1 px1, it1, [], 0⟩, ⟨.Name x2 px2, it2, [], 0⟩] scope pos) 1 it acc env) R s)
    (h : wpAny (model prog w) A (pyIter it) (fun it' s' => codeAny (model prog w) A (.compLoop (.ListComp elt [⟨.Name x1 px1, it1, [], 0⟩, ⟨.Name x2 px2, it2, [], 0⟩] scope pos) 1 it' acc env) R s')
      (notedBy (model prog w) A env fun x s' => R (.error x) s') s) :
    codeAny (model prog w) A (.compStart (.ListComp elt [⟨.Name x1 px1, it1, [], 0⟩, ⟨.Name x2 px2, it2, [], 0⟩] scope pos) 1 it acc env) R s := by
  refine codeAny_of_tree ?_
  show wpAny _ _ ((compStart (.ListComp elt [⟨.Name x1 px1, it1, [], 0⟩, ⟨.Name x2 px2, it2, [], 0⟩] scope pos) 1 it acc env).onRaise (fun x => do noteFrame x env; standAt theWindowsPlace)) _ _ s
  refine wpAny_notedAt ?_
  unfold compStart
  show wpAny _ _ (ask >>= _) _ _ s
  refine wpAny_bind (wpAny_askSetting (wpAny_ite ?_))
  split
  · first
      | exact wpAny_bind (wpAny_pure (wpAny_pure (And.intro rfl h0)))
      | exact wpAny_pure (And.intro rfl h0)
  · first
      | exact wpAny_bind (wpAny_rule (wpAny_bind (wpAny_standAt (wpAny_bind (wpAny_mono h (fun it' s' h' => wpAny_pure (And.intro rfl h')) fun _ _ x => x)))))
      | (refine wpAny_bind (wpAny_rule ?_); show wpAny _ _ (standAt it2.pos >>= _) _ _ s; exact wpAny_bind (wpAny_standAt (wpAny_bind (wpAny_mono h (fun it' s' h' => wpAny_pure (And.intro rfl h')) fun _ _ x => x))))

theorem comp2_outer {elt it1 it2 : PySem.Expr} {x1 x2 : Str} {px1 px2 : Pos} {scope : Scope} {pos : Pos} {I ax bx D : Addr} {cenv : Env} {us sv : List Value} {ws ss : List Str} {m1 : Str → Option Value}
    (hh : A.handled = none) (hhm : (A.mark none).handled = none) (hx1 : cenv.kindOf x1 = some .local) (hx2 : cenv.kindOf x2 = some .local) (hfun : cenv.scope.kind = .function) (hne : x1 ≠ x2)
    (hIC : I ≠ cenv.locals) (hID : I ≠ D) (hDC : D ≠ cenv.locals) (haI : ax ≠ I) (haC : ax ≠ cenv.locals) (haD : ax ≠ D) (hbI : bx ≠ I) (hbC : bx ≠ cenv.locals) (hbD : bx ≠ D)
    (hu : StrsAre us ws) (hs : StrsAre sv ss) (he : EltCat prog w (A.mark none) elt cenv x1 x2) (hla : ∀ a ∈ ws, ∀ b ∈ ss, a.length + b.length ≤ 1000) (hsz : ws.length * ss.length ≤ sizeLine)
    (s : Shared)
    (hi2 : ∀ (s' : Shared) (Q : Value → Shared → Prop) (E : Value → Shared → Prop), (∀ b o, b ∉ [I, cenv.locals, D] → s.heap.get? b = some o → s'.heap.get? b = some o) → Q (.ref bx) s' → wpAny (model prog w) A (eval it2 cenv) Q E s')
    (hf2 : ∀ x, foldedSetIterable it2 cenv x = pure x)
    (hI : s.heap.IsListIter I ax 0) (ha : s.heap.IsList ax us.toArray) (hb : s.heap.IsList bx sv.toArray) (hns : s.heap.Ns cenv.locals m1) (hD : s.heap.get? D = some (lst []))
    (hR : ∀ h' tk ys m', (∀ b o, b ∉ [I, cenv.locals, D] → s.heap.get? b = some o → h'.get? b = some o) → h'.Ns cenv.locals m' → h'.get? D = some (lst ys) → StrsAre ys (ws.flatMap fun a => ss.map (a ++ ·)) → R (.ok .next) { s with heap := h', toks := tk }) :
    codeAny (model prog w) A (.compLoop (.ListComp elt [⟨.Name x1 px1, it1, [], 0⟩, ⟨.Name x2 px2, it2, [], 0⟩] scope pos) 0 (.ref I) (.ref D) cenv) R s := by
  have W := Walks.list (prog := prog) (w := w) hh I ax haI us.toArray
  have hul : us.toArray.size = ws.length := by rw [List.size_toArray, strs_len hu]
  rw [hul] at W
  refine codeAny_loop rfl (fun n s' => ∃ h tk i ys m', s' = { s with heap := h, toks := tk } ∧ i ≤ ws.length ∧ n = ws.length - i ∧ (∀ b o, b ∉ [I, cenv.locals, D] → s.heap.get? b = some o → h.get? b = some o) ∧
    (h.IsListIter I ax i ∧ h.IsList ax us.toArray) ∧ h.Ns cenv.locals m' ∧ h.get? D = some (lst ys) ∧ ys.length = i * ss.length ∧ StrsAre ys ((ws.take i).flatMap fun a => ss.map (a ++ ·))) ?_ ws.length
    ⟨s.heap, s.toks, 0, [], m1, rfl, Nat.zero_le _, rfl, fun _ _ _ e => e, ⟨hI, ha⟩, hns, hD, by simp, by simpa using StrsAre.nil⟩
  rintro n s' ⟨h, tk, i, ys, m', rfl, hi, rfl, hk, st, hn, hDg, hyl, hys⟩
  show wpAny _ A ((compTurn (.ListComp elt [⟨.Name x1 px1, it1, [], 0⟩, ⟨.Name x2 px2, it2, [], 0⟩] scope pos) 0 (.ref I) (.ref D) cenv).onRaise (fun x => do noteFrame x cenv; theTreesLotGoes x)) _ _ _
  refine wpAny_noted ?_
  rw [compTurn_out]
  refine wpAny_bind (wpAny_standAt (wpAny_bind ?_))
  by_cases hlt : i < ws.length
  · refine W.item i _ _ _ hlt st fun v h₂ tk₂ hPv st₂ hk₂ => ?_
    obtain ⟨a, ta, rfl, hai⟩ := strs_get hu i v (by simpa using hPv)
    have hn₂ : h₂.Ns cenv.locals m' := hn.at' fun o e => hk₂ _ o (by simpa using Ne.symm hIC) e
    have hD₂ : h₂.get? D = some (lst ys) := hk₂ _ _ (by simpa using Ne.symm hID) hDg
    refine wpAny_bind (wpAny_of_eq (by rfl) (wpAny_bind ?_))
    refine wpAny_assign_Name (wpAny_storeName_local hx1 hn₂ (fun h₃ hn₃ hs₃ => ?_) (by rw [hfun]; rfl))
    have hD₃ : h₃.get? D = some (lst ys) := hs₃.extBut _ _ hDC hD₂
    have hk₃ : ∀ b o, b ∉ [I, cenv.locals, D] → s.heap.get? b = some o → h₃.get? b = some o := fun b o hb' e => by
      have h1 : b ≠ I := fun q => hb' (by simp [q])
      have h2 : b ≠ cenv.locals := fun q => hb' (by simp [q])
      exact hs₃.extBut _ _ h2 (hk₂ _ _ (by simpa using h1) (hk _ _ hb' e))
    have hboff : bx ∉ [I, cenv.locals, D] := by simp [hbI, hbC, hbD]
    have hb₃ : h₃.IsList bx sv.toArray := hb.at fun o e => hk₃ _ _ hboff e
    refine wpAny_bind (hi2 _ _ _ hk₃ ?_)
    refine wpAny_bind (wpAny_standAt (wpAny_bind (wpAny_of_eq (hf2 _) (wpAny_bind (wpAny_holding (wpAny_pyIter_list hb₃ ?_))))))
    have hbx : ∃ o, h₃.get? bx = some o := by obtain ⟨o, e, _⟩ := hb₃; exact ⟨o, e⟩
    have lt₃ : ∀ b o, h₃.get? b = some o → b ≠ h₃.objs.size := fun b o e => Nat.ne_of_lt (Heap.lt_size e)
    have hCs : cenv.locals ≠ h₃.objs.size := Nat.ne_of_lt hn₃.lt
    refine wpAny_bind (wpAny_runOwn ?_)
    have key : codeAny (model prog w) (A.mark none) (.compLoop (.ListComp elt [⟨.Name x1 px1, it1, [], 0⟩, ⟨.Name x2 px2, it2, [], 0⟩] scope pos) 1 (.ref h₃.objs.size) (.ref D) cenv)
        (fun r s' => match r with | .ok f => (fun f' s'' => wpAny (model prog w) A (again (.compLoop (.ListComp elt [⟨.Name x1 px1, it1, [], 0⟩, ⟨.Name x2 px2, it2, [], 0⟩] scope pos) 0 (.ref I) (.ref D) cenv))
          (fun fin s' => match fin with | .done f => R (.ok f) s' | .again c' => c' = (Code.compLoop (.ListComp elt [⟨.Name x1 px1, it1, [], 0⟩, ⟨.Name x2 px2, it2, [], 0⟩] scope pos) 0 (.ref I) (.ref D) cenv) ∧ ∃ m, m < ws.length - i ∧ ∃ h tk i ys m', s' = { s with heap := h, toks := tk } ∧ i ≤ ws.length ∧ m = ws.length - i ∧ (∀ b o, b ∉ [I, cenv.locals, D] → s.heap.get? b = some o → h.get? b = some o) ∧
    (h.IsListIter I ax i ∧ h.IsList ax us.toArray) ∧ h.Ns cenv.locals m' ∧ h.get? D = some (lst ys) ∧ ys.length = i * ss.length ∧ StrsAre ys ((ws.take i).flatMap fun a => ss.map (a ++ ·))) (notedBy (model prog w) A cenv fun e s' => R (.error e) s') s'') f s' | .error e => cameBackBy (model prog w) A cenv (notedBy (model prog w) A cenv fun e s' => R (.error e) s') e s')
        { s with heap := h₃.push { cls := .type "list_iterator", data := .fields #[.ref bx, .int 0 0] }, toks := tk₂ + 1 } := by
      refine comp2_inner (a := a) (ta := ta) (ys0 := ys) (done0 := (ws.take i).flatMap fun a => ss.map (a ++ ·)) hhm hx2 hfun hne (Ne.symm hCs) (Ne.symm (lt₃ _ _ hD₃)) hDC (by obtain ⟨o, e⟩ := hbx; exact lt₃ _ _ e) hbC hbD hs he (fun b hb' => hla a (List.mem_of_getElem? hai) b hb') ?_ _
        ⟨_, Heap.get?_push_size _ rfl, rfl, rfl⟩ (hb₃.push _) (hn₃.push _) (if_pos rfl) (Heap.get?_push_of_some _ hD₃) hys ?_
      · rw [hyl]
        have : (i + 1) * ss.length ≤ ws.length * ss.length := Nat.mul_le_mul_right _ hlt
        rw [Nat.add_mul, Nat.one_mul] at this
        omega
      · intro h₅ tk₅ ys₅ m₅ hk₅ hn₅ hD₅ hy₅
        have up : ∀ b o, b ∉ [cenv.locals, D] → h₃.get? b = some o → h₅.get? b = some o := fun b o hb' e => by
          refine hk₅ _ _ ?_ (Heap.get?_push_of_some _ e)
          intro hm
          rcases List.mem_cons.mp hm with q | q
          · exact lt₃ _ _ e q
          · exact hb' q
        refine wpAny_pure ⟨rfl, ws.length - (i + 1), by omega, h₅, _, i + 1, ys₅, m₅, rfl, hlt, rfl, ?_, ?_, hn₅, hD₅, ?_, ?_⟩
        · intro b o hb' e
          exact up b o (fun q => hb' (List.mem_cons_of_mem _ q)) (hk₃ b o hb' e)
        · refine W.frame _ _ _ st₂ fun c hc o e => ?_
          rcases List.mem_cons.mp hc with rfl | hc
          · exact up _ _ (by simp [hIC, hID]) (hs₃.extBut _ _ hIC e)
          · rw [List.mem_singleton.mp hc] at e ⊢
            exact up _ _ (by simp [haC, haD]) (hs₃.extBut _ _ haC e)
        · have hl := strs_len hy₅
          rw [List.length_append, List.length_map, ← strs_len hys, hyl] at hl
          rw [hl, Nat.add_mul, Nat.one_mul]
        · rw [List.take_add_one, hai, List.flatMap_append]
          simpa using hy₅
    refine compStart_in key ?_
    exact (Walks.list (prog := prog) (w := w) hhm h₃.objs.size bx (by obtain ⟨o, e⟩ := hbx; exact lt₃ _ _ e) sv.toArray).self 0 _ _ _ ⟨⟨_, Heap.get?_push_size _ rfl, rfl, rfl⟩, hb₃.push _⟩ key
  · obtain rfl : i = ws.length := Nat.le_antisymm hi (Nat.not_lt.mp hlt)
    refine W.done _ _ _ st fun h₂ tk₂ hk₂ => ?_
    refine wpAny_pure ?_
    rw [List.take_length] at hys
    refine hR h₂ tk₂ ys m' (fun c o hc e => hk₂ _ _ (fun q => hc (by rw [List.mem_singleton.mp q]; exact List.mem_cons_self)) (hk _ _ hc e)) (hn.at' fun o e => hk₂ _ o (by simpa using Ne.symm hIC) e) (hk₂ _ _ (by simpa using Ne.symm hID) hDg) hys
end
end Mine

end
section
open PySem PySem.W PyProof.Rows PySem.Calls PySem.Spec PyProof.Rows.LCg
set_option Elab.async false
set_option maxRecDepth 100000
set_option maxHeartbeats 1000000
namespace Mine
section
variable {prog : Program} {w : World} {A : Around} {E : Value → Shared → Prop} {s : Shared} {env : Env} {h₀ : Heap} {m : Str → Option Value} {news : List (Addr × Obj)}
theorem assign_comp2 {elt it1 it2 : PySem.Expr} {x1 x2 y : Str} {px1 px2 py : Pos} {scope : Scope} {cl : List (Str × Addr)} {pos spos : Pos} {Q : Flow → Shared → Prop} {ax bx : Addr} {c1 c2 : Nat} {us sv : List Value} {ws ss : List Str}
    (F : Fr h₀ env.locals s.heap m) (N : News h₀ env.locals s.heap news)
    (hsw : swapsWith (.ListComp elt [⟨.Name x1 px1, it1, [], 0⟩, ⟨.Name x2 px2, it2, [], 0⟩] scope pos) (some (.Name y py)) spos.line env = pure true)
    (hclos : closureFor scope env = pure cl) (hcell : ∀ z ∈ scope.names, z.2 ≠ .cell) (hkind : scope.kind = .function)
    (hnames : ∀ z ∈ scope.names, z.2 = .local → scope.names.lookup z.1 = some .local) (hx1 : scope.names.lookup x1 = some .local) (hx2 : scope.names.lookup x2 = some .local) (hne : x1 ≠ x2)
    (hy : env.kindOf y = some .local) (hp : (env.scope.kind == .class || (env.scope.kind == .module && env.locals != env.globals)) = false)
    (hh : A.handled = none) (hhm : (A.mark none).handled = none)
    (hm1 : (ax, listOf (List.toArray us) c1) ∈ news) (hm2 : (bx, listOf (List.toArray sv) c2) ∈ news)
    (hi1 : ∀ Q' : Value → Shared → Prop, Q' (.ref ax) s → wpAny (model prog w) A (eval it1 env) Q' E s) (hs1 : ∀ x, foldedSetIterable it1 env x = pure x)
    (hi2 : ∀ (C : Addr) (s' : Shared) (Q' : Value → Shared → Prop) (E' : Value → Shared → Prop), (∀ p ∈ news, s'.heap.get? p.1 = some p.2) → Q' (.ref bx) s' → wpAny (model prog w) A (eval it2 (compEnvC scope cl C env)) Q' E' s')
    (hf2 : ∀ C x, foldedSetIterable it2 (compEnvC scope cl C env) x = pure x)
    (he : ∀ C, EltCat prog w (A.mark none) elt (compEnvC scope cl C env) x1 x2)
    (hu : StrsAre us ws) (hs : StrsAre sv ss) (hla : ∀ a ∈ ws, ∀ b ∈ ss, a.length + b.length ≤ 1000) (hsz : ws.length * ss.length ≤ sizeLine)
    (done : ∀ D us' c h tk, Fr h₀ env.locals h (fun z => if z = y then some (.ref D) else m z) → News h₀ env.locals h ((D, listOf (List.toArray us') c) :: news) → (∀ p ∈ news, p.1 < D) → StrsAre us' (ws.flatMap fun a => ss.map (a ++ ·)) → Q .next { s with heap := h, toks := tk }) :
    wpAny (model prog w) A (exec (.Assign [.Name y py] (.ListComp elt [⟨.Name x1 px1, it1, [], 0⟩, ⟨.Name x2 px2, it2, [], 0⟩] scope pos) spos) env) Q E s := by
  rw [exec_Assign_Name_used _ _ _ _ hsw]
  refine wpAny_bind (wpAny_standAt (wpAny_bind ?_))
  show wpAny _ A (do let _ ← comprehension (.ListComp elt [⟨.Name x1 px1, it1, [], 0⟩, ⟨.Name x2 px2, it2, [], 0⟩] scope pos) scope env _ (newList []) false (eval it1 env) (some (assign (.Name y py) env))) _ _ s
  refine wpAny_bind (wpAny_mono (wpAny_comprehension_free (use := some (assign (.Name y py) env)) (Q := fun _ s' => Q .next s') rfl hs1 hclos hkind hnames (hi1 _ ?_)) (fun _ s' hq => wpAny_pure (wpAny_pure hq)) fun _ _ e => e)
  have hl1 : s.heap.IsList ax us.toArray := ⟨_, (N _ hm1).1, rfl, c1, rfl⟩
  have hl2 : s.heap.IsList bx sv.toArray := ⟨_, (N _ hm2).1, rfl, c2, rfl⟩
  refine wpAny_pyIter_list hl1 ?_
  refine wpAny_newObj_type (wpAny_newFunctionEnv hcell (by intro y hy; simp at hy) (fun h₁ hns₁ hsb₁ => ?_) hkind)
  dsimp only at hns₁ hsb₁ ⊢
  generalize hI : s.heap.objs.size = I at *
  generalize hH1 : s.heap.push { cls := .type "list_iterator", data := .fields #[.ref ax, .int 0 0] } = H1 at *
  have hH1s : @Eq Nat H1.objs.size (I + 1) := by rw [← hH1, Heap.size_push, hI]
  generalize hDD : H1.objs.size = D at *
  generalize hH2 : H1.push { cls := .type "list", dict := none, data := .seq ([] : List Value).toArray } = H2 at *
  have hH2s : @Eq Nat H2.objs.size (I + 2) := by rw [← hH2, Heap.size_push, hDD]; exact congrArg (· + 1) hH1s
  generalize hCC : H2.objs.size = C at *
  have hDI : @Eq Nat D (I + 1) := hH1s
  have hCI : @Eq Nat C (I + 2) := hH2s
  have old : ∀ (b : Nat) o, s.heap.get? b = some o → @LT.lt Nat _ b I := fun b o e => hI ▸ Heap.lt_size e
  have up1 : ∀ b o, s.heap.get? b = some o → H1.get? b = some o := fun b o e => hH1 ▸ Heap.get?_push_of_some _ e
  have up2 : ∀ b o, H1.get? b = some o → H2.get? b = some o := fun b o e => hH2 ▸ Heap.get?_push_of_some _ e
  have up3 : ∀ b o, H2.get? b = some o → h₁.get? b = some o := fun b o e => hsb₁.extBut b o (fun q => by have := Heap.lt_size e; rw [hCC, q] at this; exact Nat.lt_irrefl _ this) (Heap.get?_push_of_some _ e)
  have up : ∀ b o, s.heap.get? b = some o → h₁.get? b = some o := fun b o e => up3 _ _ (up2 _ _ (up1 _ _ e))
  have hIt : H1.get? I = some { cls := .type "list_iterator", data := .fields #[.ref ax, .int 0 0] } := by rw [← hH1, ← hI]; exact Heap.get?_push_size _ rfl
  have hDt : H2.get? D = some (lst []) := by rw [← hH2, ← hDD]; exact Heap.get?_push_size _ rfl
  have hL : @LT.lt Nat _ env.locals I := by have := F.ns.lt; rw [hI] at this; exact this
  have ax_lt := old _ _ (N _ hm1).1
  have bx_lt := old _ _ (N _ hm2).1
  have fresh : ∀ (a : Nat), @LE.le Nat _ I a → h₀.get? a = none := fun a ha => by
    cases e : h₀.get? a with
    | none => rfl
    | some o' => exact absurd (old _ _ (F.keep a o' e)) (Nat.not_lt.mpr ha)
  have off3 : ∀ {b : Nat}, @LT.lt Nat _ b I → b ∉ [I, (compEnvC scope cl C env).locals, D] := fun {b} hb hm => by
    rcases List.mem_cons.mp hm with q | q
    · exact absurd q (neN (by omega))
    · rcases List.mem_cons.mp q with q | q
      · exact absurd q (show b ≠ C from neN (by omega))
      · exact absurd (List.mem_singleton.mp q) (neN (by omega))
  have W := Walks.list (prog := prog) (w := w) hh I ax (Nat.ne_of_lt ax_lt) us.toArray
  have hitr : h₁.IsListIter I ax 0 := ⟨_, up3 _ _ (up2 _ _ hIt), rfl, rfl⟩
  have loop : codeAny (model prog w) A (.compLoop (.ListComp elt [⟨.Name x1 px1, it1, [], 0⟩, ⟨.Name x2 px2, it2, [], 0⟩] scope pos) 0 (.ref I) (.ref D) (compEnvC scope cl C env))
      (compPost (model prog w) A E (some (assign (.Name y py) env)) (fun _ s' => Q .next s') (.ref D) C) { s with heap := h₁, toks := s.toks + ([] : List (Str × Value)).length } := by
    have hlk1 : (compEnvC scope cl C env).kindOf x1 = some .local := lookup_relabel_local hx1
    have hlk2 : (compEnvC scope cl C env).kindOf x2 = some .local := lookup_relabel_local hx2
    refine comp2_outer (cenv := compEnvC scope cl C env) hh hhm hlk1 hlk2 hkind hne
      (show I ≠ C from neN (by omega)) (neN (by omega)) (show D ≠ C from neN (by omega)) (Nat.ne_of_lt ax_lt) (show ax ≠ C from neN (by omega)) (neN (by omega)) (Nat.ne_of_lt bx_lt) (show bx ≠ C from neN (by omega)) (neN (by omega))
      hu hs (he C) hla hsz _ (fun s' Q' E' hk q => hi2 C s' Q' E' (fun p hp => hk _ _ ?_ (up _ _ (N p hp).1)) q) (hf2 C) hitr (hl1.at fun o e => up _ _ e) (hl2.at fun o e => up _ _ e) hns₁ (up3 _ _ hDt) ?_
    · have := old _ _ (N p hp).1
      exact off3 this
    · intro h' tk ys m' hk hn hD hys
      show wpAny _ A (assign (.Name y py) env (.ref D)) _ _ _
      have keep : ∀ b o, s.heap.get? b = some o → h'.get? b = some o := fun b o e => hk _ _ (by
        exact off3 (old _ _ e)) (up _ _ e)
      have F' : Fr h₀ env.locals h' m := F.keeps keep
      refine wpAny_assign_Name (wpAny_storeName_local hy F'.ns (fun h₂ hn₂ hs₂ => ?_) hp)
      have hL₀ : h₀.get? env.locals = none := Heap.get?_none_of_le F'.above
      have F₂ : Fr h₀ env.locals h₂ (fun z => if z = y then some (.ref D) else m z) := ⟨hn₂, fun b o e => hs₂.extBut b o (fun q => by rw [q, hL₀] at e; cases e) (F'.keep b o e), F'.above⟩
      have hCL : C ≠ env.locals := neN (by omega)
      have hn' : h'.Ns C m' := hn
      refine ⟨m', hn'.sameBut hs₂ hCL, fun h'' hs'' => done D ys ys.length h'' _ (F₂.change hs'' hCL (fresh C (show @LE.le Nat _ I C by omega))) (fun p hp => ?_) (fun p hp => ltN (by have := old _ _ (N p hp).1; omega)) hys⟩
      rcases List.mem_cons.mp hp with rfl | hp
      · exact ⟨hs''.extBut _ _ (show D ≠ C from neN (by omega)) (hs₂.extBut _ _ (show D ≠ env.locals from neN (by omega)) hD), (show D ≠ env.locals from neN (by omega)), fresh D (show @LE.le Nat _ I D by omega)⟩
      · have := old _ _ (N p hp).1
        exact ⟨hs''.extBut _ _ (show p.1 ≠ C from neN (by omega)) (hs₂.extBut _ _ (N p hp).2.1 (keep _ _ (N p hp).1)), (N p hp).2⟩
  exact codeAny_compStart_list loop (W.self 0 _ _ _ ⟨hitr, hl1.at fun o e => up _ _ e⟩ loop)
end
end Mine

end
section
open PySem PySem.W PyProof.Rows PySem.Calls PySem.Spec PyProof.Rows.LCg
set_option Elab.async false
set_option maxRecDepth 100000
set_option maxHeartbeats 1000000
namespace Mine
section
variable {prog : Program} {w : World} {A : Around} {E : Value → Shared → Prop} {s : Shared} {env : Env} {h₀ : Heap} {L r : Addr} {m₀ : Str → Option Value} {news : List (Addr × Obj)} {body : List Stmt} {Q : Flow → Shared → Prop}
    {a1 a2 a3 : Tok} {x : Str}
/-- a turn of a loop over a range has ended -/
def GEnd (h₀ : Heap) (L : Addr) (I : Addr) (oI : Obj) (J : (Str → Option Value) → List (Addr × Obj) → Prop) (s : Shared) (Q : Flow → Shared → Prop) (fl : Flow) (s' : Shared) : Prop :=
  (∃ v, fl = .ret v ∧ Q fl s') ∨ fl = .next ∧ ∃ h tk m news', s' = { s with heap := h, toks := tk } ∧ Fr h₀ L h m ∧ News h₀ L h ((I, oI) :: news') ∧ (∀ p ∈ news', p.1 ≠ I) ∧ J m news'
theorem range_loopG {n : Nat} (J : Nat → (Str → Option Value) → List (Addr × Obj) → Prop)
    (hL : env.locals = L) (hh : A.handled = none) (hr : IsRange s.heap r 0 (n : Int) 1 a1 a2 a3) (hn : n ≤ 1000)
    (F : Fr h₀ L s.heap m₀) (N : News h₀ L s.heap news) (hj : J 0 m₀ news)
    (turn : ∀ (i : Nat) (t : Tok) m₁ news₁ h tk I oI, i < n → J i m₁ news₁ → (∀ p ∈ news₁, p.1 ≠ I) → Fr h₀ L h (fun y => if y = x then some (.int (i : Int) t) else m₁ y) → News h₀ L h ((I, oI) :: news₁) →
      wpAny (model prog w) A (execs body env) (GEnd h₀ L I oI (J (i + 1)) s Q) E { s with heap := h, toks := tk })
    (done : ∀ m₁ news₁ h tk, J n m₁ news₁ → Fr h₀ L h m₁ → News h₀ L h news₁ → Q .next { s with heap := h, toks := tk }) :
    wpAny (model prog w) A (pyIter (.ref r)) (fun it s₂ => LoopAtV prog w A h₀ env x body Q E it s₂) E s := by
  subst hL
  have hsz : Builtin.Range.rangeSize 0 (n : Int) 1 = (n : Int) := by rw [rangeSize_nat]; omega
  refine wpAny_pyIter_range hr (small_one (by omega) (by omega) (by omega) (by omega)) ?_
  have W : Walks prog w A s.heap.objs.size [s.heap.objs.size] [s.heap.objs.size] n (fun i v => i < n ∧ ∃ t, v = .int (0 + i * 1) t)
      (fun i h => IsRangeIter h s.heap.objs.size (0 + (i : Nat) * 1) ((n : Int) - (i : Nat)) 1) := (Walks.range hh _ 0 1 n).bound
  have hfresh : h₀.get? s.heap.objs.size = none := next_is_new F
  refine ⟨_, _, _, n, _, _, m₀, news, J, rfl, W, ?_, ?_, ?_, ?_, F.push _, (fun p hp => ⟨Heap.get?_push_of_some _ (N p hp).1, (N p hp).2⟩), hj, ?_, ?_⟩
  · intro hm
    exact absurd F.ns.lt ((List.mem_singleton.mp hm) ▸ Nat.lt_irrefl _)
  · intro b hb
    rw [List.mem_singleton.mp hb]
    exact hfresh
  · intro p hp hI
    exact absurd (Heap.lt_size (N p hp).1) ((List.mem_singleton.mp hI) ▸ Nat.lt_irrefl _)
  · show IsRangeIter _ _ _ _ _
    rw [hsz]
    simpa using Heap.get?_push_size _ rfl
  · rintro i v m₁ news₁ s₁ own ⟨hh', tk', rfl⟩ hi ⟨_, t, rfl⟩ hJ hoff hown hget hfp hst F₁ N₁
    have e1 : (0 : Int) + (i : Int) * 1 = (i : Int) := by omega
    rw [e1] at F₁
    have hit : ∃ oI, hh'.get? s.heap.objs.size = some oI := ⟨_, hst⟩
    obtain ⟨oI, hoI⟩ := hit
    have hin : (s.heap.objs.size, oI) ∈ own := hfp _ List.mem_cons_self hfresh _ hoI
    have N₂ : News h₀ env.locals hh' ((s.heap.objs.size, oI) :: news₁) := fun p hp => by
      rcases List.mem_cons.mp hp with rfl | hp
      · exact N₁ _ (List.mem_append.mpr (.inl hin))
      · exact N₁ _ (List.mem_append.mpr (.inr hp))
    refine wpAny_mono (turn i t m₁ news₁ hh' tk' s.heap.objs.size oI hi hJ (fun p hp q => hoff p hp (List.mem_singleton.mpr q)) F₁ N₂) (fun fl s₂ q => ?_) fun _ _ x => x
    rcases q with ⟨v, rfl, q⟩ | ⟨rfl, h', tk, m', news', rfl, F', N', hne, hJ'⟩
    · exact .ret q
    · refine .next ⟨rfl, h', tk, m', news', rfl, F', fun p hp => ?_, fun p hp q => hne p hp (List.mem_singleton.mp q), hJ'⟩
      rcases List.mem_append.mp hp with hp | hp
      · have h1 : p.1 = s.heap.objs.size := List.mem_singleton.mp (hown p hp)
        have h2 := hget p hp
        rw [h1, hoI] at h2
        have h3 : p = (s.heap.objs.size, oI) := Prod.ext h1 (Option.some.inj h2).symm
        rw [h3]
        exact N' _ List.mem_cons_self
      · exact N' _ (List.mem_cons_of_mem _ hp)
  · rintro h' tk m' news' F' N' _ hJ
    exact done m' news' h' tk hJ F' N'

/-- the words of so many signs, as the law makes them -/
def wordsF (ss : List Str) : Nat → List Str
  | 0 => [Str.ofString ""]
  | k + 1 => (wordsF ss k).flatMap fun w => ss.map (w ++ ·)
def WEnd (h₀ : Heap) (L : Addr) (I : Addr) (oI : Obj) (m₀ : Str → Option Value) (news : List (Addr × Obj)) (ss : List Str) (i : Nat) (s : Shared) (fl : Flow) (s' : Shared) : Prop :=
  fl = .next ∧ ∃ D us c h tk m', s' = { s with heap := h, toks := tk } ∧ Fr h₀ L h m' ∧ News h₀ L h ((I, oI) :: (D, listOf (List.toArray us) c) :: news) ∧ D ≠ I ∧ (∀ p ∈ news, p.1 < D) ∧ StrsAre us (wordsF ss (i + 1)) ∧ (∀ z, z ≠ Str.ofString "k" → m' z = if z = Str.ofString "words" then some (.ref D) else m₀ z)
theorem wEnd_of {I D D' : Addr} {oI o : Obj} {ss : List Str} {i c' : Nat} {us' : List Value} {m' : Str → Option Value} {h' : Heap} {tk : Nat}
    (F : Fr h₀ L h' m') (N : News h₀ L h' ((D', listOf (List.toArray us') c') :: (I, oI) :: (D, o) :: news)) (hne : ∀ p ∈ (I, oI) :: (D, o) :: news, p.1 < D') (hs : StrsAre us' (wordsF ss (i + 1))) (hz : ∀ z, z ≠ Str.ofString "k" → m' z = if z = Str.ofString "words" then some (.ref D') else m₀ z) :
    WEnd h₀ L I oI m₀ news ss i s .next { s with heap := h', toks := tk } := by
  refine ⟨rfl, D', us', c', h', tk, m', rfl, F, fun p hp => ?_, fun q => absurd (hne _ List.mem_cons_self) (by rw [q]; exact Nat.lt_irrefl _), fun p hp => hne p (List.mem_cons_of_mem _ (List.mem_cons_of_mem _ hp)), hs, hz⟩
  rcases List.mem_cons.mp hp with rfl | hp
  · exact N _ (List.mem_cons_of_mem _ List.mem_cons_self)
  · rcases List.mem_cons.mp hp with rfl | hp
    · exact N _ List.mem_cons_self
    · exact N _ (List.mem_cons_of_mem _ (List.mem_cons_of_mem _ (List.mem_cons_of_mem _ hp)))
theorem words_loop {sv : List Value} {n : Nat} {D₀ : Addr} {us₀ : List Value} {c₀ : Nat} {ss : List Str}
    (hL : env.locals = L) (hh : A.handled = none) (hr : IsRange s.heap r 0 (n : Int) 1 a1 a2 a3) (hn : n ≤ 1000)
    (F : Fr h₀ L s.heap m₀) (N : News h₀ L s.heap ((D₀, listOf (List.toArray us₀) c₀) :: news)) (hw : m₀ (Str.ofString "words") = some (.ref D₀)) (hi : StrsAre us₀ [Str.ofString ""]) (_hs : StrsAre sv ss) (hlt : ∀ p ∈ news, p.1 < D₀)
    (turn : ∀ (i : Nat) (t : Tok) D us c h tk I oI, i < n → (∀ p ∈ news, p.1 ≠ I) → StrsAre us (wordsF ss i) → Fr h₀ L h (fun y => if y = Str.ofString "k" then some (.int (i : Int) t) else if y = Str.ofString "words" then some (.ref D) else m₀ y) → News h₀ L h ((I, oI) :: (D, listOf (List.toArray us) c) :: news) →
      wpAny (model prog w) A (execs body env) (WEnd h₀ L I oI m₀ news ss i s) E { s with heap := h, toks := tk })
    (done : ∀ D us c (u : Str → Option Value) h tk, (∀ p ∈ news, p.1 < D) → StrsAre us (wordsF ss n) → Fr h₀ L h (fun y => if y = Str.ofString "k" then u y else if y = Str.ofString "words" then some (.ref D) else m₀ y) → News h₀ L h ((D, listOf (List.toArray us) c) :: news) → Q .next { s with heap := h, toks := tk }) :
    wpAny (model prog w) A (pyIter (.ref r)) (fun it s₂ => LoopAtV prog w A h₀ env (Str.ofString "k") body Q E it s₂) E s := by
  refine range_loopG (fun i m nx => ∃ D us c, nx = (D, listOf (List.toArray us) c) :: news ∧ (∀ p ∈ news, p.1 < D) ∧ StrsAre us (wordsF ss i) ∧ (∀ z, z ≠ Str.ofString "k" → m z = if z = Str.ofString "words" then some (.ref D) else m₀ z)) hL hh hr hn F N
    ⟨D₀, us₀, c₀, rfl, hlt, hi, fun z hz => by by_cases h : z = Str.ofString "words" <;> simp [h, hw]⟩ ?_ ?_
  · rintro i t m₁ news₁ h tk I oI hi' ⟨D, us, c, rfl, hlt', hus, hz⟩ hne F₁ N₁
    have em : (fun y => if y = Str.ofString "k" then some (Value.int (i : Int) t) else m₁ y) = (fun y => if y = Str.ofString "k" then some (.int (i : Int) t) else if y = Str.ofString "words" then some (.ref D) else m₀ y) := by
      funext y
      by_cases hy : y = Str.ofString "k"
      · rw [if_pos hy, if_pos hy]
      · rw [if_neg hy, if_neg hy, hz y hy]
    refine wpAny_mono (turn i t D us c h tk I oI hi' (fun p hp => hne p (List.mem_cons_of_mem _ hp)) hus (em ▸ F₁) N₁) (fun fl s₂ q => ?_) fun _ _ x => x
    obtain ⟨rfl, D', us', c', h', tk', m', rfl, F', N', hD, hlt2, hus', hz'⟩ := q
    refine .inr ⟨rfl, h', tk', m', _, rfl, F', N', fun p hp => ?_, D', us', c', rfl, hlt2, hus', hz'⟩
    rcases List.mem_cons.mp hp with rfl | hp
    · exact hD
    · exact hne p (List.mem_cons_of_mem _ hp)
  · rintro m₁ news₁ h tk ⟨D, us, c, rfl, hlt', hus, hz⟩ F₁ N₁
    have em : m₁ = (fun y => if y = Str.ofString "k" then m₁ y else if y = Str.ofString "words" then some (.ref D) else m₀ y) := by
      funext y
      by_cases hy : y = Str.ofString "k"
      · rw [if_pos hy]
      · rw [if_neg hy, hz y hy]
    exact done D us c m₁ h tk hlt' hus (em ▸ F₁) N₁

/-- one list of ints that a loop over a range fills -/
def TEnd (h₀ : Heap) (L : Addr) (I : Addr) (oI : Obj) (m₀ : Str → Option Value) (news : List (Addr × Obj)) (D : Addr) (x : Str) (f : Nat → List Int) (i : Nat) (s : Shared) (fl : Flow) (s' : Shared) : Prop :=
  fl = .next ∧ ∃ us c h tk m', s' = { s with heap := h, toks := tk } ∧ Fr h₀ L h m' ∧ News h₀ L h ((I, oI) :: (D, listOf (List.toArray us) c) :: news) ∧ IntsAre us (f (i + 1)) ∧ (∀ z, z ≠ x → m' z = m₀ z)
theorem fill_loop {n : Nat} {D : Addr} {us₀ : List Value} {c₀ : Nat} (f : Nat → List Int)
    (hL : env.locals = L) (hh : A.handled = none) (hr : IsRange s.heap r 0 (n : Int) 1 a1 a2 a3) (hn : n ≤ 1000)
    (F : Fr h₀ L s.heap m₀) (N : News h₀ L s.heap ((D, listOf (List.toArray us₀) c₀) :: news)) (hi : IntsAre us₀ (f 0))
    (turn : ∀ (i : Nat) (t : Tok) us c h tk I oI, i < n → (∀ p ∈ news, p.1 ≠ I) → D ≠ I → IntsAre us (f i) → Fr h₀ L h (fun y => if y = x then some (.int (i : Int) t) else m₀ y) → News h₀ L h ((I, oI) :: (D, listOf (List.toArray us) c) :: news) →
      wpAny (model prog w) A (execs body env) (TEnd h₀ L I oI m₀ news D x f i s) E { s with heap := h, toks := tk })
    (done : ∀ us c (u : Str → Option Value) h tk, IntsAre us (f n) → Fr h₀ L h (fun y => if y = x then u y else m₀ y) → News h₀ L h ((D, listOf (List.toArray us) c) :: news) → Q .next { s with heap := h, toks := tk }) :
    wpAny (model prog w) A (pyIter (.ref r)) (fun it s₂ => LoopAtV prog w A h₀ env x body Q E it s₂) E s := by
  refine range_loopG (fun i m nx => ∃ us c, nx = (D, listOf (List.toArray us) c) :: news ∧ IntsAre us (f i) ∧ (∀ z, z ≠ x → m z = m₀ z)) hL hh hr hn F N
    ⟨us₀, c₀, rfl, hi, fun z hz => rfl⟩ ?_ ?_
  · rintro i t m₁ news₁ h tk I oI hi' ⟨us, c, rfl, hus, hz⟩ hne F₁ N₁
    have em : (fun y => if y = x then some (Value.int (i : Int) t) else m₁ y) = (fun y => if y = x then some (.int (i : Int) t) else m₀ y) := by
      funext y
      by_cases hy : y = x
      · rw [if_pos hy, if_pos hy]
      · rw [if_neg hy, if_neg hy, hz y hy]
    refine wpAny_mono (turn i t us c h tk I oI hi' (fun p hp => hne p (List.mem_cons_of_mem _ hp)) (hne _ List.mem_cons_self) hus (em ▸ F₁) N₁) (fun fl s₂ q => ?_) fun _ _ x => x
    obtain ⟨rfl, us', c', h', tk', m', rfl, F', N', hus', hz'⟩ := q
    refine .inr ⟨rfl, h', tk', m', _, rfl, F', N', fun p hp => ?_, us', c', rfl, hus', hz'⟩
    rcases List.mem_cons.mp hp with rfl | hp
    · exact hne (D, listOf (List.toArray us) c) List.mem_cons_self
    · exact hne p (List.mem_cons_of_mem _ hp)
  · rintro m₁ news₁ h tk ⟨us, c, rfl, hus, hz⟩ F₁ N₁
    have em : m₁ = (fun y => if y = x then m₁ y else m₀ y) := by
      funext y
      by_cases hy : y = x
      · rw [if_pos hy]
      · rw [if_neg hy, hz y hy]
    exact done us c m₁ h tk hus (em ▸ F₁) N₁

/-- one int that a loop over a range reckons -/
def NEnd (h₀ : Heap) (L : Addr) (I : Addr) (oI : Obj) (m₀ : Str → Option Value) (news : List (Addr × Obj)) (x nm : Str) (f : Nat → Int) (i : Nat) (s : Shared) (fl : Flow) (s' : Shared) : Prop :=
  fl = .next ∧ ∃ v t h tk m', s' = { s with heap := h, toks := tk } ∧ Fr h₀ L h m' ∧ News h₀ L h ((I, oI) :: news) ∧ m' nm = some (.int v t) ∧ v = f (i + 1) ∧ (∀ z, z ≠ x → z ≠ nm → m' z = m₀ z)
theorem count_loop {n : Nat} {v₀ : Int} {t₀ : Tok} (nm : Str) (f : Nat → Int)
    (hL : env.locals = L) (hh : A.handled = none) (hr : IsRange s.heap r 0 (n : Int) 1 a1 a2 a3) (hn : n ≤ 1000)
    (F : Fr h₀ L s.heap m₀) (N : News h₀ L s.heap news) (hv : m₀ nm = some (.int v₀ t₀)) (hv0 : v₀ = f 0) (hne : nm ≠ x)
    (turn : ∀ (i : Nat) (t tc : Tok) h tk I oI, i < n → (∀ p ∈ news, p.1 ≠ I) → Fr h₀ L h (fun y => if y = x then some (.int (i : Int) t) else if y = nm then some (.int (f i) tc) else m₀ y) → News h₀ L h ((I, oI) :: news) →
      wpAny (model prog w) A (execs body env) (NEnd h₀ L I oI m₀ news x nm f i s) E { s with heap := h, toks := tk })
    (done : ∀ tc (u : Str → Option Value) h tk, Fr h₀ L h (fun y => if y = x then u y else if y = nm then some (.int (f n) tc) else m₀ y) → News h₀ L h news → Q .next { s with heap := h, toks := tk }) :
    wpAny (model prog w) A (pyIter (.ref r)) (fun it s₂ => LoopAtV prog w A h₀ env x body Q E it s₂) E s := by
  refine range_loopG (fun i m nx => ∃ tc, nx = news ∧ (∀ z, z ≠ x → m z = if z = nm then some (.int (f i) tc) else m₀ z)) hL hh hr hn F N
    ⟨t₀, rfl, fun z hz => by by_cases h : z = nm <;> simp [h, hv, hv0]⟩ ?_ ?_
  · rintro i t m₁ news₁ h tk I oI hi' ⟨tc, rfl, hz⟩ hne' F₁ N₁
    have em : (fun y => if y = x then some (Value.int (i : Int) t) else m₁ y) = (fun y => if y = x then some (.int (i : Int) t) else if y = nm then some (.int (f i) tc) else m₀ y) := by
      funext y
      by_cases hy : y = x
      · rw [if_pos hy, if_pos hy]
      · rw [if_neg hy, if_neg hy, hz y hy]
    refine wpAny_mono (turn i t tc h tk I oI hi' hne' (em ▸ F₁) N₁) (fun fl s₂ q => ?_) fun _ _ x => x
    obtain ⟨rfl, v, tv, h', tk', m', rfl, F', N', hm, hvv, hz'⟩ := q
    refine .inr ⟨rfl, h', tk', m', _, rfl, F', N', hne', tv, rfl, fun z hz => ?_⟩
    by_cases hy : z = nm
    · rw [if_pos hy, hy, hm, hvv]
    · rw [if_neg hy, hz' z hz hy]
  · rintro m₁ news₁ h tk ⟨tc, rfl, hz⟩ F₁ N₁
    have em : m₁ = (fun y => if y = x then m₁ y else if y = nm then some (.int (f n) tc) else m₀ y) := by
      funext y
      by_cases hy : y = x
      · rw [if_pos hy]
      · rw [if_neg hy, hz y hy]
    exact done tc m₁ h tk (em ▸ F₁) N₁
end
end Mine

end
section
open PySem PySem.W PyProof.Rows PySem.Calls PySem.Spec PyProof.Rows.LCg
set_option Elab.async false
set_option maxRecDepth 100000
set_option maxHeartbeats 1000000
namespace Mine
theorem fr_clean1 {h₀ h : Heap} {L : Addr} {m : Str → Option Value} (F : Fr h₀ L h m) {a : Str} {va : Value} (e : m = fun z => List.lookup z [(a, va)]) :
    Fr h₀ L h (fun z => if z = a then some va else none) := by
  have em : (fun z => if z = a then some va else none) = m := by
    rw [e]; funext z; rw [lookup_if]; rfl
  rw [em]; exact F
def runsN (x : Str) : Nat → Int
  | 0 => 0
  | i + 1 => if (i : Int) = 0 ∨ Txt.item x (i : Int) ≠ Txt.item x ((i : Int) - 1) then runsN x i + 1 else runsN x i
def runsF (x : Str) : Int := runsN x x.length
def toldAt (x : Str) (ws : List Str) (b : Int) (k : Nat) : Int := if k % 2 = 0 then lev x (ws.getD k Str.empty) b else lev (ws.getD k Str.empty) x b
def toldF (x : Str) (ws : List Str) (b : Int) (n : Nat) : List Int := (List.range n).map (toldAt x ws b)
theorem toldF_succ {x : Str} {ws : List Str} {b : Int} {n : Nat} : toldF x ws b (n + 1) = toldF x ws b n ++ [toldAt x ws b n] := by
  unfold toldF; rw [List.range_succ, List.map_append]; rfl
theorem runs_up0 {x : Str} {i : Nat} (h : ((i : Nat) : Int) = 0) : runsN x i + 1 = runsN x (i + 1) := by
  rw [runsN, if_pos (.inl h)]
theorem runs_up {x : Str} {i : Nat} (h : (Txt.item x (i : Int) != Txt.item x ((i : Int) - 1)) = true) : runsN x i + 1 = runsN x (i + 1) := by
  rw [runsN, if_pos (.inr (bne_iff_ne.mp h))]
theorem runs_same {x : Str} {i : Nat} (h0 : ((i : Nat) : Int) ≠ 0) (h : (Txt.item x (i : Int) != Txt.item x ((i : Int) - 1)) = false) : runsN x i = runsN x (i + 1) := by
  rw [runsN, if_neg]
  rintro (q | q)
  · exact h0 q
  · exact q (by simpa using h)
section
variable {prog : Program} {w : World} {A : Around} {E : Value → Shared → Prop} {s : Shared} {env : Env} {h₀ : Heap} {L r : Addr} {m₀ : Str → Option Value} {news : List (Addr × Obj)} {body : List Stmt} {Q : Flow → Shared → Prop}
    {a1 a2 a3 : Tok} {x : Str}
theorem runs_loop {n : Nat} {v₀ : Int} {t₀ tx : Tok}
    (hL : env.locals = L) (hh : A.handled = none) (hr : IsRange s.heap r 0 (n : Int) 1 a1 a2 a3) (hn : n ≤ 1000)
    (F : Fr h₀ L s.heap m₀) (N : News h₀ L s.heap news) (hv : m₀ (Str.ofString "count") = some (.int v₀ t₀)) (hv0 : v₀ = 0) (_hw : m₀ (Str.ofString "word") = some (.str x tx))
    (turn : ∀ (i : Nat) (t tc : Tok) h tk I oI, i < n → (∀ p ∈ news, p.1 ≠ I) → Fr h₀ L h (fun y => if y = Str.ofString "k" then some (.int (i : Int) t) else if y = Str.ofString "count" then some (.int (runsN x i) tc) else m₀ y) → News h₀ L h ((I, oI) :: news) →
      wpAny (model prog w) A (execs body env) (NEnd h₀ L I oI m₀ news (Str.ofString "k") (Str.ofString "count") (runsN x) i s) E { s with heap := h, toks := tk })
    (done : ∀ tc (u : Str → Option Value) h tk, Fr h₀ L h (fun y => if y = Str.ofString "k" then u y else if y = Str.ofString "count" then some (.int (runsN x n) tc) else m₀ y) → News h₀ L h news → Q .next { s with heap := h, toks := tk }) :
    wpAny (model prog w) A (pyIter (.ref r)) (fun it s₂ => LoopAtV prog w A h₀ env (Str.ofString "k") body Q E it s₂) E s :=
  count_loop (Str.ofString "count") (runsN x) hL hh hr hn F N hv hv0 (by decide) turn done
theorem nEnd_of {nm : Str} {f : Nat → Int} {i : Nat} {I : Addr} {oI : Obj} {m' : Str → Option Value} {h' : Heap} {tk : Nat} {v : Int} {t : Tok}
    (F : Fr h₀ L h' m') (N : News h₀ L h' ((I, oI) :: news)) (hv : m' nm = some (.int v t)) (e : v = f (i + 1)) (hz : ∀ z, z ≠ x → z ≠ nm → m' z = m₀ z) :
    NEnd h₀ L I oI m₀ news x nm f i s .next { s with heap := h', toks := tk } := ⟨rfl, v, t, h', tk, m', rfl, F, N, hv, e, hz⟩

theorem told_loop {n : Nat} {D : Addr} {us₀ : List Value} {c₀ : Nat} {b : Int} {tx tb : Tok} {wv : List Value} {ws : List Str}
    (hL : env.locals = L) (hh : A.handled = none) (hr : IsRange s.heap r 0 (n : Int) 1 a1 a2 a3) (hn : n ≤ 1000)
    (F : Fr h₀ L s.heap m₀) (N : News h₀ L s.heap ((D, listOf (List.toArray us₀) c₀) :: news)) (hi : IntsAre us₀ [])
    (_h1 : m₀ (Str.ofString "word") = some (.str x tx)) (_h2 : m₀ (Str.ofString "bound") = some (.int b tb)) (_h3 : StrsAre wv ws)
    (turn : ∀ (i : Nat) (t : Tok) us c h tk I oI, i < n → (∀ p ∈ news, p.1 ≠ I) → I ≠ D → IntsAre us (toldF x ws b i) → us.length = i → Fr h₀ L h (fun y => if y = Str.ofString "k" then some (.int (i : Int) t) else m₀ y) → News h₀ L h ((I, oI) :: (D, listOf (List.toArray us) c) :: news) →
      wpAny (model prog w) A (execs body env) (TEnd h₀ L I oI m₀ news D (Str.ofString "k") (toldF x ws b) i s) E { s with heap := h, toks := tk })
    (done : ∀ us c (u : Str → Option Value) h tk, IntsAre us (toldF x ws b n) → Fr h₀ L h (fun y => if y = Str.ofString "k" then u y else m₀ y) → News h₀ L h ((D, listOf (List.toArray us) c) :: news) → Q .next { s with heap := h, toks := tk }) :
    wpAny (model prog w) A (pyIter (.ref r)) (fun it s₂ => LoopAtV prog w A h₀ env (Str.ofString "k") body Q E it s₂) E s :=
  fill_loop (toldF x ws b) hL hh hr hn F N hi (fun i t us c h tk I oI hi1 hi2 hi3 hi4 => turn i t us c h tk I oI hi1 hi2 (Ne.symm hi3) hi4 (by rw [hi4.length]; simp [toldF])) done
theorem tEnd_of {D : Addr} {f : Nat → List Int} {i : Nat} {I : Addr} {oI : Obj} {m' : Str → Option Value} {h' : Heap} {tk : Nat} {us : List Value} {c : Nat} {v : Value}
    (F : Fr h₀ L h' m') (N : News h₀ L h' ((I, oI) :: (D, listOf ((List.toArray us).push v) c) :: news)) (hi : IntsAre (us ++ [v]) (f (i + 1))) (hz : ∀ z, z ≠ x → m' z = m₀ z) :
    TEnd h₀ L I oI m₀ news D x f i s .next { s with heap := h', toks := tk } := ⟨rfl, us ++ [v], c, h', tk, m', rfl, F, by rw [List.push_toArray] at N; exact N, hi, hz⟩
theorem told_even {ws : List Str} {b : Int} {i : Nat} {us : List Value} {t : Tok} (h : IntsAre us (toldF x ws b i)) (h2 : (i : Int).fmod 2 = 0) : IntsAre (us ++ [.int (lev x (ws.getD i Str.empty) b) t]) (toldF x ws b (i + 1)) := by
  rw [toldF_succ]
  have : toldAt x ws b i = lev x (ws.getD i Str.empty) b := by unfold toldAt; rw [if_pos (by rw [Int.fmod_eq_emod_of_nonneg _ (by decide)] at h2; omega)]
  rw [this]
  exact IntsAre.append h (.cons _ _ .nil)
theorem told_odd {ws : List Str} {b : Int} {i : Nat} {us : List Value} {t : Tok} (h : IntsAre us (toldF x ws b i)) (h2 : (i : Int).fmod 2 ≠ 0) : IntsAre (us ++ [.int (lev (ws.getD i Str.empty) x b) t]) (toldF x ws b (i + 1)) := by
  rw [toldF_succ]
  have : toldAt x ws b i = lev (ws.getD i Str.empty) x b := by unfold toldAt; rw [if_neg (by rw [Int.fmod_eq_emod_of_nonneg _ (by decide)] at h2; omega)]
  rw [this]
  exact IntsAre.append h (.cons _ _ .nil)
theorem sub_words {value slice : PySem.Expr} {lw : Addr} {led : List (Addr × Obj)} {wv : List Value} {ws : List Str} {cw i : Nat} {u : Tok} {Q : Value → Shared → Prop} (N : News h₀ L s.heap led) (hm : (lw, listOf (List.toArray wv) cw) ∈ led) (hi : StrsAre wv ws) (h1 : i < ws.length) (hfit : i < 1000) (hlen : ∀ y ∈ ws, y.length ≤ 40)
    (h : ∀ t', (ws.getD i Str.empty).length ≤ 40 → Q (.str (ws.getD i Str.empty) t') s)
    (hs : subscripted slice false (.ref lw) (.int (i : Int) u) = operate [.ref lw, .int (i : Int) u] (getItem (.ref lw) (.int (i : Int) u))) (hg : ∀ r, letTemporaryGo value (.ref lw) r = pure ()) :
    wpAny (model prog w) A (subscriptTail value slice (.ref lw) (.int (i : Int) u)) Q E s := by
  refine item_strsA (k := (i : Int)) ⟨_, (N _ hm).1, rfl, cw, rfl⟩ hi (by omega) (by omega) (by omega) (fun t' => ?_) hs hg
  rw [Int.toNat_natCast]
  exact h t' (hlen _ (strs_getD_mem h1))
theorem len_words {lw : Addr} {led : List (Addr × Obj)} {wv : List Value} {ws : List Str} {cw : Nat} {Q : Value → Shared → Prop} (N : News h₀ L s.heap led) (hm : (lw, listOf (List.toArray wv) cw) ∈ led) (hi : StrsAre wv ws) (hn : ws.length ≤ 1000)
    (h : ∀ t tk', Q (.int (ws.length : Int) t) { s with toks := tk' }) : wpAny (model prog w) A (call (.builtin "len") [.ref lw]) Q E s := by
  have e : wv.toArray.size = ws.length := by rw [List.size_toArray]; exact strs_len hi
  refine len_list (items := wv.toArray) ⟨_, (N _ hm).1, rfl, cw, rfl⟩ (by rw [e]; omega) ?_
  rw [e]
  exact h _ _
end
end Mine

end
section
open PySem PySem.W PyProof.Rows PySem.Calls PySem.Spec PyProof.Rows.LCg
set_option Elab.async false
set_option maxRecDepth 100000
set_option maxHeartbeats 1000000
namespace Mine
section
variable {prog : Program} {w : World} {A : Around}
theorem elt_cat {x1 x2 : Str} {p1 p2 p : Pos} {cenv : Env} (h1 : cenv.kindOf x1 = some .local) (h2 : cenv.kindOf x2 = some .local) (hk : cenv.scope.kind = .function) (d1 : (x1 == ("__debug__" : Str)) = false) (d2 : (x2 == ("__debug__" : Str)) = false) :
    EltCat prog w A (.BinOp (.Name x1 p1) .Add (.Name x2 p2) p) cenv x1 x2 := by
  intro s Q E m' a b ta tb hns hx1 hx2 hlen q
  refine wpAny_BinOp ?_
  refine wpAny_Name (wpAny_loadName_local hk h1 hns hx1 ?_) d1
  refine wpAny_Name (wpAny_loadName_local hk h2 hns hx2 ?_) d2
  exact PyProof.Rows.add_str (hsz := by show _ ≤ 2 ^ 24; omega) fun t' tk => q t' tk
theorem cell_read {x : Str} {p : Pos} {cenv : Env} {c : Addr} {v : Value} {s : Shared} {Q : Value → Shared → Prop} {E : Value → Shared → Prop} {o : Obj} (hk : cenv.scope.kind = .function) (hl : cenv.kindOf x = some .cell) (hc : cenv.cells.lookup x = some c) (ho : s.heap.get? c = some o) (hd : o.data = .cell (some v)) (d : (x == ("__debug__" : Str)) = false) (q : Q v s) :
    wpAny (model prog w) A (eval (.Name x p) cenv) Q E s :=
  wpAny_Name (wpAny_loadName_cell hk hl hc ⟨o, ho, hd⟩ q) d
theorem words_len {ss : List Str} (h : ∀ y ∈ ss, y.length ≤ 1) : ∀ (i : Nat), ∀ w ∈ wordsF ss i, w.length ≤ i
  | 0, w, hw => by
    rw [wordsF, List.mem_singleton] at hw
    subst hw
    decide
  | i + 1, w, hw => by
    rw [wordsF, List.mem_flatMap] at hw
    obtain ⟨a, ha, hw⟩ := hw
    obtain ⟨b, hb, rfl⟩ := List.mem_map.mp hw
    have h1 := words_len h i a ha
    have h2 := h b hb
    rw [Str.length_append]
    omega
theorem words_num {ss : List Str} (h : ss.length ≤ 3) : ∀ (i : Nat), (wordsF ss i).length ≤ 3 ^ i
  | 0 => by simp [wordsF]
  | i + 1 => by
    have ih := words_num h i
    have e : (wordsF ss (i + 1)).length = (wordsF ss i).length * ss.length := by
      rw [wordsF, List.length_flatMap]
      simp only [List.length_map]
      induction wordsF ss i with
      | nil => simp
      | cons a r ih => rw [List.map_cons, List.sum_cons, ih, List.length_cons, Nat.add_mul, Nat.one_mul, Nat.add_comm]
    rw [e, Nat.pow_succ]
    exact Nat.mul_le_mul ih h
theorem words_small {ss : List Str} {i n : Nat} (h : ∀ y ∈ ss, y.length ≤ 1) (hi : i < n) (hn : n ≤ 5) : ∀ a ∈ wordsF ss i, ∀ b ∈ ss, a.length + b.length ≤ 1000 := fun a ha b hb => by
  have h1 := words_len h i a ha
  have h2 := h b hb
  omega
theorem words_size {ss : List Str} {i n : Nat} (h : ss.length ≤ 3) (hi : i < n) (hn : n ≤ 5) : (wordsF ss i).length * ss.length ≤ sizeLine := by
  have h1 := words_num h i
  have h2 : 3 ^ i ≤ 3 ^ 5 := Nat.pow_le_pow_right (by decide) (by omega)
  have h3 : (wordsF ss i).length * ss.length ≤ 3 ^ 5 * 3 := Nat.mul_le_mul (Nat.le_trans h1 h2) h
  exact Nat.le_trans h3 (by decide)
theorem drop_second {h₀ h : Heap} {L : Addr} {a b : Addr × Obj} {news : List (Addr × Obj)} (N : News h₀ L h (a :: b :: news)) : News h₀ L h (a :: news) := fun p hp => by
  rcases List.mem_cons.mp hp with rfl | hp
  · exact N _ List.mem_cons_self
  · exact N _ (List.mem_cons_of_mem _ (List.mem_cons_of_mem _ hp))
theorem due_mul {m b : Int} (hm : 0 ≤ m ∧ m ≤ 6) : IntMulOk ((m * (m - 1)).fdiv 2) b := by
  have h2 : m = 0 ∨ m = 1 ∨ m = 2 ∨ m = 3 ∨ m = 4 ∨ m = 5 ∨ m = 6 := by omega
  have h3 : 0 ≤ (m * (m - 1)).fdiv 2 ∧ (m * (m - 1)).fdiv 2 ≤ 15 := by rcases h2 with rfl | rfl | rfl | rfl | rfl | rfl | rfl <;> decide
  exact PySem.IntMulOk.of_left (intBits_le_64 (by omega) (by omega))
theorem all_of {d : Addr} : ∀ {l : List (Addr × Obj)}, AllLt d l → ∀ p ∈ l, p.1 < d
  | [], _, _, h => nomatch h
  | _ :: _, x, p, h => by
    rcases List.mem_cons.mp h with rfl | h
    · exact x.1
    · exact all_of x.2 p h
theorem lt_tail {d : Addr} {a : Addr × Obj} {l : List (Addr × Obj)} (h : ∀ p ∈ a :: l, p.1 < d) : ∀ p ∈ l, p.1 < d := fun p hp => h p (List.mem_cons_of_mem _ hp)
end
end Mine

end
section

open PySem PySem.W PyProof.Rows
set_option Elab.async false
set_option maxRecDepth 100000 
set_option maxHeartbeats 8000000 
namespace Mine

section
local macro_rules | `(tactic| walk_at "pyIter ref") => `(tactic| (k_here; (rename IsRange _ _ _ _ _ _ _ _ => rgX); (rename Fr _ _ _ _ => lF'); (rename News _ _ _ _ => lN'); (k_dflt (refine' runs_loop ?hL ?hh rgX ?hn lF' lN' ?h1 ?h2 ?h3 ?_ ?_; (case hL => exact rfl); (case hh => exact rfl); (case hn => omega); (case h1 => exact rfl); (case h2 => exact rfl); (case h3 => exact rfl))); (all_goals (intros; (try k_sweep); (try k_fold)))))
local macro_rules | `(tactic| walk_at "NEnd") => `(tactic| ((k_dflt (refine' nEnd_of ?F ?N ?hv ?e ?hz; (case F => k_asm); (case N => k_asm); (case hv => exact rfl); (case e => first | exact runs_up0 (by assumption) | exact runs_up (by assumption) | exact runs_same (by assumption) (by assumption)); (case hz => (intro z h1 h2; (try dsimp only); (simp only [if_neg h1, if_neg h2]); (try rfl)))))))
theorem runs_con (w : World) (mean : PySem.ExcName → Option Value) (mg mb : Str → Option Value) (x : Str) (tx : Tok) (news : List (Addr × Obj)) (hx : x.length ≤ 40) :
    ConI w mean mg mb 1 8 47 news [.str x tx] (runsF x) := by
  dsimp only [ConI]
  w_top off
  k_fill
  intros; rename_i hret
  refine wpAny_call ?_
  k_dflt cell_enter
  rename Fr _ _ _ _ => F0
  have F1 := fr_clean1 F0 (a := Str.ofString "word") (va := .str x tx) (by with_unfolding_all rfl)
  clear F0
  repeat' (first | (k_unfold; (try dsimp only)) | walk1 | (dsimp only; walk1))
  all_goals (exact cb_retI hret rfl (by k_asm) (by k_asm))
theorem runs_use {w : World} {mean : PySem.ExcName → Option Value} {mg mb : Str → Option Value} {x : Str} {tx : Tok} {news : List (Addr × Obj)} 
    {dp un : Nat} {gd : Option (List Code)} {cn : Str} {cs : Scope} {a : Addr} {ccd : Value} {cl : List (Str × Addr)} {outer : List Env} {A₀ : Around} {base h₀ : Heap} {L : Addr} {m : Str → Option Value} {s : Shared} {Q E : Value → Shared → Prop}
    (B : Below A₀ base outer h₀) (F : Fr h₀ L s.heap m) (X : (hd.heap_39 w.params).In h₀) (N : News h₀ L s.heap news) (T : Top hd.view_39 (looseW hd.view_39 []) mean mg mb h₀) (hk : cs.kind = .function) (hd' : dp + 1 < recursionLimit) (hu : un + 8 < cLine)
    (hx : x.length ≤ 40)
    (ret : ∀ (t : Tok) (h' : Heap) (tk' : Nat), Fr h₀ L h' m → News h₀ L h' news → Q (.int (runsF x) t) { s with heap := h', toks := tk' }) :
    wpAny (model PySem.Challenge.rw_oy0519_01.row.prog w) (ktrTop dp un gd cn cs L a ccd cl outer) (call (.ref 47) [.str x tx]) Q E s :=
  runs_con w mean mg mb x tx news hx _ _ _ _ _ _ _ _ _ _ _ _ _ _ _ _ _ B F X N T hk hd' hu ret
end
end Mine

end
section
open PySem PySem.W PyProof.Rows
set_option Elab.async false
set_option maxRecDepth 100000 
set_option maxHeartbeats 8000000 
namespace Mine

section
local macro_rules | `(tactic| walk_at "pyIter ref") => `(tactic| (k_here; (rename IsRange _ _ _ _ _ _ _ _ => rgX); (rename Fr _ _ _ _ => lF'); (rename News _ _ _ _ => lN'); (k_dflt (refine' told_loop ?hL ?hh rgX ?hn lF' lN' ?hi ?h1 ?h2 ?h3 ?_ ?_; (case hL => exact rfl); (case hh => exact rfl); (case hn => omega); (case hi => exact IntsAre.nil); (case h1 => exact rfl); (case h2 => exact rfl); (case h3 => assumption))); (all_goals (intros; (try k_sweep); (try k_fold)))))
local macro_rules | `(tactic| walk_at "call builtin:len") => `(tactic| (k_here; (with_reducible show wpAny _ _ (call (Value.builtin "len") [Value.ref _]) _ _ _); (k_dflt (refine' len_words ?N ?hm ?hi ?hn ?_; (case N => k_asm); (case hm => (repeat (first | assumption | exact List.Mem.head _ | refine List.mem_cons_of_mem _ ?_))); (case hi => assumption); (case hn => assumption))); intro t9 tk9))
local macro_rules | `(tactic| walk_at "subscriptTail") => `(tactic| (k_here; (with_reducible show wpAny _ _ (subscriptTail _ _ (Value.ref _) (Value.int _ _)) _ _ _); (k_dflt (refine' sub_words ?N ?hm ?hi ?h1 ?hf ?hl ?_ ?hs ?hg; (case N => k_asm); (case hm => (repeat (first | assumption | exact List.Mem.head _ | refine List.mem_cons_of_mem _ ?_))); (case hi => assumption); (case h1 => assumption); (case hf => omega); (case hl => assumption); (case hs => with_unfolding_all rfl); (case hg => (intro _; with_unfolding_all rfl)))); intro t9 hl9))
local macro_rules | `(tactic| walk_at "call builtin:list.append") => `(tactic| (k_here; (with_reducible show wpAny _ _ (call (Value.builtin _) [Value.ref _, _]) _ _ _); (k_dflt (refine' append_second ?F ?N ?h1 ?h2 ?_ ?hz; (case F => k_asm); (case N => k_asm); (case h1 => assumption); (case h2 => (intro p9 hp9; exact Nat.ne_of_lt (by first | (rename ∀ p ∈ _, p.1 < _ => hq9; exact hq9 p9 hp9)))); (case hz => (simp only [List.size_toArray]; show _ ≤ 2 ^ 24; omega)))); intro h' F' N'; (try simp only [List.push_toArray] at N'); (try k_sweep)))
local macro_rules | `(tactic| walk_at "call ref") => `(tactic| (k_here; (with_reducible show wpAny _ _ (call (Value.ref 28) [Value.str _ _, Value.str _ _, Value.int _ _]) _ _ _); (k_dflt (refine' lev_use ?k1 ?k2 ?k3 ?k4 ?k5 ?kK ?kd ?ku ?hx ?hy ?_; (case k1 => k_asm); (case k2 => k_asm); (case k3 => k_asm); (case k4 => k_asm); (case k5 => k_asm); (case kK => exact rfl); (case kd => ktr_room); (case ku => ktr_units); (case hx => assumption); (case hy => assumption))); intro t9 h9 tk9 F9 N9; (try dsimp only); (try k_sweep); (try k_fold)))
local macro_rules | `(tactic| walk_at "TEnd") => `(tactic| ((k_dflt (refine' tEnd_of ?F ?N ?hi ?hz; (case F => k_asm); (case N => k_asm); (case hi => first | exact told_even (by assumption) (by assumption) | exact told_odd (by assumption) (by assumption)); (case hz => (intro z h1; exact if_neg h1))))))
/-- what a call of the text's def at f comes to: a new list of ints -/
abbrev ConT (w : World) (mean : PySem.ExcName → Option Value) (mg mb : Str → Option Value) (d u : Nat) (f : Addr) (news : List (Addr × Obj)) (vs : List Value) (ns : List Int) : Prop :=
  ∀ (dp un : Nat) (gd : Option (List Code)) (cn : Str) (cs : Scope) (a : Addr) (ccd : Value) (cl : List (Str × Addr)) (outer : List Env) (A₀ : Around) (base h₀ : Heap) (L : Addr) (m : Str → Option Value) (s : Shared) (Q E : Value → Shared → Prop),
    Below A₀ base outer h₀ → Fr h₀ L s.heap m → (hd.heap_39 w.params).In h₀ → News h₀ L s.heap news → Top hd.view_39 (looseW hd.view_39 []) mean mg mb h₀ → cs.kind = .function → dp + d < recursionLimit → un + u < cLine →
    (∀ (D : Addr) (us : List Value) (c : Nat) (h' : Heap) (tk' : Nat), Fr h₀ L h' m → News h₀ L h' ((D, listOf (List.toArray us) c) :: news) → (∀ p ∈ news, p.1 < D) → IntsAre us ns → Q (.ref D) { s with heap := h', toks := tk' }) →
    wpAny (model PySem.Challenge.rw_oy0519_01.row.prog w) (ktrTop dp un gd cn cs L a ccd cl outer) (call (.ref f) vs) Q E s
theorem told_con (w : World) (mean : PySem.ExcName → Option Value) (mg mb : Str → Option Value) (x : Str) (tx : Tok) (lw : Addr) (wv : List Value) (ws : List Str) (cw : Nat) (b : Int) (tb : Tok) (news : List (Addr × Obj)) (hx : x.length ≤ 40) (hm : (lw, listOf (List.toArray wv) cw) ∈ news) (hw : StrsAre wv ws) (hn : ws.length ≤ 1000) (hl : ∀ y ∈ ws, y.length ≤ 40) :
    ConT w mean mg mb 3 24 61 news [.str x tx, .ref lw, .int b tb] (toldF x ws b ws.length) := by
  dsimp only [ConT]
  w_top off
  k_fill
  intros; rename_i hret
  refine wpAny_call ?_
  k_dflt cell_enter
  rename Fr _ _ _ _ => F0
  have F1 := fr_clean3 F0 (a := Str.ofString "word") (b := Str.ofString "words") (c := Str.ofString "bound") (va := .str x tx) (vb := .ref lw) (vc := .int b tb) (by with_unfolding_all rfl)
  clear F0
  repeat' (first | (k_unfold; (try dsimp only)) | walk1 | (dsimp only; walk1))
  all_goals first | (refine hret _ _ _ _ _ (by k_asm) (by k_asm) ?_ (by assumption); assumption)
end
end Mine

end
section

open PySem PySem.W PyProof.Rows
set_option Elab.async false
set_option maxRecDepth 100000 
set_option maxHeartbeats 8000000 
namespace Mine

section
local macro_rules | `(tactic| walk_at "pyIter ref") => `(tactic| (k_here; (rename IsRange _ _ _ _ _ _ _ _ => rgX); (rename Fr _ _ _ _ => lF'); (rename News _ _ _ _ => lN'); (k_dflt (refine' words_loop ?hL ?hh rgX ?hn lF' lN' ?hw ?hi ?hs ?hlt ?_ ?_; (case hL => exact rfl); (case hh => exact rfl); (case hn => omega); (case hw => exact rfl); (case hi => exact StrsAre.cons _ _ StrsAre.nil); (case hs => assumption); (case hlt => first | assumption | exact all_of (by assumption)))); (all_goals (intros; (try k_sweep); (try k_fold)))))
local macro_rules | `(tactic| walk_at "exec Assign cons ListComp") => `(tactic| (k_here; (rename Fr _ _ _ _ => lF'); (rename News _ _ _ _ => lN'); (k_dflt (refine' assign_comp2 ?F ?N ?hsw ?hcl ?hce ?hki ?hna ?hx1 ?hx2 ?hne ?hy ?hp ?hh ?hhm ?hm1 ?hm2 ?hi1 ?hs1 ?hi2 ?hf2 ?he ?hu ?hs ?hla ?hsz ?_; (case F => exact lF'); (case N => exact lN'); (case hsw => exact rfl); (case hcl => exact rfl); (case hce => decide); (case hki => exact rfl); (case hna => decide); (case hx1 => exact rfl); (case hx2 => exact rfl); (case hne => decide); (case hy => exact rfl); (case hp => exact rfl); (case hh => exact rfl); (case hhm => exact rfl); (case hm1 => exact List.Mem.tail _ (List.Mem.head _)); (case hm2 => exact List.Mem.tail _ (List.Mem.tail _ (List.Mem.tail _ (by assumption)))); (case hi1 => (intro Q9 q9; (refine' nameX_L ?F2 ?v2 ?q2 ?a2 ?b2; (case F2 => exact lF'); (case a2 => rfl); (case b2 => rfl); (case v2 => rfl); (case q2 => exact q9)))); (case hs1 => (intro _; exact rfl)); (case hi2 => (intro C9 s9 Q9 E9 hk9 q9; refine' cell_read ?a3 ?b3 ?c3 ?d3 ?e3 ?f3 q9; (case a3 => exact rfl); (case b3 => exact rfl); (case c3 => exact rfl); (case d3 => exact hk9 _ (List.Mem.tail _ (List.Mem.tail _ (List.Mem.head _)))); (case e3 => assumption); (case f3 => decide))); (case hf2 => (intro _ _; exact rfl)); (case he => (intro C9; exact elt_cat rfl rfl rfl (by decide) (by decide))); (case hu => assumption); (case hs => assumption); (case hla => exact words_small (by assumption) (by assumption) (by assumption)); (case hsz => exact words_size (by assumption) (by assumption) (by assumption)))); intro D9 us9 c9 h9 tk9 F9 N9 hn9 hs9; (try k_sweep)))
local macro_rules | `(tactic| walk_at "WEnd") => `(tactic| ((k_dflt (refine' wEnd_of ?F ?N ?hn ?hs ?hz; (case F => k_asm); (case N => k_asm); (case hn => assumption); (case hs => assumption); (case hz => (intro z h1; (try dsimp only); (simp only [if_neg h1]); (try (split <;> rfl))))))))
/-- what a call of the text's def at f comes to: a new list of texts -/
abbrev ConS (w : World) (mean : PySem.ExcName → Option Value) (mg mb : Str → Option Value) (d u : Nat) (f : Addr) (news : List (Addr × Obj)) (vs : List Value) (ns : List Str) : Prop :=
  ∀ (dp un : Nat) (gd : Option (List Code)) (cn : Str) (cs : Scope) (a : Addr) (ccd : Value) (cl : List (Str × Addr)) (outer : List Env) (A₀ : Around) (base h₀ : Heap) (L : Addr) (m : Str → Option Value) (s : Shared) (Q E : Value → Shared → Prop),
    Below A₀ base outer h₀ → Fr h₀ L s.heap m → (hd.heap_39 w.params).In h₀ → News h₀ L s.heap news → Top hd.view_39 (looseW hd.view_39 []) mean mg mb h₀ → cs.kind = .function → dp + d < recursionLimit → un + u < cLine →
    (∀ (D : Addr) (us : List Value) (c : Nat) (h' : Heap) (tk' : Nat), Fr h₀ L h' m → News h₀ L h' ((D, listOf (List.toArray us) c) :: news) → (∀ p ∈ news, p.1 < D) → StrsAre us ns → Q (.ref D) { s with heap := h', toks := tk' }) →
    wpAny (model PySem.Challenge.rw_oy0519_01.row.prog w) (ktrTop dp un gd cn cs L a ccd cl outer) (call (.ref f) vs) Q E s
theorem words_con (w : World) (mean : PySem.ExcName → Option Value) (mg mb : Str → Option Value) (ls : Addr) (sv : List Value) (ss : List Str) (c2 n : Nat) (tn : Tok) (news : List (Addr × Obj)) (hm : (ls, listOf (List.toArray sv) c2) ∈ news) (hs : StrsAre sv ss) (hl : ∀ y ∈ ss, y.length ≤ 1) (hn : n ≤ 5) (h3 : ss.length ≤ 3) :
    ConS w mean mg mb 1 8 40 news [.ref ls, .int (n : Int) tn] (wordsF ss n) := by
  dsimp only [ConS]
  w_top off
  k_fill
  intros; rename_i hret
  refine wpAny_call ?_
  k_dflt (refine' code_defC ?k1 ?k2 ?k3 ?k4 ?k5 ?kA ?kF ?kK ?k6 ?k7 ?k8 ?k9 ?kB ?kD ?_ ?c2 ?c3 ?c4; (case kA => exact rfl); (case kF => exact rfl); (case kK => assumption); (case k1 => k_asm); (case k2 => k_asm); (case k3 => k_asm); (case k4 => k_asm); (case k5 => k_asm); (case k6 => k_is); (case k7 => k_is); (case k8 => ktr_room); (case k9 => exact BindsTo.of_eq rfl); (case kB => exact rfl); (case kD => decide +kernel); (case c2 => exact rfl); (case c3 => exact rfl); (case c4 => exact rfl))
  intro g' L' h' tk' cells' FG' F' N' Y' B' X' T' l1
  k_cells Y'
  simp only [List.cons_append, List.nil_append] at N'
  (try dsimp only)
  (try k_fold)
  repeat' (first | (k_unfold; (try dsimp only)) | walk1 | (dsimp only; walk1))
  all_goals (exact hret _ _ _ _ _ (by k_asm) (drop_second (by assumption)) (lt_tail (by assumption)) (by assumption))
end
end Mine

end
section

open PySem PySem.W PyProof.Rows
set_option Elab.async false
set_option maxRecDepth 100000 
set_option maxHeartbeats 8000000 
namespace Mine

section
def sign0 (total : Int) : Str := Str.mk #[(33 + total.fmod 31).toNat]
def sign1 (total : Int) : Str := Str.mk #[(33 + (total.fmod 31 + 1 + (total.fdiv 31).fmod 30).fmod 31).toNat]
def signs2 (total : Int) : List Str := [sign0 total, sign1 total]
def signs3 (total : Int) : List Str := [sign0 total, sign1 total, Str.ofString "~"]
theorem signs2_con (w : World) (mean : PySem.ExcName → Option Value) (mg mb : Str → Option Value) (total : Int) (tt tq : Tok) (news : List (Addr × Obj)) :
    ConS w mean mg mb 1 8 35 news [.int total tt, .int 2 tq] (signs2 total) := by
  dsimp only [ConS]
  w_top off
  k_fill
  intros; rename_i hret
  refine wpAny_call ?_
  k_dflt cell_enter
  repeat' (first | (k_unfold; (try dsimp only)) | walk1 | (dsimp only; walk1))
  all_goals (exact hret _ _ _ _ _ (by k_asm) (drop_second (by assumption)) (all_of (And.right (by assumption))) (StrsAre.cons _ _ (StrsAre.cons _ _ StrsAre.nil)))
theorem signs3_con (w : World) (mean : PySem.ExcName → Option Value) (mg mb : Str → Option Value) (total : Int) (tt tq : Tok) (news : List (Addr × Obj)) :
    ConS w mean mg mb 1 8 35 news [.int total tt, .int 3 tq] (signs3 total) := by
  dsimp only [ConS]
  w_top off
  k_fill
  intros; rename_i hret
  refine wpAny_call ?_
  k_dflt cell_enter
  repeat' (first | (k_unfold; (try dsimp only)) | walk1 | (dsimp only; walk1))
  all_goals (exact hret _ _ _ _ _ (by k_asm) (drop_second (by assumption)) (all_of (And.right (by assumption))) (StrsAre.cons _ _ (StrsAre.cons _ _ (StrsAre.cons _ _ StrsAre.nil))))
end
end Mine

end
section

open PySem PySem.W PyProof.Rows
set_option Elab.async false
set_option maxRecDepth 100000 
set_option maxHeartbeats 8000000 
namespace Mine
local macro_rules | `(tactic| walk_at "no such step C3_due 0") => `(tactic| fail)

section
local macro_rules | `(tactic| walk_at "call ref") => `(tactic| (k_here; (with_reducible show wpAny _ _ (call (Value.ref 47) [Value.str _ _]) _ _ _); (k_dflt (refine' runs_use ?k1 ?k2 ?k3 ?k4 ?k5 ?kK ?kd ?ku ?hx ?_; (case k1 => k_asm); (case k2 => k_asm); (case k3 => k_asm); (case k4 => k_asm); (case k5 => k_asm); (case kK => exact rfl); (case kd => ktr_room); (case ku => ktr_units); (case hx => assumption))); intro t9 h9 tk9 F9 N9; (try dsimp only); (try k_sweep); (try k_fold)))
local macro_rules | `(tactic| walk_at "binaryOp Mult int int") => `(tactic| (k_here; (k_dflt (refine' PyProof.Rows.mul_int ?_ ?hm; (case hm => exact due_mul (by assumption))))))
local macro_rules | `(tactic| walk_at "binaryOp Pow int int") => `(tactic| (k_here; refine pow_int_small (by decide) (by decide) (by omega) ?_))
def dueF (x : Str) (q m : Int) : Int := if m < x.length then runsF x else if m = x.length then x.length * (q - 1) else if m = x.length + 1 then 1 + m * (q - 1) else 1 + m * (q - 1) + (m * (m - 1)).fdiv 2 * (q - 1) ^ 2
theorem due_con (w : World) (mean : PySem.ExcName → Option Value) (mg mb : Str → Option Value) (x : Str) (tx : Tok) (q m : Int) (tq tm : Tok) (news : List (Addr × Obj)) (hx : x.length ≤ 40) (hq : 2 ≤ q ∧ q ≤ 3) (hm : 0 ≤ m ∧ m ≤ 6) :
    ConI w mean mg mb 2 16 54 news [.str x tx, .int q tq, .int m tm] (dueF x q m) := by
  dsimp only [ConI]
  w_top off
  k_fill
  intros; rename_i hret
  refine wpAny_call ?_
  k_dflt cell_enter
  rename Fr _ _ _ _ => F0
  have F1 := fr_clean3 F0 (a := Str.ofString "word") (b := Str.ofString "q") (c := Str.ofString "m") (va := .str x tx) (vb := .int q tq) (vc := .int m tm) (by with_unfolding_all rfl)
  clear F0
  repeat' (first | (k_unfold; (try dsimp only)) | walk1 | (dsimp only; walk1))
  all_goals (refine cb_retI hret ?_ (by k_asm) (by k_asm); unfold dueF; first | (rw [if_pos (by assumption)]; done) | (rw [if_neg (by assumption), if_pos (by assumption)]; done) | (rw [if_neg (by assumption), if_neg (by assumption), if_pos (by assumption)]; done) | (rw [if_neg (by assumption), if_neg (by assumption), if_neg (by assumption)]; rfl))
end
end Mine

end
section
open PySem PySem.W PyProof.Rows
set_option Elab.async false
set_option maxRecDepth 100000 
set_option maxHeartbeats 8000000 
namespace Mine
theorem signs2_use {w : World} {mean : PySem.ExcName → Option Value} {mg mb : Str → Option Value} {total : Int} {tt tq : Tok} {news : List (Addr × Obj)} 
    {dp un : Nat} {gd : Option (List Code)} {cn : Str} {cs : Scope} {a : Addr} {ccd : Value} {cl : List (Str × Addr)} {outer : List Env} {A₀ : Around} {base h₀ : Heap} {L : Addr} {m : Str → Option Value} {s : Shared} {Q E : Value → Shared → Prop}
    (B : Below A₀ base outer h₀) (F : Fr h₀ L s.heap m) (X : (hd.heap_39 w.params).In h₀) (N : News h₀ L s.heap news) (T : Top hd.view_39 (looseW hd.view_39 []) mean mg mb h₀) (hk : cs.kind = .function) (hd' : dp + 1 < recursionLimit) (hu : un + 8 < cLine)
    
    (ret : ∀ (D : Addr) (us : List Value) (c : Nat) (h' : Heap) (tk' : Nat), Fr h₀ L h' m → News h₀ L h' ((D, listOf (List.toArray us) c) :: news) → (∀ p ∈ news, p.1 < D) → StrsAre us (signs2 total) → Q (.ref D) { s with heap := h', toks := tk' }) :
    wpAny (model PySem.Challenge.rw_oy0519_01.row.prog w) (ktrTop dp un gd cn cs L a ccd cl outer) (call (.ref 35) [.int total tt, .int 2 tq]) Q E s :=
  signs2_con w mean mg mb total tt tq news _ _ _ _ _ _ _ _ _ _ _ _ _ _ _ _ _ B F X N T hk hd' hu ret
theorem signs3_use {w : World} {mean : PySem.ExcName → Option Value} {mg mb : Str → Option Value} {total : Int} {tt tq : Tok} {news : List (Addr × Obj)} 
    {dp un : Nat} {gd : Option (List Code)} {cn : Str} {cs : Scope} {a : Addr} {ccd : Value} {cl : List (Str × Addr)} {outer : List Env} {A₀ : Around} {base h₀ : Heap} {L : Addr} {m : Str → Option Value} {s : Shared} {Q E : Value → Shared → Prop}
    (B : Below A₀ base outer h₀) (F : Fr h₀ L s.heap m) (X : (hd.heap_39 w.params).In h₀) (N : News h₀ L s.heap news) (T : Top hd.view_39 (looseW hd.view_39 []) mean mg mb h₀) (hk : cs.kind = .function) (hd' : dp + 1 < recursionLimit) (hu : un + 8 < cLine)
    
    (ret : ∀ (D : Addr) (us : List Value) (c : Nat) (h' : Heap) (tk' : Nat), Fr h₀ L h' m → News h₀ L h' ((D, listOf (List.toArray us) c) :: news) → (∀ p ∈ news, p.1 < D) → StrsAre us (signs3 total) → Q (.ref D) { s with heap := h', toks := tk' }) :
    wpAny (model PySem.Challenge.rw_oy0519_01.row.prog w) (ktrTop dp un gd cn cs L a ccd cl outer) (call (.ref 35) [.int total tt, .int 3 tq]) Q E s :=
  signs3_con w mean mg mb total tt tq news _ _ _ _ _ _ _ _ _ _ _ _ _ _ _ _ _ B F X N T hk hd' hu ret
theorem due_use {w : World} {mean : PySem.ExcName → Option Value} {mg mb : Str → Option Value} {x : Str} {q mm : Int} {tx tq tm : Tok} {news : List (Addr × Obj)} 
    {dp un : Nat} {gd : Option (List Code)} {cn : Str} {cs : Scope} {a : Addr} {ccd : Value} {cl : List (Str × Addr)} {outer : List Env} {A₀ : Around} {base h₀ : Heap} {L : Addr} {m : Str → Option Value} {s : Shared} {Q E : Value → Shared → Prop}
    (B : Below A₀ base outer h₀) (F : Fr h₀ L s.heap m) (X : (hd.heap_39 w.params).In h₀) (N : News h₀ L s.heap news) (T : Top hd.view_39 (looseW hd.view_39 []) mean mg mb h₀) (hk : cs.kind = .function) (hd' : dp + 2 < recursionLimit) (hu : un + 16 < cLine)
    (hx : x.length ≤ 40) (hq : 2 ≤ q ∧ q ≤ 3) (hm : 0 ≤ mm ∧ mm ≤ 6)
    (ret : ∀ (t : Tok) (h' : Heap) (tk' : Nat), Fr h₀ L h' m → News h₀ L h' news → Q (.int (dueF x q mm) t) { s with heap := h', toks := tk' }) :
    wpAny (model PySem.Challenge.rw_oy0519_01.row.prog w) (ktrTop dp un gd cn cs L a ccd cl outer) (call (.ref 54) [.str x tx, .int q tq, .int mm tm]) Q E s :=
  due_con w mean mg mb x tx q mm tq tm news hx hq hm _ _ _ _ _ _ _ _ _ _ _ _ _ _ _ _ _ B F X N T hk hd' hu ret
theorem told_use {w : World} {mean : PySem.ExcName → Option Value} {mg mb : Str → Option Value} {x : Str} {tx : Tok} {lw : Addr} {wv : List Value} {ws : List Str} {cw : Nat} {b : Int} {tb : Tok} {news : List (Addr × Obj)} 
    {dp un : Nat} {gd : Option (List Code)} {cn : Str} {cs : Scope} {a : Addr} {ccd : Value} {cl : List (Str × Addr)} {outer : List Env} {A₀ : Around} {base h₀ : Heap} {L : Addr} {m : Str → Option Value} {s : Shared} {Q E : Value → Shared → Prop}
    (B : Below A₀ base outer h₀) (F : Fr h₀ L s.heap m) (X : (hd.heap_39 w.params).In h₀) (N : News h₀ L s.heap news) (T : Top hd.view_39 (looseW hd.view_39 []) mean mg mb h₀) (hk : cs.kind = .function) (hd' : dp + 3 < recursionLimit) (hu : un + 24 < cLine)
    (hx : x.length ≤ 40) (hm : (lw, listOf (List.toArray wv) cw) ∈ news) (hw : StrsAre wv ws) (hn : ws.length ≤ 1000) (hl : ∀ y ∈ ws, y.length ≤ 40)
    (ret : ∀ (D : Addr) (us : List Value) (c : Nat) (h' : Heap) (tk' : Nat), Fr h₀ L h' m → News h₀ L h' ((D, listOf (List.toArray us) c) :: news) → (∀ p ∈ news, p.1 < D) → IntsAre us (toldF x ws b ws.length) → Q (.ref D) { s with heap := h', toks := tk' }) :
    wpAny (model PySem.Challenge.rw_oy0519_01.row.prog w) (ktrTop dp un gd cn cs L a ccd cl outer) (call (.ref 61) [.str x tx, .ref lw, .int b tb]) Q E s :=
  told_con w mean mg mb x tx lw wv ws cw b tb news hx hm hw hn hl _ _ _ _ _ _ _ _ _ _ _ _ _ _ _ _ _ B F X N T hk hd' hu ret
theorem words_use {w : World} {mean : PySem.ExcName → Option Value} {mg mb : Str → Option Value} {ls : Addr} {sv : List Value} {ss : List Str} {c2 : Nat} {z : Int} {tn : Tok} {news : List (Addr × Obj)} 
    {dp un : Nat} {gd : Option (List Code)} {cn : Str} {cs : Scope} {a : Addr} {ccd : Value} {cl : List (Str × Addr)} {outer : List Env} {A₀ : Around} {base h₀ : Heap} {L : Addr} {m : Str → Option Value} {s : Shared} {Q E : Value → Shared → Prop}
    (B : Below A₀ base outer h₀) (F : Fr h₀ L s.heap m) (X : (hd.heap_39 w.params).In h₀) (N : News h₀ L s.heap news) (T : Top hd.view_39 (looseW hd.view_39 []) mean mg mb h₀) (hk : cs.kind = .function) (hd' : dp + 1 < recursionLimit) (hu : un + 8 < cLine)
    (hm : (ls, listOf (List.toArray sv) c2) ∈ news) (hs : StrsAre sv ss) (hl : ∀ y ∈ ss, y.length ≤ 1) (h0 : 0 ≤ z) (hn : z ≤ 5) (h3 : ss.length ≤ 3)
    (ret : ∀ (D : Addr) (us : List Value) (c : Nat) (h' : Heap) (tk' : Nat), Fr h₀ L h' m → News h₀ L h' ((D, listOf (List.toArray us) c) :: news) → (∀ p ∈ news, p.1 < D) → StrsAre us (wordsF ss z.toNat) → (wordsF ss z.toNat).length ≤ 1000 → (∀ y ∈ wordsF ss z.toNat, y.length ≤ 40) → Q (.ref D) { s with heap := h', toks := tk' }) :
    wpAny (model PySem.Challenge.rw_oy0519_01.row.prog w) (ktrTop dp un gd cn cs L a ccd cl outer) (call (.ref 40) [.ref ls, .int z tn]) Q E s := by
  have e : z = ((z.toNat : Nat) : Int) := by omega
  have hn' : z.toNat ≤ 5 := by omega
  have h1 : (wordsF ss z.toNat).length ≤ 1000 := Nat.le_trans (words_num h3 _) (Nat.le_trans (Nat.pow_le_pow_right (by decide) hn') (by decide))
  have h2 : ∀ y ∈ wordsF ss z.toNat, y.length ≤ 40 := fun y hy => Nat.le_trans (words_len hl _ y hy) (by omega)
  have key := words_con w mean mg mb ls sv ss c2 z.toNat tn news hm hs hl hn' h3 dp un gd cn cs a ccd cl outer A₀ base h₀ L m s Q E B F X N T hk hd' hu (fun D us c h' tk' F' N' lt' S' => ret D us c h' tk' F' N' lt' S' h1 h2)
  rw [← e] at key
  exact key
end Mine

end
section
open PySem PySem.W PyProof.Rows
set_option Elab.async false
set_option maxRecDepth 100000
set_option maxHeartbeats 8000000
namespace Mine
def PlainC (c : Nat) : Prop := (33 ≤ c ∧ c ≤ 63) ∨ c = 126
def PlainL (l : List Nat) : Prop := ∀ c ∈ l, PlainC c
abbrev codes (x : Str) : List Nat := x.cps.toList
def cellG (b a : List Nat) (bi : Nat) (c : Cell) (i : Nat) : Cell :=
  let sub := c.1 + (if b[bi]? = a[i]? then (0 : Int) else 2)
  let d' := c.2.2.2.getD i 0
  let ins := (if d' < c.2.1 then d' else c.2.1) + 2
  let r' := if sub < ins then sub else ins
  (d', r', if r' < c.2.2.1 then r' else c.2.2.1, c.2.2.2.set i r')
def rowG (b a : List Nat) (bi : Nat) (row : List Int) : Nat → Cell
  | 0 => ((bi : Int) * 2, (bi : Int) * 2, 9223372036854775807, row)
  | i + 1 => cellG b a bi (rowG b a bi row i) i
def outG (b a : List Nat) : Nat → List Int × Int
  | 0 => (row0 a.length, 0)
  | j + 1 => let c := rowG b a j (outG b a j).1 a.length; (c.2.2.2, c.2.1)
def minG (b a : List Nat) (j : Nat) : Int := (rowG b a j (outG b a j).1 a.length).2.2.1
def dpG (a b : List Nat) (k : Int) : Int := if (List.range b.length).any (fun j => decide (k < minG b a j)) then k + 1 else (outG b a b.length).2
def lev3G (a b : List Nat) (k : Int) : Int := if k < ((b.length : Int) - a.length) * 2 then k + 1 else dpG a b k
def lev2G (a b : List Nat) (k : Int) : Int :=
  if a.length = 0 ∨ b.length = 0 then 2 * ((a.length : Int) + b.length)
  else if 40 < a.length ∨ 40 < b.length then k + 1
  else lev3G (if b.length < a.length then b else a) (if b.length < a.length then a else b) k
def endG (x : List Nat) (n : Nat) : List Nat := x.take (x.length - n)
def cslG (x y : List Nat) : Nat := cplL x.reverse y.reverse
def lev1G (a b : List Nat) (k : Int) : Int := lev2G (endG a (cslG a b)) (endG b (cslG a b)) k
def levG (x y : List Nat) (k : Int) : Int := if x = y then 0 else lev1G (x.drop (cplL x y)) (y.drop (cplL x y)) k

theorem lower_one : ∀ c : Nat, PlainC c → Txt.lower (⟨#[c]⟩ : Str) = ⟨#[c]⟩ := by
  have h : ∀ c < 127, (decide ((33 ≤ c ∧ c ≤ 63) ∨ c = 126)) = true → Txt.lower (⟨#[c]⟩ : Str) = ⟨#[c]⟩ := by decide +kernel
  intro c hc
  refine h c ?_ (decide_eq_true hc)
  rcases hc with ⟨_, h2⟩ | h2 <;> omega
theorem getD_at {l : List Nat} {i : Nat} (h : i < l.length) : l.getD i 0 = l[i] := by rw [List.getD_eq_getElem?_getD, List.getElem?_eq_getElem h]; rfl
theorem sub_plain {b a : Str} {i j : Nat} (hb : PlainL (codes b)) (ha : PlainL (codes a)) (hi : i < b.length) (hj : j < a.length) :
    subC (Txt.item b (i : Int)) (Txt.item a (j : Int)) = if (codes b)[i]? = (codes a)[j]? then (0 : Int) else 2 := by
  rw [item_at b i hi, item_at a j hj]
  have hi' : i < (codes b).length := by rw [← len_is]; exact hi
  have hj' : j < (codes a).length := by rw [← len_is]; exact hj
  have e1 : b.cps.toList.getD i 0 = (codes b)[i] := getD_at hi'
  have e2 : a.cps.toList.getD j 0 = (codes a)[j] := getD_at hj'
  rw [e1, e2, List.getElem?_eq_getElem hi', List.getElem?_eq_getElem hj']
  have p1 : PlainC (codes b)[i] := hb _ (List.getElem_mem hi')
  have p2 : PlainC (codes a)[j] := ha _ (List.getElem_mem hj')
  unfold subC
  rw [lower_one _ p1, lower_one _ p2]
  by_cases h : (codes b)[i] = (codes a)[j]
  · rw [if_pos (by rw [h]), if_pos (by rw [h])]
  · rw [if_neg (by intro e; injection e with e; exact h (by simpa using e)), if_neg (by intro e; injection e with e; exact h (by simpa using e)), if_neg (by intro e; injection e with e; exact h e)]
theorem cell_plain {b a : Str} {bi i : Nat} {c : Cell} (hb : PlainL (codes b)) (ha : PlainL (codes a)) (hi : bi < b.length) (hj : i < a.length) : cellStep b a bi c i = cellG (codes b) (codes a) bi c i := by
  unfold cellStep cellG
  rw [sub_plain hb ha hi hj]
theorem row_plain {b a : Str} {bi : Nat} {row : List Int} (hb : PlainL (codes b)) (ha : PlainL (codes a)) (hi : bi < b.length) : ∀ i ≤ a.length, rowAt b a bi row i = rowG (codes b) (codes a) bi row i
  | 0, _ => rfl
  | i + 1, h => by
    unfold rowAt rowG
    rw [row_plain hb ha hi i (by omega), cell_plain hb ha hi (by omega)]
theorem out_plain {b a : Str} (hb : PlainL (codes b)) (ha : PlainL (codes a)) : ∀ j ≤ b.length, outAt b a j = outG (codes b) (codes a) j
  | 0, _ => by unfold outAt outG; rw [len_is]
  | j + 1, h => by
    unfold outAt outG
    rw [out_plain hb ha j (by omega), row_plain hb ha (by omega) a.length (Nat.le_refl _), len_is a]
theorem min_plain {b a : Str} (hb : PlainL (codes b)) (ha : PlainL (codes a)) {j : Nat} (h : j < b.length) : minAt b a j = minG (codes b) (codes a) j := by
  unfold minAt minG
  rw [out_plain hb ha j (by omega), row_plain hb ha h a.length (Nat.le_refl _), len_is a]
theorem any_same {n : Nat} {p q : Nat → Bool} (h : ∀ j < n, p j = q j) : (List.range n).any p = (List.range n).any q := by
  rw [Bool.eq_iff_iff, List.any_eq_true, List.any_eq_true]
  constructor
  · rintro ⟨j, hj, e⟩; exact ⟨j, hj, by rw [← h j (List.mem_range.1 hj)]; exact e⟩
  · rintro ⟨j, hj, e⟩; exact ⟨j, hj, by rw [h j (List.mem_range.1 hj)]; exact e⟩
theorem dp_plain {b a : Str} {k : Int} (hb : PlainL (codes b)) (ha : PlainL (codes a)) : dp a b k = dpG (codes a) (codes b) k := by
  unfold dp dpG
  rw [any_same (n := b.length) (q := fun j => decide (k < minG (codes b) (codes a) j)) (fun j hj => by rw [min_plain hb ha hj]), out_plain hb ha _ (Nat.le_refl _), len_is b]
theorem lev3_plain {b a : Str} {k : Int} (hb : PlainL (codes b)) (ha : PlainL (codes a)) : lev3 a b k = lev3G (codes a) (codes b) k := by
  unfold lev3 lev3G
  rw [dp_plain hb ha, len_is, len_is]
theorem lev2_plain {b a : Str} {k : Int} (hb : PlainL (codes b)) (ha : PlainL (codes a)) : lev2 a b k = lev2G (codes a) (codes b) k := by
  unfold lev2 lev2G
  rw [len_is a, len_is b]
  by_cases h : b.cps.toList.length < a.cps.toList.length
  · simp only [if_pos h]; rw [lev3_plain ha hb]
  · simp only [if_neg h]; rw [lev3_plain hb ha]
theorem lev1_plain {b a : Str} {k : Int} (hb : PlainL (codes b)) (ha : PlainL (codes a)) : lev1 a b k = lev1G (codes a) (codes b) k := by
  unfold lev1 lev1G
  rw [lev2_plain]
  · rfl
  · intro c hc; exact hb c (List.mem_of_mem_take (by simpa [endS, codes] using hc))
  · intro c hc; exact ha c (List.mem_of_mem_take (by simpa [endS, codes] using hc))
theorem lev_plain {x y : Str} {k : Int} (hx : PlainL (codes x)) (hy : PlainL (codes y)) : lev x y k = levG (codes x) (codes y) k := by
  unfold lev levG
  have e : (x = y) ↔ codes x = codes y := ⟨fun h => by rw [h], fun h => by cases x; cases y; simp only [codes] at h; rw [Array.toList_inj.1 h]⟩
  by_cases h : x = y
  · rw [if_pos h, if_pos (e.1 h)]
  · rw [if_neg h, if_neg (fun h' => h (e.2 h')), lev1_plain]
    · rfl
    · intro c hc; exact hy c (List.mem_of_mem_drop (by simpa [dropS, codes] using hc))
    · intro c hc; exact hx c (List.mem_of_mem_drop (by simpa [dropS, codes] using hc))
end Mine

end
section
open PySem PySem.W PyProof.Rows
set_option Elab.async false
set_option maxRecDepth 100000
set_option maxHeartbeats 8000000
namespace Mine
section
variable {f : Nat → Nat}
theorem cplL_map (hf : ∀ a b, f a = f b → a = b) : ∀ x y : List Nat, cplL (x.map f) (y.map f) = cplL x y
  | [], _ => by simp [cplL]
  | _ :: _, [] => by simp [cplL]
  | a :: x, b :: y => by
    simp only [List.map_cons, cplL]
    by_cases h : a = b
    · rw [if_pos (by rw [h]), if_pos h, cplL_map hf x y]
    · rw [if_neg (fun e => h (hf _ _ e)), if_neg h]
theorem opt_map (hf : ∀ a b, f a = f b → a = b) (b a : List Nat) (i j : Nat) : ((b.map f)[i]? = (a.map f)[j]?) ↔ b[i]? = a[j]? := by
  rw [List.getElem?_map, List.getElem?_map]
  cases h1 : b[i]? <;> cases h2 : a[j]? <;> simp
  exact ⟨fun e => hf _ _ e, fun e => by rw [e]⟩
theorem cell_map (hf : ∀ a b, f a = f b → a = b) (b a : List Nat) (bi : Nat) (c : Cell) (i : Nat) : cellG (b.map f) (a.map f) bi c i = cellG b a bi c i := by
  unfold cellG
  by_cases h : b[bi]? = a[i]?
  · simp only [if_pos h, if_pos ((opt_map hf b a bi i).2 h)]
  · simp only [if_neg h, if_neg (fun e => h ((opt_map hf b a bi i).1 e))]
theorem row_map (hf : ∀ a b, f a = f b → a = b) (b a : List Nat) (bi : Nat) (row : List Int) : ∀ i, rowG (b.map f) (a.map f) bi row i = rowG b a bi row i
  | 0 => rfl
  | i + 1 => by unfold rowG; rw [row_map hf b a bi row i, cell_map hf]
theorem out_map (hf : ∀ a b, f a = f b → a = b) (b a : List Nat) : ∀ j, outG (b.map f) (a.map f) j = outG b a j
  | 0 => by unfold outG; rw [List.length_map]
  | j + 1 => by unfold outG; rw [out_map hf b a j, row_map hf, List.length_map]
theorem min_map (hf : ∀ a b, f a = f b → a = b) (b a : List Nat) (j : Nat) : minG (b.map f) (a.map f) j = minG b a j := by
  unfold minG; rw [out_map hf, row_map hf, List.length_map]
theorem dp_map (hf : ∀ a b, f a = f b → a = b) (a b : List Nat) (k : Int) : dpG (a.map f) (b.map f) k = dpG a b k := by
  unfold dpG; rw [List.length_map, out_map hf, any_same (n := b.length) (q := fun j => decide (k < minG b a j)) (fun j _ => by rw [min_map hf])]
theorem lev3_map (hf : ∀ a b, f a = f b → a = b) (a b : List Nat) (k : Int) : lev3G (a.map f) (b.map f) k = lev3G a b k := by
  unfold lev3G; rw [dp_map hf, List.length_map, List.length_map]
theorem lev2_map (hf : ∀ a b, f a = f b → a = b) (a b : List Nat) (k : Int) : lev2G (a.map f) (b.map f) k = lev2G a b k := by
  unfold lev2G
  rw [List.length_map, List.length_map]
  by_cases h : b.length < a.length
  · simp only [if_pos h]; rw [lev3_map hf]
  · simp only [if_neg h]; rw [lev3_map hf]
theorem csl_map (hf : ∀ a b, f a = f b → a = b) (a b : List Nat) : cslG (a.map f) (b.map f) = cslG a b := by
  unfold cslG; rw [← List.map_reverse, ← List.map_reverse, cplL_map hf]
theorem end_map (a : List Nat) (n : Nat) : endG (a.map f) n = (endG a n).map f := by
  unfold endG; rw [List.map_take, List.length_map]
theorem lev1_map (hf : ∀ a b, f a = f b → a = b) (a b : List Nat) (k : Int) : lev1G (a.map f) (b.map f) k = lev1G a b k := by
  unfold lev1G; rw [csl_map hf, end_map, end_map, lev2_map hf]
theorem map_same (hf : ∀ a b, f a = f b → a = b) : ∀ x y : List Nat, x.map f = y.map f → x = y
  | [], [], _ => rfl
  | [], _ :: _, h => by simp at h
  | _ :: _, [], h => by simp at h
  | a :: x, b :: y, h => by
    simp only [List.map_cons, List.cons.injEq] at h
    rw [hf _ _ h.1, map_same hf x y h.2]
theorem lev_map (hf : ∀ a b, f a = f b → a = b) (x y : List Nat) (k : Int) : levG (x.map f) (y.map f) k = levG x y k := by
  unfold levG
  by_cases h : x = y
  · rw [if_pos h, if_pos (by rw [h])]
  · rw [if_neg h, if_neg (fun e => h (map_same hf x y e)), cplL_map hf, ← List.map_drop, ← List.map_drop, lev1_map hf]
end
/-! ## the words -/
def wordsG (ss : List (List Nat)) : Nat → List (List Nat)
  | 0 => [[]]
  | k + 1 => (wordsG ss k).flatMap fun w => ss.map (w ++ ·)
theorem codes_app (a b : Str) : codes (a ++ b) = codes a ++ codes b := Array.toList_append
theorem words_codes (ss : List Str) : ∀ n, (wordsF ss n).map codes = wordsG (ss.map codes) n
  | 0 => rfl
  | k + 1 => by
    unfold wordsF wordsG
    rw [← words_codes ss k, List.map_flatMap, List.flatMap_map]
    congr 1
    funext w
    rw [List.map_map, List.map_map]
    congr 1
    funext z
    exact codes_app w z
theorem words_map {f : Nat → Nat} (ss : List (List Nat)) : ∀ n, wordsG (ss.map (List.map f)) n = (wordsG ss n).map (List.map f)
  | 0 => rfl
  | k + 1 => by
    unfold wordsG
    rw [words_map ss k, List.map_flatMap, List.flatMap_map]
    congr 1
    funext w
    rw [List.map_map, List.map_map]
    congr 1
    funext z
    simp
def toldG (x : List Nat) (ws : List (List Nat)) (b : Int) : List Int := (List.range ws.length).map fun k => if k % 2 = 0 then levG x (ws.getD k []) b else levG (ws.getD k []) x b
theorem told_map {f : Nat → Nat} (hf : ∀ a b, f a = f b → a = b) (x : List Nat) (ws : List (List Nat)) (b : Int) : toldG (x.map f) (ws.map (List.map f)) b = toldG x ws b := by
  unfold toldG
  rw [List.length_map]
  congr 1
  funext k
  have e : (ws.map (List.map f)).getD k [] = (ws.getD k []).map f := by
    rw [List.getD_eq_getElem?_getD, List.getD_eq_getElem?_getD, List.getElem?_map]
    cases ws[k]? <;> rfl
  rw [e, lev_map hf, lev_map hf]
theorem told_plain {x : Str} {ws : List Str} {b : Int} (hx : PlainL (codes x)) (hw : ∀ y ∈ ws, PlainL (codes y)) : toldF x ws b ws.length = toldG (codes x) (ws.map codes) b := by
  unfold toldF toldG
  rw [List.length_map]
  refine List.map_congr_left fun k hk => ?_
  have hk := List.mem_range.1 hk
  have e : (ws.map codes).getD k [] = codes (ws.getD k Str.empty) := by
    rw [List.getD_eq_getElem?_getD, List.getD_eq_getElem?_getD, List.getElem?_map]
    cases ws[k]? <;> rfl
  have hy : PlainL (codes (ws.getD k Str.empty)) := hw _ (strs_getD_mem hk)
  rw [e]
  unfold toldAt
  rw [lev_plain hx hy, lev_plain hy hx]
def runsG (l : List Nat) : Nat → Int
  | 0 => 0
  | i + 1 => if i = 0 ∨ l[i]? ≠ l[i - 1]? then runsG l i + 1 else runsG l i
theorem runs_map {f : Nat → Nat} (hf : ∀ a b, f a = f b → a = b) (l : List Nat) : ∀ i, runsG (l.map f) i = runsG l i
  | 0 => rfl
  | i + 1 => by
    unfold runsG
    rw [runs_map hf l i]
    have e := opt_map hf l l i (i - 1)
    by_cases h : i = 0 ∨ l[i]? ≠ l[i - 1]?
    · rw [if_pos h, if_pos (h.imp id fun h h' => h (e.1 h'))]
    · rw [if_neg h, if_neg (fun h' => h (h'.imp id fun h h'' => h (e.2 h'')))]
theorem runs_codes (x : Str) : ∀ i ≤ x.length, runsN x i = runsG (codes x) i
  | 0, _ => rfl
  | i + 1, h => by
    unfold runsN runsG
    rw [runs_codes x i (by omega)]
    have e : ((i : Int) = 0 ∨ Txt.item x (i : Int) ≠ Txt.item x ((i : Int) - 1)) ↔ (i = 0 ∨ (codes x)[i]? ≠ (codes x)[i - 1]?) := by
      by_cases h0 : i = 0
      · simp [h0]
      · have hi : i < (codes x).length := by rw [← len_is]; omega
        have hj : i - 1 < (codes x).length := by omega
        have ei : ((i : Int) - 1) = ((i - 1 : Nat) : Int) := by omega
        rw [ei, item_at x i (by omega), item_at x (i - 1) (by omega), getD_at hi, getD_at hj, List.getElem?_eq_getElem hi, List.getElem?_eq_getElem hj]
        have : ¬ (i : Int) = 0 := by omega
        simp [h0]
    by_cases h : (i : Int) = 0 ∨ Txt.item x (i : Int) ≠ Txt.item x ((i : Int) - 1)
    · rw [if_pos h, if_pos (e.1 h)]
    · rw [if_neg h, if_neg (fun h' => h (e.2 h'))]
def dueG (l : List Nat) (q m : Int) : Int := if m < l.length then runsG l l.length else if m = l.length then l.length * (q - 1) else if m = l.length + 1 then 1 + m * (q - 1) else 1 + m * (q - 1) + (m * (m - 1)).fdiv 2 * (q - 1) ^ 2
theorem due_codes (x : Str) (q m : Int) : dueF x q m = dueG (codes x) q m := by
  unfold dueF dueG runsF
  rw [runs_codes x _ (Nat.le_refl _), len_is]
theorem due_map {f : Nat → Nat} (hf : ∀ a b, f a = f b → a = b) (l : List Nat) (q m : Int) : dueG (l.map f) q m = dueG l q m := by
  unfold dueG
  rw [List.length_map, runs_map hf]
end Mine

end
section
open PySem PySem.W PyProof.Rows
set_option Elab.async false
set_option maxRecDepth 100000
set_option maxHeartbeats 8000000
namespace Mine
def goodG (q : Int) (n m : Nat) (canon : List (List Nat)) (b : Int) (W : List Nat) : Bool :=
  decide ((((toldG W (wordsG canon m) b).count b : Nat) : Int) = dueG W q m) && decide ((toldG W (wordsG canon m) b).filter (fun x => decide (x < b)) = if m = n then [0] else [])
theorem canon22 : ∀ W ∈ wordsG [[0], [1]] 2, goodG 2 2 1 [[0], [1]] 2 W && goodG 2 2 2 [[0], [1]] 2 W && goodG 2 2 3 [[0], [1]] 2 W && goodG 2 2 4 [[0], [1]] 4 W = true := by decide +kernel
theorem canon32 : ∀ W ∈ wordsG [[0], [1], [2]] 2, goodG 3 2 1 [[0], [1], [2]] 2 W && goodG 3 2 2 [[0], [1], [2]] 2 W && goodG 3 2 3 [[0], [1], [2]] 2 W = true := by decide +kernel
theorem canon23 : ∀ W ∈ wordsG [[0], [1]] 3, goodG 2 3 2 [[0], [1]] 2 W && goodG 2 3 3 [[0], [1]] 2 W && goodG 2 3 4 [[0], [1]] 2 W && goodG 2 3 5 [[0], [1]] 4 W = true := by decide +kernel
end Mine

end
section
open PySem PySem.W PyProof.Rows
set_option Elab.async false
set_option maxRecDepth 100000
set_option maxHeartbeats 8000000
namespace Mine
theorem words_low {canon : List (List Nat)} (hc : ∀ w ∈ canon, ∀ c ∈ w, c ≤ 2) : ∀ m, ∀ w ∈ wordsG canon m, ∀ c ∈ w, c ≤ 2
  | 0, w, hw, c, h => by
    unfold wordsG at hw
    rw [List.mem_singleton.1 hw] at h
    exact absurd h (List.not_mem_nil)
  | m + 1, w, hw, c, h => by
    unfold wordsG at hw
    obtain ⟨w1, h1, h2⟩ := List.mem_flatMap.1 hw
    obtain ⟨z, hz, rfl⟩ := List.mem_map.1 h2
    rcases List.mem_append.1 h with h | h
    · exact words_low hc m w1 h1 c h
    · exact hc z hz c h
theorem plain_map {f : Nat → Nat} (hp : ∀ c ≤ 2, PlainC (f c)) {l : List Nat} (h : ∀ c ∈ l, c ≤ 2) : PlainL (l.map f) := fun c hc => by
  obtain ⟨z, hz, rfl⟩ := List.mem_map.1 hc
  exact hp z (h z hz)
def GoodT (q : Int) (n m : Nat) (ss : List Str) (W : Str) (b : Int) : Prop :=
  (((toldF W (wordsF ss m) b (wordsF ss m).length).count b : Nat) : Int) = dueF W q m ∧ (toldF W (wordsF ss m) b (wordsF ss m).length).filter (fun x => decide (x < b)) = if m = n then [0] else []
theorem law_plain {f : Nat → Nat} (hf : ∀ a b, f a = f b → a = b) (hp : ∀ c ≤ 2, PlainC (f c)) {ss : List Str} {canon : List (List Nat)} (hss : ss.map codes = canon.map (List.map f)) (hc : ∀ w ∈ canon, ∀ c ∈ w, c ≤ 2)
    {W : Str} {W0 : List Nat} (hW : codes W = W0.map f) {n m : Nat} {q b : Int} (hW0 : W0 ∈ wordsG canon n) (g : goodG q n m canon b W0 = true) : GoodT q n m ss W b := by
  have hx : PlainL (codes W) := by rw [hW]; exact plain_map hp (words_low hc n W0 hW0)
  have ew : (wordsF ss m).map codes = (wordsG canon m).map (List.map f) := by rw [words_codes, hss, words_map]
  have hy : ∀ y ∈ wordsF ss m, PlainL (codes y) := fun y hy => by
    have h1 : codes y ∈ (wordsF ss m).map codes := List.mem_map.2 ⟨y, hy, rfl⟩
    rw [ew] at h1
    obtain ⟨z, hz, e⟩ := List.mem_map.1 h1
    rw [← e]
    exact plain_map hp (words_low hc m z hz)
  have et : toldF W (wordsF ss m) b (wordsF ss m).length = toldG W0 (wordsG canon m) b := by rw [told_plain hx hy, ew, hW, told_map hf]
  unfold GoodT
  rw [et, due_codes, hW, due_map hf]
  unfold goodG at g
  rw [Bool.and_eq_true] at g
  exact ⟨of_decide_eq_true g.1, of_decide_eq_true g.2⟩
def nameOf (total : Int) (n : Nat) : Nat := if n = 0 then (33 + total.fmod 31).toNat else if n = 1 then (33 + (total.fmod 31 + 1 + (total.fdiv 31).fmod 30).fmod 31).toNat else if n = 2 then 126 else n + 1000
theorem name_bnd (total : Int) : (0 ≤ total.fmod 31 ∧ total.fmod 31 < 31) ∧ (0 ≤ (total.fmod 31 + 1 + (total.fdiv 31).fmod 30).fmod 31 ∧ (total.fmod 31 + 1 + (total.fdiv 31).fmod 30).fmod 31 < 31) ∧ total.fmod 31 ≠ (total.fmod 31 + 1 + (total.fdiv 31).fmod 30).fmod 31 := by
  rw [Int.fmod_eq_emod_of_nonneg _ (by decide), Int.fmod_eq_emod_of_nonneg _ (by decide), Int.fmod_eq_emod_of_nonneg _ (by decide)]
  generalize total.fdiv 31 = k
  omega
theorem name_inj (total : Int) : ∀ a b, nameOf total a = nameOf total b → a = b := by
  intro a b
  have h := name_bnd total
  unfold nameOf
  generalize total.fmod 31 = p at h
  generalize (p + 1 + (total.fdiv 31).fmod 30).fmod 31 = r at h
  intro e
  repeat' split at e
  all_goals omega
theorem name_plain (total : Int) : ∀ c ≤ 2, PlainC (nameOf total c) := by
  intro c hc
  have h := name_bnd total
  unfold nameOf PlainC
  generalize total.fmod 31 = p at h
  generalize (p + 1 + (total.fdiv 31).fmod 30).fmod 31 = r at h
  match c, hc with
  | 0, _ => left; simp only [if_true]; omega
  | 1, _ => left; simp only [if_true]; show 33 ≤ (33 + r).toNat ∧ (33 + r).toNat ≤ 63; omega
  | 2, _ => right; rfl
theorem signs2_codes (total : Int) : (signs2 total).map codes = [[0], [1]].map (List.map (nameOf total)) := rfl
theorem signs3_codes (total : Int) : (signs3 total).map codes = [[0], [1], [2]].map (List.map (nameOf total)) := rfl
theorem at2 (total : Int) : ∀ i < 2, codes ((signs2 total).getD i Str.empty) = [nameOf total i]
  | 0, _ => rfl
  | 1, _ => rfl
theorem at3 (total : Int) : ∀ i < 3, codes ((signs3 total).getD i Str.empty) = [nameOf total i]
  | 0, _ => rfl
  | 1, _ => rfl
  | 2, _ => rfl
theorem codes_join2 (a b : Str) : codes (Txt.join Str.empty [a, b]) = codes a ++ codes b := by
  have e : Txt.join Str.empty [a, b] = a ++ Str.empty ++ b := by simp [Txt.join, StrLaws.glued_eq_join, Str.join]
  rw [e, codes_app, codes_app]
  simp [codes, Str.empty]
theorem codes_join3 (a b c : Str) : codes (Txt.join Str.empty [a, b, c]) = codes a ++ codes b ++ codes c := by
  have e : Txt.join Str.empty [a, b, c] = a ++ Str.empty ++ (b ++ Str.empty ++ c) := by simp [Txt.join, StrLaws.glued_eq_join, Str.join]
  rw [e, codes_app, codes_app, codes_app, codes_app]
  simp [codes, Str.empty]
theorem and4 {a b c d : Bool} (h : (a && b && c && d) = true) : a = true ∧ b = true ∧ c = true ∧ d = true := by
  revert h; cases a <;> cases b <;> cases c <;> cases d <;> decide
theorem and3 {a b c : Bool} (h : (a && b && c) = true) : a = true ∧ b = true ∧ c = true := by
  revert h; cases a <;> cases b <;> cases c <;> decide
theorem law22 {total : Int} {W : Str} {i j : Nat} (hi : i < 2) (hj : j < 2) (e : W = Txt.join Str.empty [(signs2 total).getD i Str.empty, (signs2 total).getD j Str.empty]) :
    GoodT 2 2 1 (signs2 total) W 2 ∧ GoodT 2 2 2 (signs2 total) W 2 ∧ GoodT 2 2 3 (signs2 total) W 2 ∧ GoodT 2 2 4 (signs2 total) W 4 := by
  have hW : codes W = [i, j].map (nameOf total) := by rw [e, codes_join2, at2 _ _ hi, at2 _ _ hj]; rfl
  have hm : ∀ i < 2, ∀ j < 2, [i, j] ∈ wordsG [[0], [1]] 2 := by decide
  obtain ⟨g1, g2, g3, g4⟩ := and4 (canon22 _ (hm i hi j hj))
  have L := fun {m : Nat} {b : Int} (g : goodG 2 2 m [[0], [1]] b [i, j] = true) => law_plain (name_inj total) (name_plain total) (signs2_codes total) (by decide) hW (hm i hi j hj) g
  exact ⟨L g1, L g2, L g3, L (of_decide_eq_true g4)⟩
theorem law32 {total : Int} {W : Str} {i j : Nat} (hi : i < 3) (hj : j < 3) (e : W = Txt.join Str.empty [(signs3 total).getD i Str.empty, (signs3 total).getD j Str.empty]) :
    GoodT 3 2 1 (signs3 total) W 2 ∧ GoodT 3 2 2 (signs3 total) W 2 ∧ GoodT 3 2 3 (signs3 total) W 2 := by
  have hW : codes W = [i, j].map (nameOf total) := by rw [e, codes_join2, at3 _ _ hi, at3 _ _ hj]; rfl
  have hm : ∀ i < 3, ∀ j < 3, [i, j] ∈ wordsG [[0], [1], [2]] 2 := by decide
  obtain ⟨g1, g2, g3⟩ := and3 (canon32 _ (hm i hi j hj))
  have L := fun {m : Nat} {b : Int} (g : goodG 3 2 m [[0], [1], [2]] b [i, j] = true) => law_plain (name_inj total) (name_plain total) (signs3_codes total) (by decide) hW (hm i hi j hj) g
  exact ⟨L g1, L g2, L (of_decide_eq_true g3)⟩
theorem law23 {total : Int} {W : Str} {i j k : Nat} (hi : i < 2) (hj : j < 2) (hk : k < 2) (e : W = Txt.join Str.empty [(signs2 total).getD i Str.empty, (signs2 total).getD j Str.empty, (signs2 total).getD k Str.empty]) :
    GoodT 2 3 2 (signs2 total) W 2 ∧ GoodT 2 3 3 (signs2 total) W 2 ∧ GoodT 2 3 4 (signs2 total) W 2 ∧ GoodT 2 3 5 (signs2 total) W 4 := by
  have hW : codes W = [i, j, k].map (nameOf total) := by rw [e, codes_join3, at2 _ _ hi, at2 _ _ hj, at2 _ _ hk]; rfl
  have hm : ∀ i < 2, ∀ j < 2, ∀ k < 2, [i, j, k] ∈ wordsG [[0], [1]] 3 := by decide
  obtain ⟨g1, g2, g3, g4⟩ := and4 (canon23 _ (hm i hi j hj k hk))
  have L := fun {m : Nat} {b : Int} (g : goodG 2 3 m [[0], [1]] b [i, j, k] = true) => law_plain (name_inj total) (name_plain total) (signs2_codes total) (by decide) hW (hm i hi j hj k hk) g
  exact ⟨L g1, L g2, L g3, L (of_decide_eq_true g4)⟩
end Mine

end
section
open PySem PySem.W PyProof.Rows PySem.Calls PySem.Spec PyProof.Rows.LCg
set_option Elab.async false
set_option maxRecDepth 100000
set_option maxHeartbeats 1000000
namespace Mine
section
variable {prog : Program} {w : World} {A : Around} {E : Value → Shared → Prop} {s : Shared} {env : Env} {h₀ : Heap} {L r : Addr} {m₀ : Str → Option Value} {news : List (Addr × Obj)} {body : List Stmt} {Q : Flow → Shared → Prop}
    {a1 a2 a3 : Tok} {x : Str}
theorem range_loopA {n : Nat} {lo hi : Int} (J : Nat → (Str → Option Value) → List (Addr × Obj) → Prop)
    (hL : env.locals = L) (hh : A.handled = none) (hr : IsRange s.heap r lo hi 1 a1 a2 a3) (hn : hi = lo + n) (hlo : 0 ≤ lo) (hhi : hi ≤ 1000)
    (F : Fr h₀ L s.heap m₀) (N : News h₀ L s.heap news) (hj : J 0 m₀ news)
    (turn : ∀ (i : Nat) (t : Tok) m₁ news₁ h tk I oI, i < n → J i m₁ news₁ → (∀ p ∈ news₁, p.1 ≠ I) → Fr h₀ L h (fun y => if y = x then some (.int (lo + i) t) else m₁ y) → News h₀ L h ((I, oI) :: news₁) →
      wpAny (model prog w) A (execs body env) (GEnd h₀ L I oI (J (i + 1)) s Q) E { s with heap := h, toks := tk })
    (done : ∀ m₁ news₁ h tk, J n m₁ news₁ → Fr h₀ L h m₁ → News h₀ L h news₁ → Q .next { s with heap := h, toks := tk }) :
    wpAny (model prog w) A (pyIter (.ref r)) (fun it s₂ => LoopAtV prog w A h₀ env x body Q E it s₂) E s := by
  subst hL hn
  have hsz : Builtin.Range.rangeSize lo (lo + (n : Int)) 1 = (n : Int) := by rw [rangeSize_nat]; omega
  refine wpAny_pyIter_range hr (small_one (by omega) (by omega) (by omega) (by omega)) ?_
  have W : Walks prog w A s.heap.objs.size [s.heap.objs.size] [s.heap.objs.size] n (fun i v => i < n ∧ ∃ t, v = .int (lo + i * 1) t)
      (fun i h => IsRangeIter h s.heap.objs.size (lo + (i : Nat) * 1) ((n : Int) - (i : Nat)) 1) := (Walks.range hh _ lo 1 n).bound
  have hfresh : h₀.get? s.heap.objs.size = none := next_is_new F
  refine ⟨_, _, _, n, _, _, m₀, news, J, rfl, W, ?_, ?_, ?_, ?_, F.push _, (fun p hp => ⟨Heap.get?_push_of_some _ (N p hp).1, (N p hp).2⟩), hj, ?_, ?_⟩
  · intro hm
    exact absurd F.ns.lt ((List.mem_singleton.mp hm) ▸ Nat.lt_irrefl _)
  · intro b hb
    rw [List.mem_singleton.mp hb]
    exact hfresh
  · intro p hp hI
    exact absurd (Heap.lt_size (N p hp).1) ((List.mem_singleton.mp hI) ▸ Nat.lt_irrefl _)
  · show IsRangeIter _ _ _ _ _
    rw [hsz]
    simpa using Heap.get?_push_size _ rfl
  · rintro i v m₁ news₁ s₁ own ⟨hh', tk', rfl⟩ hi ⟨_, t, rfl⟩ hJ hoff hown hget hfp hst F₁ N₁
    have e1 : lo + (i : Int) * 1 = lo + (i : Int) := by omega
    rw [e1] at F₁
    have hit : ∃ oI, hh'.get? s.heap.objs.size = some oI := ⟨_, hst⟩
    obtain ⟨oI, hoI⟩ := hit
    have hin : (s.heap.objs.size, oI) ∈ own := hfp _ List.mem_cons_self hfresh _ hoI
    have N₂ : News h₀ env.locals hh' ((s.heap.objs.size, oI) :: news₁) := fun p hp => by
      rcases List.mem_cons.mp hp with rfl | hp
      · exact N₁ _ (List.mem_append.mpr (.inl hin))
      · exact N₁ _ (List.mem_append.mpr (.inr hp))
    refine wpAny_mono (turn i t m₁ news₁ hh' tk' s.heap.objs.size oI hi hJ (fun p hp q => hoff p hp (List.mem_singleton.mpr q)) F₁ N₂) (fun fl s₂ q => ?_) fun _ _ x => x
    rcases q with ⟨v, rfl, q⟩ | ⟨rfl, h', tk, m', news', rfl, F', N', hne, hJ'⟩
    · exact .ret q
    · refine .next ⟨rfl, h', tk, m', news', rfl, F', fun p hp => ?_, fun p hp q => hne p hp (List.mem_singleton.mp q), hJ'⟩
      rcases List.mem_append.mp hp with hp | hp
      · have h1 : p.1 = s.heap.objs.size := List.mem_singleton.mp (hown p hp)
        have h2 := hget p hp
        rw [h1, hoI] at h2
        have h3 : p = (s.heap.objs.size, oI) := Prod.ext h1 (Option.some.inj h2).symm
        rw [h3]
        exact N' _ List.mem_cons_self
      · exact N' _ (List.mem_cons_of_mem _ hp)
  · rintro h' tk m' news' F' N' _ hJ
    exact done m' news' h' tk hJ F' N'

/-- what the law's loop keeps from turn to turn -/
def MKeep (base : List (Addr × Obj)) (cb : Addr) (m₀ m : Str → Option Value) (nx : List (Addr × Obj)) : Prop :=
  ∃ ob vb, nx = (cb, ob) :: base ∧ ob.data = .cell vb ∧ ∀ z, z ≠ Str.ofString "m" → z ≠ Str.ofString "told" → z ≠ Str.ofString "nearer" → m z = m₀ z
theorem mEnd_of {I : Addr} {oI ob : Obj} {base nx : List (Addr × Obj)} {cb : Addr} {vb : Option Value} {m' : Str → Option Value} {h' : Heap} {tk : Nat} {Q : Flow → Shared → Prop}
    (F : Fr h₀ L h' m') (N : News h₀ L h' nx) (hI : (I, oI) ∈ nx) (hb : (cb, ob) ∈ nx) (hs : ∀ p ∈ base, p ∈ nx) (hne : cb ≠ I ∧ ∀ p ∈ base, p.1 ≠ I) (hd : ob.data = .cell vb)
    (hz : ∀ z, z ≠ Str.ofString "m" → z ≠ Str.ofString "told" → z ≠ Str.ofString "nearer" → m' z = m₀ z) :
    GEnd h₀ L I oI (MKeep base cb m₀) s Q .next { s with heap := h', toks := tk } := by
  refine .inr ⟨rfl, h', tk, m', (cb, ob) :: base, rfl, F, fun p hp => ?_, fun p hp => ?_, ob, vb, rfl, hd, hz⟩
  · rcases List.mem_cons.mp hp with rfl | hp
    · exact N _ hI
    · rcases List.mem_cons.mp hp with rfl | hp
      · exact N _ hb
      · exact N _ (hs _ hp)
  · rcases List.mem_cons.mp hp with rfl | hp
    · exact hne.1
    · exact hne.2 p hp
theorem m_loop {n : Nat} {lo hi : Int} {base nx : List (Addr × Obj)} {cb : Addr} {ob : Obj} {vb : Option Value}
    (hL : env.locals = L) (hh : A.handled = none) (hr : IsRange s.heap r lo hi 1 a1 a2 a3) (hn : hi = lo + n) (hlo : 0 ≤ lo) (hhi : hi ≤ 1000)
    (F : Fr h₀ L s.heap m₀) (N : News h₀ L s.heap nx) (hb : (cb, ob) ∈ nx) (hs : ∀ p ∈ base, p ∈ nx) (hd : ob.data = .cell vb)
    (turn : ∀ (i : Nat) (t : Tok) (u : Str → Option Value) h tk I oI ob vb, i < n → cb ≠ I → (∀ p ∈ base, p.1 ≠ I) → ob.data = .cell vb →
      Fr h₀ L h (fun y => if y = Str.ofString "m" then some (.int (lo + i) t) else if y = Str.ofString "told" then u y else if y = Str.ofString "nearer" then u y else m₀ y) → News h₀ L h ((I, oI) :: (cb, ob) :: base) →
      wpAny (model prog w) A (execs body env) (GEnd h₀ L I oI (MKeep base cb m₀) s Q) E { s with heap := h, toks := tk })
    (done : ∀ (u : Str → Option Value) h tk, Fr h₀ L h u → News h₀ L h base → Q .next { s with heap := h, toks := tk }) :
    wpAny (model prog w) A (pyIter (.ref r)) (fun it s₂ => LoopAtV prog w A h₀ env (Str.ofString "m") body Q E it s₂) E s := by
  have N0 : News h₀ L s.heap ((cb, ob) :: base) := fun p hp => by
    rcases List.mem_cons.mp hp with rfl | hp
    · exact N _ hb
    · exact N _ (hs _ hp)
  refine range_loopA (fun _ => MKeep base cb m₀) hL hh hr hn hlo hhi F N0 ⟨ob, vb, rfl, hd, fun z _ _ _ => rfl⟩ ?_ ?_
  · rintro i t m₁ news₁ h tk I oI hi' ⟨ob', vb', rfl, hd', hz⟩ hne F₁ N₁
    have em : (fun y => if y = Str.ofString "m" then some (Value.int (lo + i) t) else m₁ y) = (fun y => if y = Str.ofString "m" then some (.int (lo + i) t) else if y = Str.ofString "told" then m₁ y else if y = Str.ofString "nearer" then m₁ y else m₀ y) := by
      funext y
      by_cases h1 : y = Str.ofString "m"
      · rw [if_pos h1, if_pos h1]
      · rw [if_neg h1, if_neg h1]
        by_cases h2 : y = Str.ofString "told"
        · rw [if_pos h2]
        · rw [if_neg h2]
          by_cases h3 : y = Str.ofString "nearer"
          · rw [if_pos h3]
          · rw [if_neg h3, hz y h1 h2 h3]
    exact turn i t m₁ h tk I oI ob' vb' hi' (hne _ List.mem_cons_self) (fun p hp => hne p (List.mem_cons_of_mem _ hp)) hd' (em ▸ F₁) N₁
  · rintro m₁ news₁ h tk ⟨ob', vb', rfl, hd', hz⟩ F₁ N₁
    exact done m₁ h tk F₁ fun p hp => N₁ p (List.mem_cons_of_mem _ hp)
theorem m_loopB {n : Nat} {lo hi q : Int} {nx : List (Addr × Obj)} {D : Addr} {us : List Value} {c : Nat} {ss : List Str} {oq os ob : Obj} {tq : Tok} {vb : Option Value}
    (hL : env.locals = L) (hh : A.handled = none) (hr : IsRange s.heap r lo hi 1 a1 a2 a3) (hn : hi = lo + n) (hlo : 0 ≤ lo) (hhi : hi ≤ 1000)
    (F : Fr h₀ L s.heap m₀) (N : News h₀ L s.heap nx) (_hS : StrsAre us ss) (hm : (D, listOf us.toArray c) ∈ nx)
    (hq : (L + 1, oq) ∈ nx) (_hqd : oq.data = .cell (some (.int q tq))) (hs : (L + 1 + 1 + 1, os) ∈ nx) (_hsd : os.data = .cell (some (.ref D))) (hb : (L + 1 + 1 + 1 + 1, ob) ∈ nx) (hd : ob.data = .cell vb)
    (turn : ∀ (z : Int) (t : Tok) (u : Str → Option Value) h tk I oI ob vb, lo ≤ z → z < hi → @Ne Nat (L + 1 + 1 + 1 + 1) I → @Ne Nat (L + 1 + 1 + 1) I → @Ne Nat D I → @Ne Nat (L + 1) I → ob.data = .cell vb →
      Fr h₀ L h (fun y => if y = Str.ofString "m" then some (.int z t) else if y = Str.ofString "told" then u y else if y = Str.ofString "nearer" then u y else m₀ y) →
      News h₀ L h ((I, oI) :: (L + 1 + 1 + 1 + 1, ob) :: (D, listOf us.toArray c) :: (L + 1 + 1 + 1, os) :: (L + 1, oq) :: []) →
      wpAny (model prog w) A (execs body env) (GEnd h₀ L I oI (MKeep [(D, listOf us.toArray c), (L + 1 + 1 + 1, os), (L + 1, oq)] (L + 1 + 1 + 1 + 1) m₀) s Q) E { s with heap := h, toks := tk })
    (done : ∀ (u : Str → Option Value) h tk, Fr h₀ L h u → News h₀ L h ((D, listOf us.toArray c) :: []) → Q .next { s with heap := h, toks := tk }) :
    wpAny (model prog w) A (pyIter (.ref r)) (fun it s₂ => LoopAtV prog w A h₀ env (Str.ofString "m") body Q E it s₂) E s :=
  m_loop (base := [(D, listOf us.toArray c), (L + 1 + 1 + 1, os), (L + 1, oq)]) hL hh hr hn hlo hhi F N hb
    (fun p hp => by
      rcases List.mem_cons.mp hp with rfl | hp
      · exact hm
      · rcases List.mem_cons.mp hp with rfl | hp
        · exact hs
        · rcases List.mem_cons.mp hp with rfl | hp
          · exact hq
          · exact absurd hp List.not_mem_nil) hd
    (fun i t u h tk I oI ob vb hi' hc hne hd' F' N' => turn (lo + i) t u h tk I oI ob vb (by omega) (by omega) hc (hne (L + 1 + 1 + 1, os) (.tail _ (.head _))) (hne (D, listOf us.toArray c) (.head _)) (hne (L + 1, oq) (.tail _ (.tail _ (.head _)))) hd' F' N')
    (fun u h tk F' N' => done u h tk F' fun p hp => by
      rcases List.mem_cons.mp hp with rfl | hp
      · exact N' _ (.head _)
      · exact absurd hp List.not_mem_nil)
end
/-- what the law asks of the words of z signs -/
def GoodZ (q n z : Int) (ss : List Str) (W : Str) (b : Int) : Prop :=
  (((toldF W (wordsF ss z.toNat) b (wordsF ss z.toNat).length).count b : Nat) : Int) = dueF W q z ∧ (toldF W (wordsF ss z.toNat) b (wordsF ss z.toNat).length).filter (fun x => decide (x < b)) = if z = n then [0] else []
def GoodAll (q n lo hi : Int) (ss : List Str) (W : Str) : Prop := ∀ z b : Int, lo ≤ z → z < hi → b = (if z ≤ n + 1 then 2 else 4) → GoodZ q n z ss W b
theorem goodZ_of {q : Int} {n m : Nat} {ss : List Str} {W : Str} {b : Int} (g : GoodT q n m ss W b) : GoodZ q (n : Int) (m : Int) ss W b := by
  refine ⟨?_, ?_⟩
  · rw [Int.toNat_natCast]; exact g.1
  · rw [Int.toNat_natCast, g.2]
    by_cases h : m = n
    · rw [if_pos h, if_pos (by omega)]
    · rw [if_neg h, if_neg (by omega)]
theorem all4 {q : Int} {n : Nat} {ss : List Str} {W : Str} {lo : Nat} (hn : lo + 1 = n) (g1 : GoodT q n lo ss W 2) (g2 : GoodT q n (lo + 1) ss W 2) (g3 : GoodT q n (lo + 2) ss W 2) (g4 : GoodT q n (lo + 3) ss W 4) :
    GoodAll q (n : Int) (lo : Int) ((lo : Int) + 4) ss W := by
  intro z b h1 h2 hb
  have hz : z = ((lo : Nat) : Int) ∨ z = ((lo + 1 : Nat) : Int) ∨ z = ((lo + 2 : Nat) : Int) ∨ z = ((lo + 3 : Nat) : Int) := by omega
  rcases hz with rfl | rfl | rfl | rfl
  · rw [hb, if_pos (by omega)]; exact goodZ_of g1
  · rw [hb, if_pos (by omega)]; exact goodZ_of g2
  · rw [hb, if_pos (by omega)]; exact goodZ_of g3
  · rw [hb, if_neg (by omega)]; exact goodZ_of g4
theorem all3 {q : Int} {n : Nat} {ss : List Str} {W : Str} {lo : Nat} (hn : lo + 1 = n) (g1 : GoodT q n lo ss W 2) (g2 : GoodT q n (lo + 1) ss W 2) (g3 : GoodT q n (lo + 2) ss W 2) :
    GoodAll q (n : Int) (lo : Int) ((lo : Int) + 3) ss W := by
  intro z b h1 h2 hb
  have hz : z = ((lo : Nat) : Int) ∨ z = ((lo + 1 : Nat) : Int) ∨ z = ((lo + 2 : Nat) : Int) := by omega
  rcases hz with rfl | rfl | rfl
  · rw [hb, if_pos (by omega)]; exact goodZ_of g1
  · rw [hb, if_pos (by omega)]; exact goodZ_of g2
  · rw [hb, if_pos (by omega)]; exact goodZ_of g3
theorem all22 {total : Int} {W : Str} {i j : Nat} (hi : i < 2) (hj : j < 2) (e : W = Txt.join Str.empty [(signs2 total).getD i Str.empty, (signs2 total).getD j Str.empty]) : GoodAll 2 2 1 5 (signs2 total) W := by
  obtain ⟨g1, g2, g3, g4⟩ := law22 hi hj e
  exact all4 (lo := 1) (n := 2) rfl g1 g2 g3 g4
theorem all32 {total : Int} {W : Str} {i j : Nat} (hi : i < 3) (hj : j < 3) (e : W = Txt.join Str.empty [(signs3 total).getD i Str.empty, (signs3 total).getD j Str.empty]) : GoodAll 3 2 1 4 (signs3 total) W := by
  obtain ⟨g1, g2, g3⟩ := law32 hi hj e
  exact all3 (lo := 1) (n := 2) rfl g1 g2 g3
theorem all23 {total : Int} {W : Str} {i j k : Nat} (hi : i < 2) (hj : j < 2) (hk : k < 2) (e : W = Txt.join Str.empty [(signs2 total).getD i Str.empty, (signs2 total).getD j Str.empty, (signs2 total).getD k Str.empty]) : GoodAll 2 3 2 6 (signs2 total) W := by
  obtain ⟨g1, g2, g3, g4⟩ := law23 hi hj hk e
  exact all4 (lo := 2) (n := 3) rfl g1 g2 g3 g4
theorem told_goodZ {q n lo hi z b : Int} {ss : List Str} {W : Str} {us : List Value} (h : IntsAre us (toldF W (wordsF ss z.toNat) b (wordsF ss z.toNat).length)) (hl : (wordsF ss z.toNat).length ≤ 1000) (g : GoodAll q n lo hi ss W) (h1 : lo ≤ z) (h2 : z < hi) (hb : b = (if z ≤ n + 1 then 2 else 4)) :
    ∃ ns, IntsAre us ns ∧ ((ns.count b : Nat) : Int) = dueF W q z ∧ ns.filter (fun x => decide (x < b)) = (if z = n then [0] else []) ∧ ns.length ≤ 1000 :=
  ⟨_, h, (g z b h1 h2 hb).1, (g z b h1 h2 hb).2, by unfold toldF; rw [List.length_map, List.length_range]; exact hl⟩
end Mine

end
section
open PySem PySem.W PyProof.Rows PySem.Calls PySem.Spec
set_option Elab.async false
set_option maxRecDepth 100000
set_option maxHeartbeats 1000000
namespace Mine
/-- an item of a tested comprehension is kept, or left out -/
def CtY (p : Bool) (k : Int) (news : List (Addr × Obj)) (y : Value) (news' : List (Addr × Obj)) : Prop := p = true ∧ news' = news ∧ ∃ t : Tok, y = .int k t
def CtN (p : Bool) (news : List (Addr × Obj)) (news' : List (Addr × Obj)) : Prop := p = false ∧ news' = news
theorem ctY_of {p : Bool} {k : Int} {t : Tok} {news : List (Addr × Obj)} (h : p = true) : CtY p k news (.int k t) news := ⟨h, rfl, t, rfl⟩
theorem ctN_of {p : Bool} {news : List (Addr × Obj)} (h : p = false) : CtN p news news := ⟨h, rfl⟩
section
variable {prog : Program} {w : World} {A : Around} {h₀ : Heap} {L : Addr} {m : Str → Option Value} {env : Env} {ct elt : Expr} {x : Str} {scope : Scope} {cl : List (Str × Addr)} {s : Shared} {S : List (Addr × Obj) → Prop} {Fin : List Value → List (Addr × Obj) → Prop} {news : List (Addr × Obj)}
theorem ct_ints {vs : List Value} {ns : List Int} (pz : Int → Bool) (hi : IntsAre vs ns)
    (turn : ∀ k t I oI C oC D m₂ ys h tk (E' : Value → Shared → Prop), LCg.NsObj oC m₂ → m₂ x = some (.int k t) → Fr h₀ L h m → News h₀ L h ((I, oI) :: (C, oC) :: (D, LCg.lst ys) :: news) → LCg.Off3 I C D news → ((@Ne Nat I C) ∧ (@Ne Nat I D) ∧ (@Ne Nat C D)) →
      wpAny (model prog w) A (isTrue ct (compEnvC scope cl C env) (eval ct (compEnvC scope cl C env))) (fun ok s' => if ok = true then
        wpAny (model prog w) A (eval elt (compEnvC scope cl C env)) (LCg.CompEnd h₀ L m { s with heap := h, toks := tk } I oI C oC D (LCg.lst ys) S (fun y news' => CtY (pz k) k news y news')) E' s'
        else LCg.CompEnd h₀ L m { s with heap := h, toks := tk } I oI C oC D (LCg.lst ys) S (fun _ news' => CtN (pz k) news news') Value.none s') E' { s with heap := h, toks := tk })
    (fin : ∀ ys, IntsAre ys (ns.filter pz) → Fin ys news) : LCt.CompRestT prog w A h₀ L m env ct elt x scope cl s S (fun i v => vs.toArray[i]? = some v) Fin vs.toArray.size 0 [] news := by
  have hn : ns.length = vs.toArray.size := by rw [List.size_toArray]; exact hi.length.symm
  generalize vs.toArray.size = n at hn
  have key : ∀ (j i : Nat) (ys : List Value), i + j = n → IntsAre ys ((ns.take i).filter pz) → LCt.CompRestT prog w A h₀ L m env ct elt x scope cl s S (fun i v => vs.toArray[i]? = some v) Fin j i ys news := by
    intro j
    induction j with
    | zero =>
      intro i ys hi' hy
      have e : i = ns.length := by omega
      subst e
      rw [List.take_length] at hy
      exact LCt.CompRestT.zero (fin ys hy)
    | succ j ih =>
      intro i ys hi' hy
      refine LCt.CompRestT.succ ?_
      intro v I oI C oC D m₂ h tk E' hv hC hx F N off ne
      obtain ⟨k, t, hv', hk⟩ := IntsAre.at hi i v (by simpa using hv)
      rw [hv'] at hx
      refine wpAny_mono (turn k t I oI C oC D m₂ ys h tk E' hC hx F N off ne) (fun ok s₂ hq => ?_) fun _ _ e => e
      cases ok with
      | true =>
        simp only [if_true] at hq ⊢
        refine wpAny_mono hq (fun y s₃ hq' => ?_) fun _ _ e => e
        obtain ⟨h', tk', nw, e, F', N', off', hS, hp, hn, t', hy'⟩ := hq'
        rw [hn] at N' off' hS
        refine ⟨h', tk', news, e, F', N', off', hS, ?_⟩
        rw [hy']
        refine ih (i + 1) _ (by omega) ?_
        rw [List.take_add_one, hk, List.filter_append]
        have e1 : List.filter pz (some k).toList = [k] := by simp [hp]
        rw [e1]
        exact IntsAre.append hy (.cons k t' .nil)
      | false =>
        simp only [Bool.false_eq_true, if_false] at hq ⊢
        obtain ⟨h', tk', nw, e, F', N', off', hS, hp, hn⟩ := hq
        rw [hn] at N' off' hS
        refine ⟨h', tk', news, e, F', N', off', hS, ?_⟩
        refine ih (i + 1) _ (by omega) ?_
        rw [List.take_add_one, hk, List.filter_append]
        have e1 : List.filter pz (some k).toList = [] := by simp [hp]
        rw [e1, List.append_nil]
        exact hy
  exact key n 0 [] (by omega) (by simp only [List.take_zero, List.filter_nil]; exact .nil)
theorem ct_intsE {vs : List Value} {ns r : List Int} {pz : Int → Bool} (hf : ns.filter pz = r) (hi : IntsAre vs ns)
    (turn : ∀ k t I oI C oC D m₂ ys h tk (E' : Value → Shared → Prop), LCg.NsObj oC m₂ → m₂ x = some (.int k t) → Fr h₀ L h m → News h₀ L h ((I, oI) :: (C, oC) :: (D, LCg.lst ys) :: news) → LCg.Off3 I C D news → ((@Ne Nat I C) ∧ (@Ne Nat I D) ∧ (@Ne Nat C D)) →
      wpAny (model prog w) A (isTrue ct (compEnvC scope cl C env) (eval ct (compEnvC scope cl C env))) (fun ok s' => if ok = true then
        wpAny (model prog w) A (eval elt (compEnvC scope cl C env)) (LCg.CompEnd h₀ L m { s with heap := h, toks := tk } I oI C oC D (LCg.lst ys) S (fun y news' => CtY (pz k) k news y news')) E' s'
        else LCg.CompEnd h₀ L m { s with heap := h, toks := tk } I oI C oC D (LCg.lst ys) S (fun _ news' => CtN (pz k) news news') Value.none s') E' { s with heap := h, toks := tk })
    (fin : ∀ ys, IntsAre ys r → Fin ys news) : LCt.CompRestT prog w A h₀ L m env ct elt x scope cl s S (fun i v => vs.toArray[i]? = some v) Fin vs.toArray.size 0 [] news :=
  ct_ints pz hi turn (by rw [hf]; exact fin)
theorem ints_size {vs : List Value} {ns : List Int} (hi : IntsAre vs ns) (hl : ns.length ≤ 1000) : vs.toArray.size ≤ sizeLine := by
  rw [List.size_toArray, hi.length, sizeLine_eq]; omega
theorem compEnd_tail {s₁ : Shared} {I C D : Addr} {oI oC oD : Obj} {rest : Value → List (Addr × Obj) → Prop} {y : Value} {h' : Heap} {tk : Nat} {news' : List (Addr × Obj)}
    (F : Fr h₀ L h' m) (N : News h₀ L h' ((I, oI) :: (C, oC) :: (D, oD) :: news')) (off : LCg.Off3 I C D news') (hS : S news') (r : rest y news') :
    LCg.CompEnd h₀ L m s₁ I oI C oC D oD S rest y { s₁ with heap := h', toks := tk } := LCg.CompEnd.intro F N news' (fun _ hp => hp) off hS r
theorem in_falses {h₀ : Heap} {L : Addr} {E : Value → Shared → Prop} {l : Addr} {vs : List Value} {c : Nat} {led : List (Addr × Obj)} {Q : Value → Shared → Prop} (N : News h₀ L s.heap led) (hm : (l, listOf (List.toArray vs) c) ∈ led)
    (hv : ∀ y ∈ vs, y = .bool false) (h : Q (.bool false) s) : wpAny (model prog w) A (compareOp .In (.bool true) (.ref l)) Q E s := by
  refine SeqAt.in_listAt (fun _ => false) (items := vs.toArray) ⟨_, (N _ hm).1, rfl, c, rfl⟩ (fun y hy => ?_) ?_
  · rw [hv y (by simpa using hy)]; exact SeqAt.EqAt.bool_bool false true
  · have e : Array.any vs.toArray (fun _ => false) = false := by simp
    rw [e]; exact h
theorem falses_nil : ∀ y ∈ ([] : List Value), y = .bool false := fun _ h => absurd h List.not_mem_nil
theorem falses_one : ∀ y ∈ [Value.bool false], y = .bool false := fun _ h => List.mem_singleton.1 h
theorem ints_nil {ys : List Value} (h : IntsAre ys []) : ys = [] := by cases h; rfl
theorem ints_one {ys : List Value} {k : Int} (h : IntsAre ys [k]) : ∃ t, ys = [.int k t] := by
  cases h with | cons _ t r => cases r; exact ⟨t, rfl⟩
end
end Mine

end
section

open PySem PySem.W PyProof.Rows
set_option Elab.async false
set_option maxRecDepth 100000 
set_option maxHeartbeats 8000000 
namespace Mine

theorem sub_sign2 {w : World} {A : Around} {E : Value → Shared → Prop} {s : Shared} {h₀ : Heap} {L : Addr} {value slice : PySem.Expr} {lw : Addr} {led : List (Addr × Obj)} {wv : List Value} {total z : Int} {cw : Nat} {u : Tok} {prog : Program} {Q : Value → Shared → Prop} (N : News h₀ L s.heap led) (hm : (lw, listOf (List.toArray wv) cw) ∈ led) (hi : StrsAre wv (signs2 total))
    (h : ∀ t', ((signs2 total).getD (z.fmod 2).toNat Str.empty).length = 1 → Q (.str ((signs2 total).getD (z.fmod 2).toNat Str.empty) t') s)
    (hs : subscripted slice false (.ref lw) (.int (z.fmod 2) u) = operate [.ref lw, .int (z.fmod 2) u] (getItem (.ref lw) (.int (z.fmod 2) u))) (hg : ∀ r, letTemporaryGo value (.ref lw) r = pure ()) :
    wpAny (model prog w) A (subscriptTail value slice (.ref lw) (.int (z.fmod 2) u)) Q E s := by
  have hb : 0 ≤ z.fmod 2 ∧ z.fmod 2 < 2 := by rw [Int.fmod_eq_emod_of_nonneg _ (by decide)]; omega
  have hl : (signs2 total).length = 2 := rfl
  refine item_strsA ⟨_, (N _ hm).1, rfl, cw, rfl⟩ hi hb.1 (by rw [hl]; exact hb.2) (by omega) (fun t' => h t' ?_) hs hg
  have h3 : (z.fmod 2).toNat < 2 := by omega
  generalize (z.fmod 2).toNat = k at h3
  match k, h3 with
  | 0, _ => rfl
  | 1, _ => rfl
theorem sub_sign3 {w : World} {A : Around} {E : Value → Shared → Prop} {s : Shared} {h₀ : Heap} {L : Addr} {value slice : PySem.Expr} {lw : Addr} {led : List (Addr × Obj)} {wv : List Value} {total z : Int} {cw : Nat} {u : Tok} {prog : Program} {Q : Value → Shared → Prop} (N : News h₀ L s.heap led) (hm : (lw, listOf (List.toArray wv) cw) ∈ led) (hi : StrsAre wv (signs3 total))
    (h : ∀ t', ((signs3 total).getD (z.fmod 3).toNat Str.empty).length = 1 → Q (.str ((signs3 total).getD (z.fmod 3).toNat Str.empty) t') s)
    (hs : subscripted slice false (.ref lw) (.int (z.fmod 3) u) = operate [.ref lw, .int (z.fmod 3) u] (getItem (.ref lw) (.int (z.fmod 3) u))) (hg : ∀ r, letTemporaryGo value (.ref lw) r = pure ()) :
    wpAny (model prog w) A (subscriptTail value slice (.ref lw) (.int (z.fmod 3) u)) Q E s := by
  have hb : 0 ≤ z.fmod 3 ∧ z.fmod 3 < 3 := by rw [Int.fmod_eq_emod_of_nonneg _ (by decide)]; omega
  have hl : (signs3 total).length = 3 := rfl
  refine item_strsA ⟨_, (N _ hm).1, rfl, cw, rfl⟩ hi hb.1 (by rw [hl]; exact hb.2) (by omega) (fun t' => h t' ?_) hs hg
  have h3 : (z.fmod 3).toNat < 3 := by omega
  generalize (z.fmod 3).toNat = k at h3
  match k, h3 with
  | 0, _ => rfl
  | 1, _ => rfl
  | 2, _ => rfl
local macro_rules | `(tactic| walk_at "call ref") => `(tactic| (k_here; (with_reducible show wpAny _ _ (call (Value.ref 35) [Value.int _ _, Value.int 2 _]) _ _ _); (k_dflt (refine' signs2_use ?k1 ?k2 ?k3 ?k4 ?k5 ?kK ?kd ?ku  ?_; (case k1 => k_asm); (case k2 => k_asm); (case k3 => k_asm); (case k4 => k_asm); (case k5 => k_asm); (case kK => exact rfl); (case kd => ktr_room); (case ku => ktr_units))); intro D9 us9 c9 h9 tk9 F9 N9 l9 hs9; (try k_lt l9); (try dsimp only); (try k_sweep); (try k_fold)))
local macro_rules | `(tactic| walk_at "call ref") => `(tactic| (k_here; (with_reducible show wpAny _ _ (call (Value.ref 35) [Value.int _ _, Value.int 3 _]) _ _ _); (k_dflt (refine' signs3_use ?k1 ?k2 ?k3 ?k4 ?k5 ?kK ?kd ?ku  ?_; (case k1 => k_asm); (case k2 => k_asm); (case k3 => k_asm); (case k4 => k_asm); (case k5 => k_asm); (case kK => exact rfl); (case kd => ktr_room); (case ku => ktr_units))); intro D9 us9 c9 h9 tk9 F9 N9 l9 hs9; (try k_lt l9); (try dsimp only); (try k_sweep); (try k_fold)))
local macro_rules | `(tactic| walk_at "subscriptTail Name BinOp ref int") => `(tactic| (k_here; (with_reducible show wpAny _ _ (subscriptTail _ _ (Value.ref _) (Value.int (Int.fmod _ 2) _)) _ _ _); (k_dflt (refine' sub_sign2 ?k1 ?k2 ?k3 ?_ ?k4 ?k5; (case k1 => k_asm); (case k2 => k_mem); (case k3 => assumption); (case k4 => with_unfolding_all rfl); (case k5 => (intro _; with_unfolding_all rfl)))); intro t9 b9))
local macro_rules | `(tactic| walk_at "subscriptTail Name BinOp ref int") => `(tactic| (k_here; (with_reducible show wpAny _ _ (subscriptTail _ _ (Value.ref _) (Value.int (Int.fmod _ 3) _)) _ _ _); (k_dflt (refine' sub_sign3 ?k1 ?k2 ?k3 ?_ ?k4 ?k5; (case k1 => k_asm); (case k2 => k_mem); (case k3 => assumption); (case k4 => with_unfolding_all rfl); (case k5 => (intro _; with_unfolding_all rfl)))); intro t9 b9))
local macro_rules | `(tactic| walk_at "CompSrc") => `(tactic| (k_here; k_dflt (refine LCg.CompSrc.range (by rfl) (by k_asm) (by k_asm) (by assumption) (by first | decide | rfl) (by first | rfl | decide) (by first | size_fits | exact Nat.le_of_ble_eq_true rfl) ?_; intro g'; lcg_lit)))
local macro_rules | `(tactic| walk_at "CompEnd") => `(tactic| (k_dflt lcg_end))
local macro_rules | `(tactic| walk_at "CompEnd") => `(tactic| ((with_reducible refine' compEnd_tail ?F ?N ?off ?src ?_; (case N => assumption); (case F => assumption); (case off => first | assumption | ((simp only [LCg.Off3, and_true]); assumption)); (case src => first | exact True.intro | k_dflt exact Or.inr ⟨_, by k_mem, rfl, _, rfl⟩))))
theorem fr_cleanL {h₀ h : Heap} {L : Addr} {m : Str → Option Value} (F : Fr h₀ L h m) {a : Str} {va : Value} (e : m = fun y => if y = a then some va else none) : Fr h₀ L h (fun z => if z = a then some va else none) := e ▸ F
theorem join_two {w : World} {A : Around} {E : Value → Shared → Prop} {s : Shared} {h₀ : Heap} {L : Addr} {led : List (Addr × Obj)} {prog : Program} {Q : Value → Shared → Prop} {D : Addr} {a b : Str} {t ta tb : Tok} {c : Nat} (N : News h₀ L s.heap led) (hm : (D, listOf (List.toArray [.str a ta, .str b tb]) c) ∈ led) (h1 : a.length = 1) (h2 : b.length = 1)
    (h : ∀ W t' k, W = Txt.join Str.empty [a, b] → W.length ≤ 40 → Q (.str W t') { s with toks := k }) : wpAny (model prog w) A (call (.builtin "str.join") [.str (Str.ofString "") t, .ref D]) Q E s :=
  join_listW ⟨_, (N _ hm).1, rfl, c, rfl⟩ (.cons _ _ (.cons _ _ .nil)) (by decide) (by simp only [List.map_cons, List.map_nil, List.sum_cons, List.sum_nil, List.length_cons, List.length_nil, h1, h2]; decide) (fun t' k => h _ t' k rfl (by have e := PySem.W.KT.join_ones [a, b] (by intro y hy; rcases List.mem_cons.1 hy with rfl | hy; exact h1; rcases List.mem_cons.1 hy with rfl | hy; exact h2; exact absurd hy (List.not_mem_nil)); rw [e]; exact Nat.le_of_ble_eq_true rfl))
theorem join_three {w : World} {A : Around} {E : Value → Shared → Prop} {s : Shared} {h₀ : Heap} {L : Addr} {led : List (Addr × Obj)} {prog : Program} {Q : Value → Shared → Prop} {D : Addr} {a b d : Str} {t ta tb td : Tok} {c : Nat} (N : News h₀ L s.heap led) (hm : (D, listOf (List.toArray [.str a ta, .str b tb, .str d td]) c) ∈ led) (h1 : a.length = 1) (h2 : b.length = 1) (h3 : d.length = 1)
    (h : ∀ W t' k, W = Txt.join Str.empty [a, b, d] → W.length ≤ 40 → Q (.str W t') { s with toks := k }) : wpAny (model prog w) A (call (.builtin "str.join") [.str (Str.ofString "") t, .ref D]) Q E s :=
  join_listW ⟨_, (N _ hm).1, rfl, c, rfl⟩ (.cons _ _ (.cons _ _ (.cons _ _ .nil))) (by decide) (by simp only [List.map_cons, List.map_nil, List.sum_cons, List.sum_nil, List.length_cons, List.length_nil, h1, h2, h3]; decide) (fun t' k => h _ t' k rfl (by have e := PySem.W.KT.join_ones [a, b, d] (by intro y hy; rcases List.mem_cons.1 hy with rfl | hy; exact h1; rcases List.mem_cons.1 hy with rfl | hy; exact h2; rcases List.mem_cons.1 hy with rfl | hy; exact h3; exact absurd hy (List.not_mem_nil)); rw [e]; exact Nat.le_of_ble_eq_true rfl))
theorem sgn_lt2 (z : Int) : (z.fmod 2).toNat < 2 := by rw [Int.fmod_eq_emod_of_nonneg _ (by decide)]; omega
theorem sgn_lt3 (z : Int) : (z.fmod 3).toNat < 3 := by rw [Int.fmod_eq_emod_of_nonneg _ (by decide)]; omega
local macro_rules | `(tactic| walk_at "call builtin:str.join") => `(tactic| (k_here; (k_dflt (refine' join_three ?k1 ?k2 ?k3 ?k4 ?k5 ?_; (case k1 => k_asm); (case k2 => k_mem); (case k3 => with_reducible assumption); (case k4 => with_reducible assumption); (case k5 => with_reducible assumption))); intro W9 t9 k9 e9 l9; (have G9 := all23 (sgn_lt2 _) (sgn_lt2 _) (sgn_lt2 _) e9); clear e9))
local macro_rules | `(tactic| walk_at "call builtin:str.join") => `(tactic| (k_here; (k_dflt (refine' join_two ?k1 ?k2 ?k3 ?k4  ?_; (case k1 => k_asm); (case k2 => k_mem); (case k3 => with_reducible assumption); (case k4 => with_reducible assumption))); intro W9 t9 k9 e9 l9; (first | (have G9 := all22 (sgn_lt2 _) (sgn_lt2 _) e9) | (have G9 := all32 (sgn_lt3 _) (sgn_lt3 _) e9)); clear e9))
theorem signs2_ones (t : Int) : ∀ y ∈ signs2 t, y.length ≤ 1 := by intro y hy; rcases List.mem_cons.1 hy with rfl | hy; exact Nat.le_refl 1; rcases List.mem_cons.1 hy with rfl | hy; exact Nat.le_refl 1; exact absurd hy (List.not_mem_nil)
theorem signs3_ones (t : Int) : ∀ y ∈ signs3 t, y.length ≤ 1 := by intro y hy; rcases List.mem_cons.1 hy with rfl | hy; exact Nat.le_refl 1; rcases List.mem_cons.1 hy with rfl | hy; exact Nat.le_refl 1; rcases List.mem_cons.1 hy with rfl | hy; exact Nat.le_refl 1; exact absurd hy (List.not_mem_nil)
theorem signs2_len (t : Int) : (signs2 t).length ≤ 3 := Nat.le_of_ble_eq_true rfl
theorem signs3_len (t : Int) : (signs3 t).length ≤ 3 := Nat.le_of_ble_eq_true rfl
local macro_rules | `(tactic| walk_at "call ref") => `(tactic| (k_here; (with_reducible show wpAny _ _ (call (Value.ref 40) [Value.ref _, Value.int _ _]) _ _ _); (k_dflt (refine' words_use ?k1 ?k2 ?k3 ?k4 ?k5 ?kK ?kd ?ku ?m1 ?m2 ?m3 ?m4 ?m5 ?m6 ?_; (case k1 => k_asm); (case k2 => k_asm); (case k3 => k_asm); (case k4 => k_asm); (case k5 => k_asm); (case kK => exact rfl); (case kd => ktr_room); (case ku => ktr_units); (case m1 => k_mem); (case m2 => assumption); (case m3 => first | exact signs2_ones _ | exact signs3_ones _); (case m4 => first | decide | omega); (case m5 => first | decide | omega); (case m6 => first | exact signs2_len _ | exact signs3_len _))); intro D9 us9 c9 h9 tk9 F9 N9 l9 hw9 hn9 hl9; (try k_lt l9); (try dsimp only); (try k_sweep); (try k_fold)))
local macro_rules | `(tactic| walk_at "call ref") => `(tactic| (k_here; (with_reducible show wpAny _ _ (call (Value.ref 61) [Value.str _ _, Value.ref _, Value.int _ _]) _ _ _); (k_dflt (refine' told_use ?k1 ?k2 ?k3 ?k4 ?k5 ?kK ?kd ?ku ?m1 ?m2 ?m3 ?m4 ?m5 ?_; (case k1 => k_asm); (case k2 => k_asm); (case k3 => k_asm); (case k4 => k_asm); (case k5 => k_asm); (case kK => exact rfl); (case kd => ktr_room); (case ku => ktr_units); (case m1 => assumption); (case m2 => k_mem); (case m3 => assumption); (case m4 => assumption); (case m5 => assumption))); intro D9 us9 c9 h9 tk9 F9 N9 l9 ht9; (try k_lt l9); (k_dflt (obtain ⟨n9, i9, e9, f9, z9⟩ := told_goodZ ht9 (by assumption) (by assumption) (by omega) (by omega) (by omega))); clear ht9; (try dsimp only); (try k_sweep); (try k_fold)))
local macro_rules | `(tactic| walk_at "call ref") => `(tactic| (k_here; (with_reducible show wpAny _ _ (call (Value.ref 54) [Value.str _ _, Value.int _ _, Value.int _ _]) _ _ _); (k_dflt (refine' due_use ?k1 ?k2 ?k3 ?k4 ?k5 ?kK ?kd ?ku ?m1 ?m2 ?m3 ?_; (case k1 => k_asm); (case k2 => k_asm); (case k3 => k_asm); (case k4 => k_asm); (case k5 => k_asm); (case kK => exact rfl); (case kd => ktr_room); (case ku => ktr_units); (case m1 => assumption); (case m2 => first | decide | omega); (case m3 => first | decide | omega))); intro t9 h9 tk9 F9 N9; (try dsimp only); (try k_sweep); (try k_fold)))
local macro_rules | `(tactic| walk_at "exec Return some") => `(tactic| ((with_reducible show wpAny _ _ (exec (Stmt.Return (some (Expr.Constant (Const.bool false) _ _)) _) _) _ _ _); exfalso; (rename (_ ≠ dueF _ _ _) => hne); apply hne; k_dflt assumption))
local macro_rules | `(tactic| walk_at "exec Assign cons ListComp") => `(tactic| (k_here; (with_reducible show wpAny _ _ (exec (Stmt.Assign [Expr.Name (Str.ofString "nearer") _] _ _) _) _ _ _); k_dflt (refine LCt.Assign_ListComp_T (F₀ := by k_asm) (by rfl) (by with_unfolding_all rfl) (by with_unfolding_all rfl) (by decide) (by rfl) (by decide) (by rfl) (by rfl) (by rfl) ?_); k_dflt lct_toSrc))
local macro_rules | `(tactic| walk_at "CompSrcT") => `(tactic| (k_here; (rename List.filter _ _ = _ => f9X); (rename List.length _ ≤ 1000 => z9X); k_dflt (refine LCt.CompSrcT.ledger (by rfl) (by k_asm) (by k_asm) (by k_mem) (ints_size (by assumption) z9X) ?_; intro g'; refine ct_intsE f9X (by assumption) ?_ ?_); (all_goals first | (intro ys9 hy9; split at hy9) | (intro k9 t9 I9 oI9 C9 oC9 D9 m9 ys9 h9 tk9 E9 hC9 hx9 F9 N9 off9 ne9)); (all_goals try (first | (rename IntsAre _ [_] => hy9; obtain ⟨t9, q9⟩ := ints_one hy9; subst q9) | (rename IntsAre _ [] => hy9; have q9 := ints_nil hy9; subst q9)))))
local macro_rules | `(tactic| walk_at "compareOp In bool ref") => `(tactic| (k_here; (with_reducible show wpAny _ _ (compareOp CmpOp.In (Value.bool true) (Value.ref _)) _ _ _); k_dflt (refine' in_falses ?N ?m ?v ?_; (case N => k_asm); (case m => k_mem); (case v => first | exact falses_nil | exact falses_one))))
local macro_rules | `(tactic| walk_at "CompEnd") => `(tactic| ((with_reducible refine' compEnd_tail ?F ?N ?off ?src ?r; (case r => exact ctY_of (decide_eq_true (by first | assumption | omega))); (case F => assumption); (case N => assumption); (case off => assumption); (case src => k_dflt exact Or.inr ⟨_, by k_mem, rfl, _, rfl⟩))))
local macro_rules | `(tactic| walk_at "CompEnd") => `(tactic| ((with_reducible refine' compEnd_tail ?F ?N ?off ?src ?r; (case r => exact ctN_of (decide_eq_false (by first | assumption | omega))); (case F => assumption); (case N => assumption); (case off => assumption); (case src => k_dflt exact Or.inr ⟨_, by k_mem, rfl, _, rfl⟩))))
local macro_rules | `(tactic| walk_at "GEnd") => `(tactic| ((with_reducible show GEnd _ _ _ _ _ _ _ (Flow.ret _) _); exfalso; omega))
local macro_rules | `(tactic| walk_at "GEnd") => `(tactic| (exfalso; (rename (_ ≠ dueF _ _ _) => hne); apply hne; with_reducible assumption))
local macro_rules | `(tactic| walk_at "GEnd") => `(tactic| ((k_dflt (refine' mEnd_of ?F ?N ?hI ?hb ?hs ?hne ?hd ?hz; (case F => k_asm); (case N => k_asm); (case hI => k_mem); (case hb => k_mem); (case hs => lcg_sub); (case hne => (refine ⟨by k_ne, ?_⟩; k_all)); (case hd => with_reducible assumption); (case hz => (intro z h1 h2 h3; (try dsimp only); (simp only [if_neg h1, if_neg h2, if_neg h3]); (try rfl)))))))
local macro_rules | `(tactic| walk_at "pyIter ref") => `(tactic| (k_here; (with_reducible show wpAny _ _ (pyIter (Value.ref _)) (fun it s₂ => LoopAtV _ _ _ _ _ (Str.ofString "m") _ _ _ it s₂) _ _); (rename IsRange _ _ _ _ _ _ _ _ => rgX); (rename Fr _ _ _ _ => lF'); (rename News _ _ _ _ => lN'); (k_dflt (refine' m_loopB (n := 3) ?hL ?hh rgX ?hn ?hlo ?hhi lF' lN' ?hS ?hm ?hq ?hqd ?hs ?hsd ?hb ?hd ?_ ?_; (case hL => exact rfl); (case hh => exact rfl); (case hn => decide); (case hlo => decide); (case hhi => decide); (case hS => assumption); (case hm => k_mem); (case hq => k_mem); (case hqd => with_reducible assumption); (case hs => k_mem); (case hsd => with_reducible assumption); (case hb => k_mem); (case hd => with_reducible assumption))); (all_goals (intros; (try k_sweep); (try k_fold)))))
local macro_rules | `(tactic| walk_at "pyIter ref") => `(tactic| (k_here; (with_reducible show wpAny _ _ (pyIter (Value.ref _)) (fun it s₂ => LoopAtV _ _ _ _ _ (Str.ofString "m") _ _ _ it s₂) _ _); (rename IsRange _ _ _ _ _ _ _ _ => rgX); (rename Fr _ _ _ _ => lF'); (rename News _ _ _ _ => lN'); (k_dflt (refine' m_loopB (n := 4) ?hL ?hh rgX ?hn ?hlo ?hhi lF' lN' ?hS ?hm ?hq ?hqd ?hs ?hsd ?hb ?hd ?_ ?_; (case hL => exact rfl); (case hh => exact rfl); (case hn => decide); (case hlo => decide); (case hhi => decide); (case hS => assumption); (case hm => k_mem); (case hq => k_mem); (case hqd => with_reducible assumption); (case hs => k_mem); (case hsd => with_reducible assumption); (case hb => k_mem); (case hd => with_reducible assumption))); (all_goals (intros; (try k_sweep); (try k_fold)))))
theorem law_walk : PySem.Challenge.rw_oy0519_01.Holds := by
  w_top off
  refine hd ?_
  w_strict (k_go0; (all_goals try k_fold); (rename Fr _ _ _ _ => F0; have F1 := fr_cleanL F0 (a := Str.ofString "script") (by with_unfolding_all rfl); clear F0); (repeat' (first | (k_unfold; (try dsimp only)) | (k_end; wrow_close) | walk1 | (dsimp only; walk1) | (dsimp only; k_unfold; (try dsimp only)))))
end Mine

end
set_option Elab.async false
open PySem PySem.W PyProof.Rows
theorem PySem.Challenge.cw_oy0519_01_holds : PySem.Challenge.rw_oy0519_01.Holds := by
  exact Mine.law_walk
