import PyProof.Rows.All
import Wide.All
import OpenK.AllK
import Wide.FinOn
import PySem.Challenge.RW_wn0037_01
set_option Elab.async false
section
open PySem PySem.W PyProof.Rows
set_option maxRecDepth 100000
set_option maxHeartbeats 16000000
namespace Mine
open_top hd for PySem.Challenge.rw_wn0037_01
end Mine
end
section
open PySem PySem.W PyProof.Rows PyProof
open PySem.Builtin PySem.Builtin.Str
namespace Mine
theorem room_le {a b R : Nat} (c : Nat) (h : a + b < R) (hc : c ≤ b) : a + c < R := Nat.lt_of_le_of_lt (Nat.add_le_add_left hc a) h
def S (l : List Nat) : Str := ⟨l.toArray⟩
theorem S_cps (l : List Nat) : (S l).cps.toList = l := rfl
theorem S_len (l : List Nat) : (S l).length = l.length := by simp [S, Str.length]
theorem S_eq (X : Str) : X = S X.cps.toList := rfl
theorem S_inj {a b : List Nat} (h : S a = S b) : a = b := by
  have := congrArg (fun x : Str => x.cps.toList) h
  simpa [S] using this
theorem S_app (a b : List Nat) : S a ++ S b = S (a ++ b) := by
  apply Str.ext'
  rw [Str.cps_append]
  simp [S]
theorem S_nil : Str.ofString "" = S [] := by decide +kernel
theorem S_q : Str.ofString "\"" = S [34] := by decide +kernel
theorem S_b : Str.ofString "\\" = S [92] := by decide +kernel
theorem S_beq (a b : List Nat) : (S a == S b) = decide (a = b) := by
  by_cases h : a = b
  · subst h; simp
  · have : S a ≠ S b := fun e => h (S_inj e)
    simp [h, this]
theorem indices_nat (a b n : Nat) : strSliceIndices (some (a : Int)) (some (b : Int)) 1 n = (List.range (min b n - min a n)).map fun k => min a n + k := by
  have ha : ¬ ((a : Int) < 0) := by (kjx_bare; omega)
  have hb : ¬ ((b : Int) < 0) := by (kjx_bare; omega)
  have h1 : (1 : Int) > 0 := by decide
  simp only [strSliceIndices, sliceRange, ha, hb, h1, if_true, if_false]
  have ea : max (0 : Int) (min (a : Int) (n : Int)) = ((min a n : Nat) : Int) := by (revert ha; kjx_bare; omega)
  have eb : max (0 : Int) (min (b : Int) (n : Int)) = ((min b n : Nat) : Int) := by (revert hb; kjx_bare; omega)
  rw [ea, eb]
  have ec : (if ((min a n : Nat) : Int) < ((min b n : Nat) : Int) then (((min b n : Nat) : Int) - ((min a n : Nat) : Int) + 1 - 1) / 1 else 0 : Int).toNat = min b n - min a n := by
    split
    · rw [Int.ediv_one]; omega
    · omega
  rw [ec]
  apply List.map_congr_left
  intro k _
  (revert ha hb ec; kjx_bare; omega)
theorem indices_none_l (u : Option Int) (n : Nat) : strSliceIndices none u 1 n = strSliceIndices (some 0) u 1 n := by
  simp only [strSliceIndices, show (1 : Int) > 0 by decide, if_true, show ¬ ((0 : Int) < 0) by decide, if_false]
  have : max (0 : Int) (min 0 (n : Int)) = 0 := by (kjx_bare; omega)
  rw [this]
theorem indices_none_u (l : Option Int) (n : Nat) : strSliceIndices l none 1 n = strSliceIndices l (some (n : Int)) 1 n := by
  simp only [strSliceIndices, show (1 : Int) > 0 by decide, if_true, show ¬ ((n : Int) < 0) by (kjx_bare; omega), if_false]
  have : max (0 : Int) (min (n : Int) (n : Int)) = (n : Int) := by (kjx_bare; omega)
  rw [this]
theorem pick_range (l : List Nat) (a c : Nat) (h : a + c ≤ l.length) : ((List.range c).map fun k => a + k).filterMap (l.toArray[·]?) = (l.drop a).take c := by
  induction c with
  | zero => simp
  | succ c ih =>
    rw [List.range_succ, List.map_append, List.filterMap_append, ih (by (revert h; kjx_bare; omega)), List.take_add_one]
    congr 1
    have hlt : a + c < l.length := by (revert h; kjx_bare; omega)
    simp [hlt]
theorem slice_S (l : List Nat) (a b : Nat) : Txt.slice (S l) (some (a : Int)) (some (b : Int)) = S ((l.take b).drop a) := by
  unfold Txt.slice
  rw [indices_nat, S_len]
  have e : ((List.range (min b l.length - min a l.length)).map fun k => min a l.length + k).filterMap ((S l).cps[·]?) = (l.take b).drop a := by
    show _ = _
    have := pick_range l (min a l.length) (min b l.length - min a l.length) (by (kjx_bare; omega))
    rw [show (S l).cps = l.toArray from rfl, this, List.drop_take]
    by_cases ha : a ≤ l.length
    · rw [Nat.min_eq_left ha]
      by_cases hb : b ≤ l.length
      · rw [Nat.min_eq_left hb]
      · rw [show min b l.length = l.length by (revert hb; kjx_bare; omega), List.take_of_length_le (i := l.length - a) (by simp), List.take_of_length_le (i := b - a) (by simp; (revert hb; kjx_bare; omega))]
    · rw [show min a l.length = l.length by (revert ha; kjx_bare; omega), List.drop_of_length_le (Nat.le_refl _), List.drop_of_length_le (l := l) (i := a) (by (revert ha; kjx_bare; omega))]
      simp
  split
  · rename_i h
    simp only [List.length_map, List.length_range, Bool.and_eq_true, beq_iff_eq] at h
    have h2 := h.2
    by_cases hl : l.length = 0
    · have : l = [] := List.eq_nil_of_length_eq_zero hl
      subst this; simp
    · have ha : a = 0 := by (revert h hl; kjx_bare; omega)
      have hb : l.length ≤ b := by (revert h hl ha; kjx_bare; omega)
      subst ha
      rw [List.take_of_length_le hb]; rfl
  · show S _ = _
    rw [e]
theorem slice_S_to (l : List Nat) (b : Nat) : Txt.slice (S l) none (some (b : Int)) = S (l.take b) := by
  have := slice_S l 0 b
  unfold Txt.slice at this ⊢
  rw [indices_none_l]
  simpa using this
theorem slice_S_from (l : List Nat) (a : Nat) : Txt.slice (S l) (some (a : Int)) none = S (l.drop a) := by
  have := slice_S l a l.length
  unfold Txt.slice at this ⊢
  rw [indices_none_u, S_len]
  rw [S_len] at this
  simpa using this
theorem item_S (l : List Nat) (i : Int) (h0 : 0 ≤ i) (h1 : i < (S l).length) : ∃ c, l.drop i.toNat = c :: l.drop (i.toNat + 1) ∧ Txt.item (S l) i = S [c] := by
  rw [S_len] at h1
  have hlt : i.toNat < l.length := by (revert h0 h1; kjx_bare; omega)
  refine ⟨l[i.toNat], List.drop_eq_getElem_cons hlt, ?_⟩
  rw [item_at (n := i.toNat) h0 (by rw [S_len]; exact h1) rfl]
  simp [S, hlt]
/-! ## parse257 -/
def ps : List Nat → List Nat
  | [] => []
  | [c] => if c = 34 then [] else [c]
  | c :: d :: r => if c = 34 then (if d = 34 then 34 :: ps r else []) else c :: ps (d :: r)
theorem ps_ne {c : Nat} (h : c ≠ 34) (r : List Nat) : ps (c :: r) = c :: ps r := by
  cases r with
  | nil => simp [ps, h]
  | cons d r => simp [ps, h]
theorem ps_qq (r : List Nat) : ps (34 :: 34 :: r) = 34 :: ps r := by simp [ps]
theorem ps_q {d : Nat} (h : d ≠ 34) (r : List Nat) : ps (34 :: d :: r) = [] := by simp [ps, h]
theorem ps_q1 : ps [34] = [] := by simp [ps]
theorem is_q {c : Nat} : (S [c] == Str.ofString "\"") = decide (c = 34) := by
  rw [S_q, S_beq]; simp
theorem p_end1 {x l : List Nat} {d : Str} {i : Int} (hps : ps x = d.cps.toList ++ ps (l.drop i.toNat)) (h0 : 0 ≤ i) (h1 : i < (S l).length) (hc : (Txt.item (S l) i == Str.ofString "\"") = true) (hn : (S l).length ≤ i + 1) : d = S (ps x) := by
  obtain ⟨c, hd, hi⟩ := item_S l i h0 h1
  rw [hi, is_q, decide_eq_true_eq] at hc
  subst hc
  rw [hd, List.drop_of_length_le (by rw [S_len] at hn; (revert h0 hn; kjx_bare; omega)), ps_q1, List.append_nil] at hps
  rw [hps]; rfl
theorem p_end2 {x l : List Nat} {d : Str} {i : Int} (hps : ps x = d.cps.toList ++ ps (l.drop i.toNat)) (h0 : 0 ≤ i) (h1 : i < (S l).length) (hc : (Txt.item (S l) i == Str.ofString "\"") = true) (hn : ¬ (S l).length ≤ i + 1) (hc2 : (Txt.item (S l) (i + 1) != Str.ofString "\"") = true) : d = S (ps x) := by
  obtain ⟨c, hd, hi⟩ := item_S l i h0 h1
  obtain ⟨c2, hd2, hi2⟩ := item_S l (i + 1) (by (revert h0; kjx_bare; omega)) (by (revert hn; kjx_bare; omega))
  rw [hi, is_q, decide_eq_true_eq] at hc
  rw [hi2, bne, is_q] at hc2
  simp only [Bool.not_eq_true', decide_eq_false_iff_not] at hc2
  subst hc
  rw [hd, show i.toNat + 1 = (i + 1).toNat by (revert h0; kjx_bare; omega), hd2, ps_q hc2, List.append_nil] at hps
  rw [hps]; rfl
theorem p_end5 {x l : List Nat} {d : Str} {i : Int} (hps : ps x = d.cps.toList ++ ps (l.drop i.toNat)) (h1 : ¬ i < (S l).length) : d = S (ps x) := by
  rw [List.drop_of_length_le (by rw [S_len] at h1; (revert h1; kjx_bare; omega))] at hps
  simp only [ps, List.append_nil] at hps
  rw [hps]; rfl
theorem p_next3 {x l : List Nat} {d : Str} {i : Int} (hps : ps x = d.cps.toList ++ ps (l.drop i.toNat)) (h0 : 0 ≤ i) (h1 : i < (S l).length) (hc : (Txt.item (S l) i == Str.ofString "\"") = true) (hn : ¬ (S l).length ≤ i + 1) (hc2 : ¬ (Txt.item (S l) (i + 1) != Str.ofString "\"") = true) :
    ps x = (d ++ Txt.item (S l) i).cps.toList ++ ps (l.drop (i + 1 + 1).toNat) := by
  obtain ⟨c, hd, hi⟩ := item_S l i h0 h1
  obtain ⟨c2, hd2, hi2⟩ := item_S l (i + 1) (by (revert h0; kjx_bare; omega)) (by (revert hn; kjx_bare; omega))
  rw [hi, is_q, decide_eq_true_eq] at hc
  rw [hi2, bne, is_q] at hc2
  simp only [Bool.not_eq_true', decide_eq_false_iff_not, Decidable.not_not] at hc2
  subst hc hc2
  rw [hps, hd, show i.toNat + 1 = (i + 1).toNat by (revert h0; kjx_bare; omega), hd2, ps_qq, hi, Str.cps_append, show (i + 1 + 1).toNat = (i + 1).toNat + 1 by (revert h0; kjx_bare; omega)]
  simp [S]
theorem p_next4 {x l : List Nat} {d : Str} {i : Int} (hps : ps x = d.cps.toList ++ ps (l.drop i.toNat)) (h0 : 0 ≤ i) (h1 : i < (S l).length) (hc : ¬ (Txt.item (S l) i == Str.ofString "\"") = true) :
    ps x = (d ++ Txt.item (S l) i).cps.toList ++ ps (l.drop (i + 1).toNat) := by
  obtain ⟨c, hd, hi⟩ := item_S l i h0 h1
  rw [hi, is_q] at hc
  simp only [decide_eq_true_eq] at hc
  rw [hps, hd, ps_ne hc, hi, Str.cps_append, show (i + 1).toNat = i.toNat + 1 by (revert h0; kjx_bare; omega)]
  simp [S]
end Mine
end
local macro_rules | `(tactic| k_room) => `(tactic| ((rename _ + _ < PySem.recursionLimit => hR9); first | exact Mine.room_le 0 hR9 (by decide) | exact Mine.room_le 1 hR9 (by decide) | exact Mine.room_le 2 hR9 (by decide) | exact Mine.room_le 3 hR9 (by decide)))
local macro_rules | `(tactic| k_units) => `(tactic| ((rename _ + _ < PySem.cLine => hR9); first | exact Mine.room_le 0 hR9 (by decide) | exact Mine.room_le 1 hR9 (by decide) | exact Mine.room_le 2 hR9 (by decide) | exact Mine.room_le 3 hR9 (by decide) | exact Mine.room_le 4 hR9 (by decide) | exact Mine.room_le 5 hR9 (by decide) | exact Mine.room_le 6 hR9 (by decide) | exact Mine.room_le 7 hR9 (by decide) | exact Mine.room_le 8 hR9 (by decide)))
section
open PySem PySem.W PyProof.Rows PyProof
set_option maxRecDepth 100000
set_option maxHeartbeats 8000000
namespace Mine
abbrev Led := List (Addr × Obj)
abbrev Loc := Str → Option Value
theorem news_let {h₀ h : Heap} {L : Addr} {l : Led} {P : Prop} (N : News h₀ L h l) (k : let ld := l; News h₀ L h ld → P) : P := k N
theorem fr_let {h₀ h : Heap} {L : Addr} {m : Loc} {P : Prop} (F : Fr h₀ L h m) (k : let mk := m; Fr h₀ L h mk → P) : P := k F
/-- the walker stops here -/
def Halt (P : Prop) : Prop := P
theorem halt {P : Prop} (h : Halt P) : P := h
section
variable {prog : Program} {w : World} {A : Around} {E : Value → Shared → Prop} {Q : Flow → Shared → Prop} {s : Shared} {env : Env}
/-- what a turn of a loop hands on -/
def TurnEnd {σ : Type} (s : Shared) (I : σ → Heap → Nat → Prop) (μ : σ → Nat) (c : σ) (Q : Flow → Shared → Prop) (f : Flow) (s₃ : Shared) : Prop :=
  match f with
  | .next | .cont => ∃ c' h tk, s₃ = { s with heap := h, toks := tk } ∧ μ c' < μ c ∧ I c' h tk
  | .brk => Q .next s₃
  | .ret v => Q (.ret v) s₃
theorem while_rule {σ : Type} {test : Expr} {body : List Stmt} {pos : Pos} (I : σ → Heap → Nat → Prop) (μ : σ → Nat) (c₀ : σ)
    (h0 : I c₀ s.heap s.toks)
    (turn : ∀ c h tk, I c h tk → wpAny (model prog w) A (isTrue test env (eval test env)) (fun b s₂ =>
        if b = true then wpAny (model prog w) A (execs body env) (TurnEnd s I μ c Q) E s₂ else Q .next s₂) E { s with heap := h, toks := tk })
    (hE : PassesOwn (model prog w) A env E := by passes_own) :
    wpAny (model prog w) A (exec (.While test body [] pos) env) Q E s := by
  refine wpAny_While (codeAny_whileLoop (fun n s' => ∃ c h tk, s' = { s with heap := h, toks := tk } ∧ μ c = n ∧ I c h tk) ?_ (μ c₀) ⟨c₀, s.heap, s.toks, rfl, rfl, h0⟩)
  rintro n s' ⟨c, h, tk, rfl, rfl, hI⟩
  refine wpAny_mono (turn c h tk hI) (fun b s₂ h₂ => ?_) hE
  cases b with
  | false =>
    simp only [Bool.false_eq_true, if_false] at h₂ ⊢
    exact wpAny_execs_nil h₂
  | true =>
    simp only [if_true] at h₂ ⊢
    refine wpAny_mono h₂ (fun f s₃ h₃ => ?_) hE
    cases f with
    | next => obtain ⟨c', h', tk', rfl, hm, hI'⟩ := h₃; exact ⟨_, hm, c', h', tk', rfl, rfl, hI'⟩
    | cont => obtain ⟨c', h', tk', rfl, hm, hI'⟩ := h₃; exact ⟨_, hm, c', h', tk', rfl, rfl, hI'⟩
    | brk => exact h₃
    | ret v => exact h₃
/-- a for over any iterator, its target one name -/
theorem for_rule {σ : Type} {x : Str} {px : Pos} {it : Value} {body orelse : List Stmt} {R : Result → Shared → Prop} (I : σ → Heap → Nat → Prop) (μ : σ → Nat) (c₀ : σ)
    (h0 : I c₀ s.heap s.toks)
    (turn : ∀ c h tk, I c h tk → wpAny (model prog w) A (pyNext it) (fun r s₁ => match r with
        | none => wpAny (model prog w) A (execs orelse env) Q E s₁
        | some v => wpAny (model prog w) A (storeName env x v) (fun _ s₂ => wpAny (model prog w) A (execs body env) (TurnEnd s I μ c Q) E s₂) E s₁) E { s with heap := h, toks := tk })
    (hR : ∀ f s', Q f s' → R (.ok f) s') (hEE : ∀ e s', E e s' → notedBy (model prog w) A env (fun e s' => R (.error e) s') e s') :
    codeAny (model prog w) A (.forLoop (.Name x px) it body orelse env) R s := by
  refine codeAny_forLoop_any (fun n s' => ∃ c h tk, s' = { s with heap := h, toks := tk } ∧ μ c = n ∧ I c h tk) ?_ (μ c₀) ⟨c₀, s.heap, s.toks, rfl, rfl, h0⟩
  rintro n s' ⟨c, h, tk, rfl, rfl, hI⟩
  refine wpAny_mono (turn c h tk hI) (fun r s₁ h₁ => ?_) hEE
  cases r with
  | none => exact wpAny_mono h₁ (fun f s₃ h₃ => hR f s₃ h₃) hEE
  | some v =>
    refine wpAny_pure ?_
    refine wpAny_assign_Name (wpAny_mono h₁ (fun _ s₂ h₂ => ?_) hEE)
    refine wpAny_mono h₂ (fun f s₃ h₃ => ?_) hEE
    cases f with
    | next => obtain ⟨c', h', tk', rfl, hm, hI'⟩ := h₃; exact ⟨_, hm, c', h', tk', rfl, rfl, hI'⟩
    | cont => obtain ⟨c', h', tk', rfl, hm, hI'⟩ := h₃; exact ⟨_, hm, c', h', tk', rfl, rfl, hI'⟩
    | brk => exact hR _ _ h₃
    | ret v => exact hR _ _ h₃
end
end Mine
namespace Mine
section
variable {prog : Program} {w : World} {A : Around} {E : Value → Shared → Prop} {Q : Flow → Shared → Prop} {s : Shared} {env : Env} {h₀ : Heap} {L : Addr}
def LocNext {σ : Type} (h₀ : Heap) (L : Addr) (s : Shared) (ld : σ → Led) (ps : σ → List (Str × Value)) (stored : List Str) (m₀ : Loc) (P : σ → Nat → Prop) (μ : σ → Nat) (c : σ) (s₂ : Shared) : Prop :=
  ∃ (c' : σ) (h' : Heap) (tk : Nat) (m' : Loc) (news' : Led), s₂ = { s with heap := h', toks := tk } ∧ Fr h₀ L h' m' ∧ News h₀ L h' news' ∧ (∀ p ∈ ld c', p ∈ news') ∧ (∀ p ∈ ps c', m' p.1 = some p.2) ∧ (∀ z, (∀ p ∈ ps c', z ≠ p.1) → stored.contains z = false → m' z = m₀ z) ∧ P c' tk ∧ μ c' < μ c
def LocEnd {σ : Type} (h₀ : Heap) (L : Addr) (s : Shared) (ld : σ → Led) (ps : σ → List (Str × Value)) (stored : List Str) (m₀ : Loc) (P : σ → Nat → Prop) (μ : σ → Nat) (Q : Flow → Shared → Prop) (c : σ) (f : Flow) (s₂ : Shared) : Prop :=
  match f with
  | .ret v => Q (.ret v) s₂
  | .brk => Q .next s₂
  | _ => LocNext h₀ L s ld ps stored m₀ P μ c s₂
theorem while_loc {σ : Type} {test : Expr} {body : List Stmt} {pos : Pos} {m₀ : Loc} (ld : σ → Led) (ps : σ → List (Str × Value)) (stored : List Str) (P : σ → Nat → Prop) (μ : σ → Nat) (c₀ : σ)
    (F : Fr h₀ L s.heap m₀) (N : News h₀ L s.heap (ld c₀)) (hk : ∀ p ∈ ps c₀, m₀ p.1 = some p.2) (hp : P c₀ s.toks)
    (turn : ∀ (c : σ) (u : Loc) h tk, P c tk → s.toks ≤ tk → Fr h₀ L h (kstB (fun z => if stored.contains z then u z else m₀ z) (ps c)) → News h₀ L h (ld c) →
      wpAny (model prog w) A (isTrue test env (eval test env)) (fun b s₂ => tk ≤ s₂.toks →
        if b = true then wpAny (model prog w) A (execs body env) (fun f s₃ => tk ≤ s₃.toks → LocEnd h₀ L s ld ps stored m₀ P μ Q c f s₃) E s₂ else Q .next s₂) E { s with heap := h, toks := tk })
    (hE : PassesOwn (model prog w) A env E := by passes_own) :
    wpAny (model prog w) A (exec (.While test body [] pos) env) Q E s := by
  refine while_rule (fun (c : σ) h tk => s.toks ≤ tk ∧ ∃ m, Fr h₀ L h m ∧ News h₀ L h (ld c) ∧ (∀ p ∈ ps c, m p.1 = some p.2) ∧ (∀ z, (∀ p ∈ ps c, z ≠ p.1) → stored.contains z = false → m z = m₀ z) ∧ P c tk) μ c₀ ⟨Nat.le_refl _, m₀, F, N, hk, fun _ _ _ => rfl, hp⟩ ?_ hE
  rintro c h tk ⟨hle, m, F', N', h1, h2, hP⟩
  refine wpAny_mono (wpAny_toks_of (n := tk) (Nat.le_refl _) (turn c m h tk hP hle (ksw_fr h1 h2 F') N')) (fun b s₂ hb => ?_) fun _ _ x => x.2
  obtain ⟨hle2, hb⟩ := hb
  replace hb := hb hle2
  cases b with
  | false => simpa using hb
  | true =>
    simp only [if_true] at hb ⊢
    refine wpAny_mono (wpAny_toks_of (n := tk) hle2 hb) (fun f s₃ q => ?_) fun _ _ x => x.2
    obtain ⟨hle3, q⟩ := q
    replace q := q hle3
    cases f with
    | ret v => exact q
    | brk => exact q
    | next => obtain ⟨c', h', tk', m', news', rfl, F9, N9, hn, hk9, hr9, hp9, hm9⟩ := q; exact ⟨c', h', tk', rfl, hm9, Nat.le_trans hle hle3, m', F9, fun p hp => N9 p (hn p hp), hk9, hr9, hp9⟩
    | cont => obtain ⟨c', h', tk', m', news', rfl, F9, N9, hn, hk9, hr9, hp9, hm9⟩ := q; exact ⟨c', h', tk', rfl, hm9, Nat.le_trans hle hle3, m', F9, fun p hp => N9 p (hn p hp), hk9, hr9, hp9⟩
theorem nextL {σ : Type} {h₀ : Heap} {L : Addr} {s : Shared} {ld : σ → Led} {ps : σ → List (Str × Value)} {stored : List Str} {m₀ : Loc} {P : σ → Nat → Prop} {μ : σ → Nat} {c : σ} (c' : σ) {h' : Heap} {tk : Nat} {m' : Loc} {news' : Led} (F : Fr h₀ L h' m') (N : News h₀ L h' news')
    (hl : ∀ p ∈ ld c', p ∈ news') (hk : ∀ p ∈ ps c', m' p.1 = some p.2) (hr : ∀ z, (∀ p ∈ ps c', z ≠ p.1) → stored.contains z = false → m' z = m₀ z) (hp : P c' tk) (hm : μ c' < μ c) :
    LocNext h₀ L s ld ps stored m₀ P μ c { s with heap := h', toks := tk } := ⟨c', h', tk, m', news', rfl, F, N, hl, hk, hr, hp, hm⟩
theorem fr_same {h h' : Heap} {m : Loc} {a : Addr} (F : Fr h₀ L h m) (hs : Heap.SameBut a h h') (hL : L ≠ a) (h0 : h₀.get? a = none) : Fr h₀ L h' m :=
  ⟨F.ns.sameBut hs hL, fun b o e => (hs.2 b (fun z => by rw [z, h0] at e; cases e)).trans (F.keep b o e), F.above⟩
theorem news_same {h h' : Heap} {a : Addr} {ld : Led} (N : News h₀ L h ld) (hs : Heap.SameBut a h h') (hne : ∀ p ∈ ld, p.1 ≠ a) : News h₀ L h' ld :=
  fun p hp => ⟨(hs.2 p.1 (hne p hp)).trans (N p hp).1, (N p hp).2⟩
theorem fr_ext {h h' : Heap} {m : Loc} {a : Addr} (F : Fr h₀ L h m) (hs : Heap.ExtBut a h h') (hL : L ≠ a) (h0 : h₀.get? a = none) : Fr h₀ L h' m :=
  ⟨F.ns.extBut hs hL, fun b o e => hs b o (fun z => by rw [z, h0] at e; cases e) (F.keep b o e), F.above⟩
theorem news_ext {h h' : Heap} {a : Addr} {ld : Led} (N : News h₀ L h ld) (hs : Heap.ExtBut a h h') (hne : ∀ p ∈ ld, p.1 ≠ a) : News h₀ L h' ld :=
  fun p hp => ⟨hs p.1 _ (hne p hp) (N p hp).1, (N p hp).2⟩
theorem none_size {h : Heap} {m : Loc} (F : Fr h₀ L h m) : h₀.get? h.objs.size = none := by
  cases q : h₀.get? h.objs.size with
  | none => rfl
  | some o => exact absurd (Heap.lt_size (F.keep _ _ q)) (Nat.lt_irrefl _)
/-- the ends of a for's turn: the iterator's object o stands in the ledger -/
def ForNext {σ : Type} (h₀ : Heap) (L : Addr) (s : Shared) (x : Str) (io : Addr × Obj) (ld : σ → Led) (ps : σ → List (Str × Value)) (stored : List Str) (m₀ : Loc) (P : σ → Nat → Prop) (s₂ : Shared) : Prop :=
  ∃ (c' : σ) (h' : Heap) (tk : Nat) (m' : Loc) (news' : Led), s₂ = { s with heap := h', toks := tk } ∧ Fr h₀ L h' m' ∧ News h₀ L h' news' ∧ (∀ p ∈ io :: ld c', p ∈ news') ∧ (∀ p ∈ ps c', m' p.1 = some p.2) ∧ (∀ z, z ≠ x → (∀ p ∈ ps c', z ≠ p.1) → stored.contains z = false → m' z = m₀ z) ∧ P c' tk
def ForEnd {σ : Type} (h₀ : Heap) (L : Addr) (s : Shared) (x : Str) (io : Addr × Obj) (ld : σ → Led) (ps : σ → List (Str × Value)) (stored : List Str) (m₀ : Loc) (P : σ → Nat → Prop) (Q : Flow → Shared → Prop) (f : Flow) (s₂ : Shared) : Prop :=
  match f with
  | .ret v => Q (.ret v) s₂
  | .brk => Q .next s₂
  | _ => ForNext h₀ L s x io ld ps stored m₀ P s₂
theorem nextF {σ : Type} {h₀ : Heap} {L : Addr} {s : Shared} {x : Str} {io : Addr × Obj} {ld : σ → Led} {ps : σ → List (Str × Value)} {stored : List Str} {m₀ : Loc} {P : σ → Nat → Prop} (c' : σ) {h' : Heap} {tk : Nat} {m' : Loc} {news' : Led} (F : Fr h₀ L h' m') (N : News h₀ L h' news')
    (hl : ∀ p ∈ io :: ld c', p ∈ news') (hk : ∀ p ∈ ps c', m' p.1 = some p.2) (hr : ∀ z, z ≠ x → (∀ p ∈ ps c', z ≠ p.1) → stored.contains z = false → m' z = m₀ z) (hp : P c' tk) :
    ForNext h₀ L s x io ld ps stored m₀ P { s with heap := h', toks := tk } := ⟨c', h', tk, m', news', rfl, F, N, hl, hk, hr, hp⟩
theorem for_text {σ : Type} {X : Str} {tX : Tok} {x : Str} {px pos : Pos} {iter : Expr} {body : List Stmt} {m₀ : Loc} (ld : σ → Led) (ps : σ → List (Str × Value)) (stored : List Str) (P : Nat → σ → Nat → Prop) (c₀ : σ)
    (hh : A.handled = none) (hx : env.kindOf x = some .local) (hpl : (env.scope.kind == .class || (env.scope.kind == .module && env.locals != env.globals)) = false) (hL : env.locals = L)
    (F : Fr h₀ L s.heap m₀) (N : News h₀ L s.heap (ld c₀)) (hk : ∀ p ∈ ps c₀, m₀ p.1 = some p.2) (hp : P 0 c₀ s.toks) (hadr : ∀ c, (ld c).map (·.1) = (ld c₀).map (·.1))
    (hiter : ∀ Q', Q' (.str X tX) s → wpAny (model prog w) A (eval iter env) Q' E s)
    (turn : ∀ (c : σ) (i ch : Nat) (u : Loc) h (tk tk' t : Nat) (io : Addr × Obj), X.cps[i]? = some ch → P i c tk → tk ≤ t → t < tk' → Fr h₀ L h (fun y => if y = x then some (.str ⟨#[ch]⟩ t) else kstB (fun z => if stored.contains z then u z else m₀ z) (ps c) y) → News h₀ L h (io :: ld c) →
      wpAny (model prog w) A (execs body env) (fun f s₃ => tk' ≤ s₃.toks → ForEnd h₀ L s x io ld ps stored m₀ (P (i + 1)) Q f s₃) E { s with heap := h, toks := tk' })
    (done : ∀ (c : σ) (u : Loc) h tk, P X.cps.size c tk → s.toks ≤ tk → Fr h₀ L h (fun y => if y = x then u y else kstB (fun z => if stored.contains z then u z else m₀ z) (ps c) y) → News h₀ L h (ld c) → Q .next { s with heap := h, toks := tk })
    (hs : ∀ x, foldedSetIterable iter env x = PySem.Sem.pure x := by intro _; rfl)
    (hE : PassesOwn (model prog w) A env E := by passes_own) :
    wpAny (model prog w) A (exec (.For (.Name x px) iter body [] pos) env) Q E s := by
  subst hL
  refine wpAny_For (hiter _ ?_) hs
  have hLs : env.locals < s.heap.objs.size := F.ns.lt
  have key : ∀ ty : String, (∀ (s' : Shared) i c Q', s'.heap.IsStrIter s.heap.objs.size ty X tX i → X.cps[i]? = some c → (∀ h', h'.IsStrIter s.heap.objs.size ty X tX (i + 1) → Heap.SameBut s.heap.objs.size s'.heap h' → Q' (some (.str ⟨#[c]⟩ s'.toks)) { s' with heap := h', toks := s'.toks + 1 }) → wpAny (model prog w) A (pyNext (.ref s.heap.objs.size)) Q' E s') →
      (∀ (s' : Shared) i Q', s'.heap.IsStrIter s.heap.objs.size ty X tX i → X.cps[i]? = none → (∀ h', Heap.ExtBut s.heap.objs.size s'.heap h' → Q' none { s' with heap := h' }) → wpAny (model prog w) A (pyNext (.ref s.heap.objs.size)) Q' E s') →
      codeAny (model prog w) A (.forLoop (.Name x px) (.ref s.heap.objs.size) body [] env) (fun r s' => match r with | .ok f => Q f s' | .error e => cameBackBy (model prog w) A env E e s') { s with heap := s.heap.push { cls := .type ty, data := .fields #[.str X tX, .int 0 0] } } := by
    intro ty item fin
    refine for_rule (Q := Q) (E := E) (fun (c : Nat × σ × Obj) h tk => s.toks ≤ tk ∧ ∃ m, c.2.2.cls = .type ty ∧ c.2.2.data = .fields #[.str X tX, .int c.1 0] ∧ Fr h₀ env.locals h m ∧ News h₀ env.locals h ((s.heap.objs.size, c.2.2) :: ld c.2.1) ∧ (∀ p ∈ ps c.2.1, m p.1 = some p.2) ∧ (∀ z, z ≠ x → (∀ p ∈ ps c.2.1, z ≠ p.1) → stored.contains z = false → m z = m₀ z) ∧ P c.1 c.2.1 tk ∧ c.1 ≤ X.cps.size)
      (fun c => X.cps.size + 1 - c.1) (0, c₀, { cls := .type ty, data := .fields #[.str X tX, .int 0 0] }) ⟨Nat.le_refl _, m₀, rfl, rfl, F.push _, News.push F N _, hk, fun _ _ _ _ => rfl, hp, Nat.zero_le _⟩ ?_ (fun _ _ h => h) hE
    rintro ⟨i, c, o⟩ h tk ⟨hle, m, ho1, ho2, F1, N1, h1, h2, hP, hi⟩
    dsimp only at ho1 ho2 N1 h1 h2 hP hi ⊢
    have hio := (N1 _ (.head _)).1
    have hi0 : h₀.get? s.heap.objs.size = none := (N1 _ (.head _)).2.2
    have hiL : env.locals ≠ s.heap.objs.size := Nat.ne_of_lt hLs
    have hoff : ∀ p ∈ ld c, p.1 ≠ s.heap.objs.size := by
      intro p hp' e
      have hm : p.1 ∈ (ld c).map (·.1) := List.mem_map_of_mem hp'
      rw [hadr c] at hm
      obtain ⟨q, hq, hqe⟩ := List.mem_map.mp hm
      exact absurd (Heap.lt_size (N q hq).1) (by rw [hqe, e]; exact Nat.lt_irrefl _)
    have hit : h.IsStrIter s.heap.objs.size ty X tX i := ⟨o, hio, ho1, ho2⟩
    cases hv : X.cps[i]? with
    | none =>
      have hsz : i = X.cps.size := Nat.le_antisymm hi (by simpa using hv)
      subst hsz
      refine fin { s with heap := h, toks := tk } _ _ hit hv fun h' he => wpAny_execs_nil ?_
      exact done c m h' tk hP hle (kst_frOut h1 h2 (fr_ext F1 he hiL hi0)) (news_ext (fun p hp' => N1 p (.tail _ hp')) he hoff)
    | some ch =>
      have hlt : i < X.cps.size := (Array.getElem?_eq_some_iff.mp hv).1
      refine item { s with heap := h, toks := tk } _ _ _ hit hv fun h' hit' hsb => ?_
      obtain ⟨o', ho', hc', hd'⟩ := hit'
      have F2 := fr_same F1 hsb hiL hi0
      have N2 : News h₀ env.locals h' ((s.heap.objs.size, o') :: ld c) := fun p hp' => by
        rcases List.mem_cons.mp hp' with rfl | hp'
        · exact ⟨ho', (N1 _ (.head _)).2⟩
        · exact news_same (fun p hp' => N1 p (.tail _ hp')) hsb hoff p hp'
      refine wpAny_storeName_local hx F2.ns (fun h3 hn3 hs3 => ?_) hpl
      have F3 : Fr h₀ env.locals h3 _ := F2.set hn3 hs3
      have N3 := N2.set hs3
      refine wpAny_mono (wpAny_toks_of (n := tk + 1 + 1) (Nat.le_refl _) (turn c i ch m h3 tk (tk + 1 + 1) tk (s.heap.objs.size, o') hv hP (Nat.le_refl _) (by (kjx_bare; omega)) (kst_fr h1 h2 F3) N3)) (fun f s₃ q => ?_) fun _ _ x => x.2
      obtain ⟨hle3, q⟩ := q
      replace q := q hle3
      cases f with
      | ret v => exact q
      | brk => exact q
      | next => obtain ⟨c', h9, tk9, m9, news9, rfl, F9, N9, hn, hk9, hr9, hp9⟩ := q; exact ⟨(i + 1, c', o'), h9, tk9, rfl, by dsimp only; (revert hlt; kjx_bare; omega), by dsimp only at hle3; (revert hle hle3; kjx_bare; omega), m9, hc', hd', F9, fun p hp' => N9 p (hn p hp'), hk9, hr9, hp9, hlt⟩
      | cont => obtain ⟨c', h9, tk9, m9, news9, rfl, F9, N9, hn, hk9, hr9, hp9⟩ := q; exact ⟨(i + 1, c', o'), h9, tk9, rfl, by dsimp only; (revert hlt; kjx_bare; omega), by dsimp only at hle3; (revert hle hle3; kjx_bare; omega), m9, hc', hd', F9, fun p hp' => N9 p (hn p hp'), hk9, hr9, hp9, hlt⟩
  cases ha : X.cps.all (· < 128)
  · exact wpAny_pyIter_wide ha (key "str_iterator" (fun s' i c Q' a b d => wpAny_pyNext_wide_item a b d) (fun s' i Q' a b d => wpAny_pyNext_wide_end hh a b d))
  · exact wpAny_pyIter_ascii ha (key "str_ascii_iterator" (fun s' i c Q' a b d => wpAny_pyNext_ascii_item a b d) (fun s' i Q' a b d => wpAny_pyNext_ascii_end hh a b d))
end
end Mine
end
section
open PySem PySem.W PyProof.Rows PyProof
set_option maxRecDepth 100000
set_option maxHeartbeats 8000000
set_option pp.maxSteps 8000
set_option pp.deepTerms false
namespace Mine
abbrev PR : Program := PySem.Challenge.rw_wn0037_01.row.prog
/-- the contract of a def that changes nothing: its answers, its tokens -/
def Pure (w : World) (f : Addr) (kd ku : Nat) (vs : List Value) (pre : Shared → Prop) (R : Value → Prop) : Prop :=
  ∀ (loose : List Str) (mean : ExcName → Option Value) (mg mb : Loc) (news : Led) (dp un : Nat) (gd : Option (List Code)) (cn : Str) (cs : Scope) (a : Addr) (ccd : Value) (cl : List (Str × Addr)) (outer : List Env) (A₀ : Around) (base h₀ : Heap) (L : Addr) (m : Loc) (s : Shared) (Q E : Value → Shared → Prop),
    Below A₀ base outer h₀ → Fr h₀ L s.heap m → (hd.heap_39 w.params).In h₀ → News h₀ L s.heap news → Top topProg loose mean mg mb h₀ → cs.kind = .function →
    dp + kd < recursionLimit → un + ku < cLine → pre s →
    (∀ v h' tk', R v → s.toks ≤ tk' → Fr h₀ L h' m → News h₀ L h' news → Q v { s with heap := h', toks := tk' }) →
    wpAny (model PySem.Challenge.rw_wn0037_01.row.prog w) (ktrTop dp un gd cn cs L a ccd cl outer) (call (.ref f) vs) Q E s
section
variable {prog : Program} {w : World} {A : Around} {E : Value → Shared → Prop} {s : Shared} {value slice : Expr} {x y : Str} {t : Tok} {h₀ : Heap} {L : Addr} {m : Loc} {news : Led} {Q : Value → Shared → Prop}
theorem slice_eq_ns {j : Int} {uj : Tok} (hF : Fr h₀ L s.heap m) (hN : News h₀ L s.heap news) (e : Txt.slice x none (some j) = y) (h : ∀ h' t' k, Fr h₀ L h' m → News h₀ L h' news → Q (.str y t') { s with heap := h', toks := k })
    (hs : subscripted slice false (.str x t) (.ref s.heap.objs.size) = operate [.ref s.heap.objs.size, .str x t] (getItem (.str x t) (.ref s.heap.objs.size)) := by with_unfolding_all rfl)
    (ht : ∀ r, letTemporaryGo value (.str x t) r = pure () := by intro _; with_unfolding_all rfl) (hsz : x.length ≤ sizeLine := by size_fits) :
    wpAny (model prog w) A (subscriptTail value slice (.str x t) (.ref s.heap.objs.size)) Q E { s with heap := s.heap.push { cls := .type "slice", data := .fields #[.none, .int j uj, .none] } } :=
  slice_strN_ns hF hN (fun h' t' k a b => e ▸ h h' t' k a b) hs ht hsz
theorem slice_eq_ss {i j : Int} {ui uj : Tok} (hF : Fr h₀ L s.heap m) (hN : News h₀ L s.heap news) (e : Txt.slice x (some i) (some j) = y) (h : ∀ h' t' k, Fr h₀ L h' m → News h₀ L h' news → Q (.str y t') { s with heap := h', toks := k })
    (hs : subscripted slice false (.str x t) (.ref s.heap.objs.size) = operate [.ref s.heap.objs.size, .str x t] (getItem (.str x t) (.ref s.heap.objs.size)) := by with_unfolding_all rfl)
    (ht : ∀ r, letTemporaryGo value (.str x t) r = pure () := by intro _; with_unfolding_all rfl) (hsz : x.length ≤ sizeLine := by size_fits) :
    wpAny (model prog w) A (subscriptTail value slice (.str x t) (.ref s.heap.objs.size)) Q E { s with heap := s.heap.push { cls := .type "slice", data := .fields #[.int i ui, .int j uj, .none] } } :=
  slice_strN_ss hF hN (fun h' t' k a b => e ▸ h h' t' k a b) hs ht hsz
end
section
local macro_rules | `(tactic| walk_at "LocEnd") => `(tactic| (dsimp only [LocEnd]))
local macro_rules | `(tactic| walk_at "exec While Compare cons nil") => `(tactic| refine halt ?_)
local macro_rules | `(tactic| walk_at "subscriptTail Name Slice str ref") => `(tactic| ((with_reducible show wpAny _ _ (subscriptTail _ (Expr.Slice none (some _) none _) _ _) _ _ _); (with_reducible rename Fr _ _ _ _ => F'); (with_reducible rename News _ _ _ _ => N'); (refine slice_eq_ns (hsz := ?hsz) (s := ⟨_, _, _, _, _⟩) F' N' (by assumption) ?_); (case hsz => size_fits); intro _ _ _ _ _))
local macro_rules | `(tactic| walk_at "subscriptTail Name Slice str ref") => `(tactic| ((with_reducible show wpAny _ _ (subscriptTail _ (Expr.Slice (some _) (some _) none _) _ _) _ _ _); (with_reducible rename Fr _ _ _ _ => F'); (with_reducible rename News _ _ _ _ => N'); (refine slice_eq_ss (hsz := ?hsz) (s := ⟨_, _, _, _, _⟩) F' N' (by assumption) ?_); (case hsz => size_fits); intro _ _ _ _ _))
theorem parse257_spec (w : World) (x l : List Nat) (tx : Tok) (hl : l = 50 :: 53 :: 55 :: 32 :: 34 :: x) (hx : (S l).length ≤ 1000) :
   Pure w 53 1 8 [.str (S l) tx] (fun _ => True) (fun v => ∃ t, v = .str (S (ps x)) t) := by
  unfold Pure
  k_fill
  intro loose mean mg mb news dp un gd cn cs a ccd cl outer A₀ base h₀ L m s Q E hB hF hX hN hT hk hd hu _ hret
  replace hret : ∀ t h' tk', s.toks ≤ tk' → Fr h₀ L h' m → News h₀ L h' news → Q (.str (S (ps x)) t) { s with heap := h', toks := tk' } := fun t h' tk' a b c => hret _ h' tk' ⟨t, rfl⟩ a b c
  refine wpAny_with_toks (Nat.le_refl s.toks) ?_
  have h3 : Txt.slice (S l) none (some 3) = Str.ofString "257" := by
    refine (slice_S_to l 3).trans ?_
    rw [hl]; show S [50, 53, 55] = _; decide +kernel
  have h5 : Txt.slice (S l) (some 3) (some 5) = Str.ofString " \"" := by
    refine (slice_S l 3 5).trans ?_
    rw [hl]; show S [32, 34] = _; decide +kernel
  have hx5 : 5 ≤ (S l).length := by rw [S_len, hl]; simp
  have hx0 : ps x = (Str.ofString "").cps.toList ++ ps (l.drop (5 : Int).toNat) := by rw [hl]; rfl
  clear hl
  refine wpAny_call ?_
  k_dflt cell_enter
  (with_reducible rename Fr _ _ _ _ => F0); refine fr_let F0 ?_; clear F0; intro mk0 F0
  k_steps
  rename Fr _ _ _ _ => F
  rename News _ _ _ _ => N
  refine while_loc (σ := Int × Tok × Str × Tok) (fun _ => news) (fun c => [(Str.ofString "i", .int c.1 c.2.1), (Str.ofString "dirname", .str c.2.2.1 c.2.2.2)]) [Str.ofString "c"]
    (fun c _ => 5 ≤ c.1 ∧ c.1 ≤ ((S l).length : Int) ∧ ps x = c.2.2.1.cps.toList ++ ps (l.drop c.1.toNat) ∧ c.2.2.1.length ≤ c.1) (fun c => (S l).length - c.1.toNat) (5, _, Str.ofString "", _) F N (by kst_all) ?_ ?_
  · exact ⟨Int.le_refl _, by show (5 : Int) ≤ _; (revert hx hx5; kjx_bare; omega), hx0, by show ((0 : Nat) : Int) ≤ 5; decide⟩
  · rintro ⟨i, ti, d, td⟩ u h tk ⟨hi5, hiX, hps, hdl⟩ _ F1 N1
    dsimp only [kstB] at F1 N1 hi5 hiX hps hdl ⊢
    clear F N
    k_fold
    k_steps
    · exact (p_end1 hps (by omega) (by assumption) (by assumption) (by assumption)) ▸ hret _ _ _ (by assumption) (by assumption) (by assumption)
    · exact (p_end2 hps (by (revert hi5; kjx_bare; omega)) (by assumption) (by assumption) (by assumption) (by assumption)) ▸ hret _ _ _ (by assumption) (by assumption) (by assumption)
    · refine nextL (i + 1 + 1, _, d ++ Txt.item (S l) i, _) (by assumption) (by assumption) (by kst_in) (by kst_all) (by ksw_same) ⟨by show (5 : Int) ≤ i + 1 + 1; (revert hi5; kjx_bare; omega), by show (i + 1 + 1 : Int) ≤ _; omega, p_next3 hps (by (revert hi5; kjx_bare; omega)) (by assumption) (by assumption) (by assumption) (by first | assumption | (simp only [Bool.not_eq_true]; assumption)), by show ((d ++ _ : Str).length : Int) ≤ i + 1 + 1; rw [Str.length_append, len_item]; omega⟩ (by show _ - (i + 1 + 1).toNat < _ - i.toNat; omega)
    · refine nextL (i + 1, _, d ++ Txt.item (S l) i, _) (by assumption) (by assumption) (by kst_in) (by kst_all) (by ksw_same) ⟨by show (5 : Int) ≤ i + 1; (revert hi5; kjx_bare; omega), by show (i + 1 : Int) ≤ _; omega, p_next4 hps (by (revert hi5; kjx_bare; omega)) (by assumption) (by first | assumption | (simp only [Bool.not_eq_true]; assumption)), by show ((d ++ _ : Str).length : Int) ≤ i + 1; rw [Str.length_append, len_item]; omega⟩ (by show _ - (i + 1).toNat < _ - i.toNat; omega)
    · exact (p_end5 hps (by assumption)) ▸ hret _ _ _ (by assumption) (by assumption) (by assumption)
end
end Mine
end
section
open PySem PySem.W PyProof.Rows PyProof
set_option maxRecDepth 100000
set_option maxHeartbeats 8000000
set_option pp.maxSteps 8000
set_option pp.deepTerms false
namespace Mine
theorem static_none {K : Frag} {h : Heap} {n : Str} (X : K.In h) (hl : h.NoLimit) (e : nsIn K cStatics n = some none) : ∃ mc, h.Ns cStatics mc ∧ mc n = none := by
  obtain ⟨mc, hn, _⟩ := hl
  refine ⟨mc, hn, ?_⟩
  obtain ⟨o, es, ep, ho, hd, _, hf⟩ := hn
  unfold nsIn at e
  split at e
  · rename_i c d es' n' sl q
    have := X _ _ q
    rw [ho] at this
    cases this
    cases hd
    split at e
    · cases e
    · rename_i he
      rw [← hf]
      unfold nsFind findBy
      rw [← Array.find?_toList, he]
      rfl
  · cases e
theorem static_k {K : Frag} {p : Program} {loose : List Str} {mean : ExcName → Option Value} {mg mb : Loc} {h₀ h : Heap} {L : Addr} {m : Loc} (e : nsIn K cStatics sharingNotToldKey = some none) (X : K.In h₀) (T : Top p loose mean mg mb h₀) (F : Fr h₀ L h m) : ∃ mc, h.Ns cStatics mc ∧ mc sharingNotToldKey = none :=
  static_none (X.keeps F.keep) (T.nolimit.keeps F.keep) e
theorem is_str {M : Model} {A : Around} {E : Value → Shared → Prop} {s : Shared} {x y : Str} {t u : Nat} {Q : Value → Shared → Prop} (hst : ∃ mc, s.heap.Ns cStatics mc ∧ mc sharingNotToldKey = none) (ht : 0 < t) (hu : 0 < u) (htu : t ≠ u)
    (h : ∀ b : Bool, (b = true → x = y) → Q (.bool b) s) : wpAny M A (compareOp .Is (.str x t) (.str y u)) Q E s := by
  obtain ⟨mc, hn, hm⟩ := hst
  show wpAny M A (do return .bool (← isSame.created (x == y) t u)) Q E s
  refine wpAny_bind ?_
  unfold isSame.created
  have e0 : (t == 0 || u == 0) = false := by
    have h1 : t ≠ 0 := Nat.ne_of_gt ht
    have h2 : u ≠ 0 := Nat.ne_of_gt hu
    simp [h1, h2]
  have e1 : (t == u) = false := by simpa using htu
  have nt : ∀ (k : Nat) (R : Bool → Shared → Prop), R false s → wpAny M A (sharingNotTold k) R E s := fun k R hR => by
    unfold sharingNotTold
    refine wpAny_bind (wpAny_nsGet hn ?_)
    rw [hm]
    exact wpAny_pure hR
  simp only [e0, e1, Bool.false_eq_true, if_false]
  cases hxy : (x == y) with
  | false =>
    simp only [Bool.not_false, if_true]
    exact wpAny_pure (wpAny_pure (h false (fun e => nomatch e)))
  | true =>
    simp only [Bool.not_true, Bool.false_eq_true, if_false]
    refine wpAny_bind (nt t _ ?_)
    simp only [Bool.false_eq_true, if_false]
    refine wpAny_bind (nt u _ ?_)
    simp only [Bool.false_eq_true, if_false]
    refine wpAny_bind (wpAny_rule ?_)
    refine wpAny_bind (wpAny_askSetting ?_)
    exact wpAny_pure (wpAny_pure (h _ (fun _ => beq_iff_eq.mp hxy)))
theorem cnt_succ {l : List Nat} {i ch c : Nat} (h : (S l).cps[i]? = some ch) : (l.take (i + 1)).count c = (l.take i).count c + if ch = c then 1 else 0 := by
  have h' : l[i]? = some ch := by simpa [S] using h
  rw [List.take_add_one, h', List.count_append]
  simp only [Option.toList_some, List.count_cons, List.count_nil, Nat.zero_add]
  simp
section
variable {M : Model} {A : Around} {E : Value → Shared → Prop} {s : Shared} {env : Env} {Q : Flow → Shared → Prop}
theorem execs_tok {T0 t : Nat} {hp : Heap} {g : Array GenState} {d : Drawn} {os : OsState} {st : Stmt} {rest : List Stmt} (hT : T0 ≤ t) (h : ∀ tk, T0 ≤ tk → wpAny M A (exec st env) (fun f s' => T0 ≤ s'.toks → match f with | .next => wpAny M A (execs rest env) Q E s' | f => Q f s') E ⟨hp, g, d, tk, os⟩) :
    wpAny M A (execs (st :: rest) env) Q E ⟨hp, g, d, t, os⟩ := wpAny_execs_cons (wpAny_mono (wpAny_toks_of hT (h t hT)) (fun _ _ x => x.2 x.1) (fun _ _ x => x.2))
end
section
local macro_rules | `(tactic| walk_at "none 0") => `(tactic| skip)
local macro_rules | `(tactic| walk_at "execs cons") => `(tactic| ((with_unfolding_all refine' execs_tok ?hT ?_); (case hT => first | with_reducible assumption | with_unfolding_all exact Nat.le_add_right _ _ | with_unfolding_all exact Nat.le_refl _); intro _ _; (try dsimp only)))
local macro_rules | `(tactic| walk_at "ForEnd") => `(tactic| (dsimp only [ForEnd]))
local macro_rules | `(tactic| walk_at "exec For Name Name cons nil") => `(tactic| refine halt ?_)
local macro_rules | `(tactic| walk_at "compareOp Is str str") => `(tactic| refine halt ?_)
theorem countOf_spec (w : World) (l : List Nat) (c : Nat) (tx ty : Nat) (hx : (S l).length ≤ 1000) :
   Pure w 109 1 8 [.str (S l) tx, .str (S [c]) ty] (fun s => 0 < ty ∧ ty < s.toks) (fun v => ∃ t, v = .int (l.count c : Nat) t) := by
  unfold Pure
  k_fill
  intro loose mean mg mb news dp un gd cn cs a ccd cl outer A₀ base h₀ L m s Q E hB hF hX hN hT hk hd hu ⟨hty, htys⟩ hret
  replace hret : ∀ t h' tk', s.toks ≤ tk' → Fr h₀ L h' m → News h₀ L h' news → Q (.int (l.count c : Nat) t) { s with heap := h', toks := tk' } := fun t h' tk' a b c => hret _ h' tk' ⟨t, rfl⟩ a b c
  have hst : nsIn (_root_.Mine.hd.heap_39 w.params) cStatics sharingNotToldKey = some none := by k_is
  refine wpAny_call ?_
  k_dflt cell_enter
  k_steps
  rename Fr _ _ _ _ => F
  rename News _ _ _ _ => N
  refine for_text (X := S l) (σ := Int × Tok) (fun _ => news) (fun c => [(Str.ofString "count", .int c.1 c.2)]) [] (fun i c' tk => c'.1 = ((l.take i).count c : Nat) ∧ ty < tk) (0, _) rfl rfl rfl rfl F N (by kst_all) ?_ (fun _ => rfl) (by intro Q' hq; walk1; exact hq) ?_ ?_
  · exact ⟨rfl, by dsimp only; omega⟩
  · rintro ⟨n, tn⟩ i ch u h tk tk' t ⟨it, o⟩ hch ⟨hn, htt⟩ htk htk' F1 N1
    dsimp only [kstB] at F1 N1 hn ⊢
    clear F N
    k_fold
    k_steps
    refine is_str (static_k hst (by assumption) (by assumption) (by assumption)) (by (revert hty htt htk; kjx_bare; omega)) hty (by (revert htt htk; kjx_bare; omega)) (fun b hb => ?_)
    k_steps
    · have hc : ch = c := by simpa using S_inj (hb (by assumption))
      exact nextF (n + 1, _) (by assumption) (by assumption) (by kst_in) (by kst_all) (by kst_same) ⟨by rw [cnt_succ hch, hn, if_pos hc]; (kjx_bare; omega), by omega⟩
    · have hc : ch = c := by simpa using S_inj (beq_iff_eq.mp (by assumption : (S [ch] == S [c]) = true))
      exact nextF (n + 1, _) (by assumption) (by assumption) (by kst_in) (by kst_all) (by kst_same) ⟨by rw [cnt_succ hch, hn, if_pos hc]; (kjx_bare; omega), by omega⟩
    · have hc : ch ≠ c := by
        intro e
        have hne : (S [ch] == S [c]) = false := by assumption
        rw [e] at hne; simp at hne
      exact nextF (n, _) (by assumption) (by assumption) (by kst_in) (by kst_all) (by kst_same) ⟨by rw [cnt_succ hch, hn, if_neg hc]; (kjx_bare; omega), by omega⟩
  · rintro ⟨n, tn⟩ u h tk ⟨hn, _⟩ hle F1 N1
    dsimp only [kstB] at F1 N1 hn hle ⊢
    clear F N
    rw [show (S l).cps.size = l.length from S_len l, List.take_length] at hn
    subst hn
    k_steps
    exact hret _ _ _ (by assumption) (by assumption) (by assumption)
end
end Mine
end
section
open PySem PySem.W PyProof.Rows PyProof
set_option maxRecDepth 100000
set_option maxHeartbeats 8000000
namespace Mine
/-! the lambda that stands in the text (by its place in the row) -/
def lexFn : List Stmt := match PySem.Challenge.pw_wn0037_01.main.body.drop 14 with
  | .FunctionDef _ _ b _ _ _ _ _ _ _ :: _ => b
  | _ => []
def lamE : Expr := match lexFn with
  | _ :: .Assign _ e _ :: _ => e
  | _ => .Constant .none 0 ⟨0, 0, 0, 0⟩
def lamArgs : Arguments := match lamE with | .Lambda a _ _ _ => a | _ => { posonlyargs := [], args := [], vararg := none, kwonlyargs := [], kw_defaults := [], kwarg := none, defaults := [] }
def lamBody : Expr := match lamE with | .Lambda _ b _ _ => b | e => e
def lamScope : Scope := match lamE with | .Lambda _ _ sc _ => sc | _ => default
def lamQual : Str := (Str.ofString "_law_lexer" ++ Str.ofString ".<locals>.") ++ Str.ofString "<lambda>"
set_option genInjectivity false in
set_option genSizeOf false in
set_option genSizeOfSpec false in
/-- the lexer, its stream, its list -/
structure LX where
  x : Nat
  dx : Nat
  pb : Nat
  st : Nat
  dst : Nat
  pb1 : Nat
  f : Nat
  c : Nat
  cell : Nat
  l : Nat
  k1 : Nat
  k2 : Nat
  k3 : Nat
  k4 : Nat
  tw : Nat
  j1 : Nat
  j2 : Nat
  j3 : Nat
  j4 : Nat
  j5 : Nat
  tj : Nat
  tw1 : Nat
  oc : Obj
  oCell : Obj
  vs : Array Value
  qt : Nat
  ct : Value
  nm : Value
def LX.dict (P : Params) (X : LX) (ln : Int) (tl : Nat) : List DictEntry :=
  [⟨PyData.keyHash P (Str.ofString "lineno"), .str (Str.ofString "lineno") X.k1, .int ln tl⟩, ⟨PyData.keyHash P (Str.ofString "instream"), .str (Str.ofString "instream") X.k2, .ref X.st⟩,
   ⟨PyData.keyHash P (Str.ofString "whitespace"), .str (Str.ofString "whitespace") X.k3, .str (Str.ofString "\n\t\x0d ") X.tw⟩, ⟨PyData.keyHash P (Str.ofString "pushback"), .str (Str.ofString "pushback") X.k4, .ref X.pb⟩]
def LX.sdict (P : Params) (X : LX) : List DictEntry :=
  [⟨PyData.keyHash P (Str.ofString "lineno"), .str (Str.ofString "lineno") X.j1, .int 1 X.tj⟩, ⟨PyData.keyHash P (Str.ofString "instream"), .str (Str.ofString "instream") X.j2, .none⟩,
   ⟨PyData.keyHash P (Str.ofString "whitespace"), .str (Str.ofString "whitespace") X.j3, .str (Str.ofString "\n\t\x0d ") X.tw1⟩, ⟨PyData.keyHash P (Str.ofString "pushback"), .str (Str.ofString "pushback") X.j4, .ref X.pb1⟩,
   ⟨PyData.keyHash P (Str.ofString "read"), .str (Str.ofString "read") X.j5, .ref X.f⟩]
def LX.led (P : Params) (X : LX) (left : List Value) (n : Nat) (ln : Int) (tl : Nat) : Led :=
  [(X.l, W.listOf left.toArray n), (X.dx, dictOf (X.dict P ln tl) 4), (X.x, instObj 91 X.dx), (X.pb, W.listOf #[] 0), (X.st, instObj 91 X.dst), (X.dst, dictOf (X.sdict P) 5),
   (X.f, kla_obj (Str.ofString "<lambda>") lamQual lamArgs lamBody lamScope [(Str.ofString "left", X.cell)] X.nm X.c X.ct), (X.c, X.oc), (X.cell, X.oCell)]
structure LX.Ok (X : LX) : Prop where
  ord : 130 < X.l ∧ X.l < X.cell ∧ X.cell < X.dst ∧ X.dst < X.st ∧ X.st < X.pb1 ∧ X.pb1 < X.f ∧ ((X.pb1 < X.c ∧ X.c < X.f) ∨ (130 < X.c ∧ X.c < X.l)) ∧ X.f < X.dx ∧ X.dx < X.x ∧ X.x < X.pb
  oc : X.oc.data = .fields X.vs
  vs : X.vs[1]? = some (.str lamQual X.qt)
  cell : X.oCell.data = .cell (some (.ref X.l))
def LX.adr (X : LX) : List Nat := [X.l, X.dx, X.x, X.pb, X.st, X.dst, X.f, X.c, X.cell]
end Mine
namespace Mine
section
variable {prog : Program} {w : World} {A : Around} {E : Value → Shared → Prop} {s : Shared} {h₀ : Heap} {L : Addr} {news : Led} {Q : Value → Shared → Prop} {l l' : Addr} {n n' : Nat} {v : Value} {vs : List Value}
theorem isList_of (N : News h₀ L s.heap news) {a : Array Value} (h1 : (l, W.listOf a n) ∈ news) : s.heap.IsList l a := ⟨_, N.get h1, rfl, n, rfl⟩
theorem ne_cons (N : News h₀ L s.heap news) (h1 : (l, W.listOf (v :: vs).toArray n) ∈ news) (h2 : (l', W.listOf #[] n') ∈ news) (hu : A.units < cLine) (h : Q (.bool true) s) : wpAny (model prog w) A (compareOp .NotEq (.ref l) (.ref l')) Q E s :=
  SeqAt.RcNeAt.lists_lengths (isList_of N h1) (isList_of N h2) (by simp) hu prog w E Q h
theorem ne_nil (N : News h₀ L s.heap news) (h1 : (l, W.listOf ([] : List Value).toArray n) ∈ news) (h2 : (l', W.listOf #[] n') ∈ news) (hu : A.units < cLine) (h : Q (.bool false) s) : wpAny (model prog w) A (compareOp .NotEq (.ref l) (.ref l')) Q E s :=
  SeqAt.RcNeAt.lists (e := fun _ => true) (isList_of N h1) (isList_of N h2) (by simp) hu (fun j h1 => absurd h1 (by simp)) prog w E Q (by simpa using h)
end
end Mine
namespace Mine
theorem pop0 {prog : Program} {w : World} {A : Around} {E : Value → Shared → Prop} {s : Shared} {h₀ : Heap} {L D : Addr} {m : Loc} {news news' : Led} {n : Nat} {v : Value} {vs : List Value} {u : Tok} {Q : Value → Shared → Prop} (F : Fr h₀ L s.heap m) (N : News h₀ L s.heap news)
    (U : Upd D (W.listOf (v :: vs).toArray n) (W.listOf vs.toArray (n + 1)) news news') (hz : vs.length + 1 ≤ sizeLine) (h : ∀ h', Fr h₀ L h' m → News h₀ L h' news' → Q v { s with heap := h' }) :
    wpAny (model prog w) A (call (.builtin "list.pop") [.ref D, .int 0 u]) Q E s :=
  kl_popAt (k := 0) (p := []) (q := vs) F N (by decide) (by simp [seqIndex?]) rfl U (by simpa using hz) h
end Mine
namespace Mine
/-- the contract of a def that turns objects of the ledger -/
def CodeSpec (w : World) (f : Nat) (vs : List Value) (kd ku : Nat) (ld : Led) (pre : Shared → Prop) (Post : Value → Led → Prop) : Prop :=
  ∀ (loose : List Str) (mean : ExcName → Option Value) (mg mb : Loc) (dp un : Nat) (gd : Option (List Code)) (cn : Str) (cs : Scope) (a : Nat) (ccd : Value) (cl : List (Str × Addr)) (outer : List Env) (A₀ : Around) (base h₀ : Heap) (L : Nat) (m : Loc) (s : Shared) (R : Result → Shared → Prop),
    Below A₀ base outer h₀ → Fr h₀ L s.heap m → (hd.heap_39 w.params).In h₀ → CodeHd base 134 130 → News h₀ L s.heap ld → Top topProg loose mean mg mb h₀ → cs.kind = .function →
    dp + kd < recursionLimit → un + ku < cLine → pre s →
    (∀ v ld' h' tk', Post v ld' → s.toks ≤ tk' → Fr h₀ L h' m → News h₀ L h' ld' → R (.ok (.ret v)) { s with heap := h', toks := tk' }) →
    codeAny (model PySem.Challenge.rw_wn0037_01.row.prog w) (ktrTop dp un gd cn cs L a ccd cl outer) (.call (.ref f) ⟨vs, []⟩) R s
theorem codeAny_toks {prog : Program} {w : World} {A : Around} {c : Code} {R : Result → Shared → Prop} {s : Shared} {n : Nat} (hn : n ≤ s.toks) (h : codeAny (model prog w) A c (fun r s' => n ≤ s'.toks → R r s') s) : codeAny (model prog w) A c R s := codeAny_with_toks hn h
theorem news_sub {h₀ h : Heap} {L : Addr} {a b : Led} (N : News h₀ L h a) (hs : ∀ p ∈ b, p ∈ a) : News h₀ L h b := fun p hp => N p (hs p hp)
end Mine
end
section
open PySem PySem.W PyProof.Rows PyProof
set_option maxRecDepth 100000
set_option maxHeartbeats 8000000
set_option pp.maxSteps 8000
set_option pp.deepTerms false
namespace Mine
section
local macro_rules | `(tactic| walk_at "eval") => `(tactic| (show wpAny _ _ (eval (Expr.IfExp _ _ _ _) _) _ _ _))
local macro_rules | `(tactic| walk_at "compareOp NotEq ref ref") => `(tactic| (k_here; k_dflt (first
  | (refine' ne_cons ?k1 ?k2 ?k3 ?k4 ?_; (case k1 => k_asm); (case k2 => k_mem); (case k3 => k_mem); (case k4 => k_units); k_whole)
  | (refine' ne_nil ?k1 ?k2 ?k3 ?k4 ?_; (case k1 => k_asm); (case k2 => k_mem); (case k3 => k_mem); (case k4 => k_units); k_whole))))
local macro_rules | `(tactic| walk_at "call builtin:list.pop") => `(tactic| (k_here; k_dflt (refine' pop0 ?F ?N ?U ?z ?_; (case F => k_asm); (case N => k_asm); (case U => k_upd); (case z => first | assumption | (simp only [sizeLine_eq]; omega)); k_whole); intro h' F' N'; (try dsimp only [List.nil_append, List.cons_append] at N')))
theorem readchar_cons (w : World) (X : LX) (hX : X.Ok) (own : Led) (hown : OwnOff own X.adr) (ch t0 : Nat) (vs : List Value) (n tl : Nat) (ln : Int) (hvs : vs.length + 1 ≤ sizeLine) (hln : -1000 ≤ ln ∧ ln ≤ 1000) :
   CodeSpec w 74 [.ref X.x] 9 99 (X.led w.params (.str (S [ch]) t0 :: vs) n ln tl ++ own) (fun _ => True)
     (fun v ld' => v = .str (S [ch]) t0 ∧ ∃ tl', ld' = X.led w.params vs (n + 1) (ln + if ch = 10 then 1 else 0) tl' ++ own) := by
  unfold CodeSpec
  k_fill
  intro loose mean mg mb dp un gd cn cs a ccd cl outer A₀ base h₀ L m s R hB hF hKX hC hN hT hk hd hu _ hret
  obtain ⟨x, dx, pb, st, dst, pb1, f, c, cell, l, k1, k2, k3, k4, tw, j1, j2, j3, j4, j5, tj, tw1, oc, oCell, vs1, qt, ct, nm⟩ := X
  obtain ⟨hord, hoc, hvs1, hcell⟩ := hX
  obtain ⟨o1, o2, o3, o4, o5, o6, o7, o8, o9, o10⟩ := hord
  dsimp only [LX.led, LX.dict, LX.sdict, LX.adr, List.cons_append, List.nil_append] at hN hown o1 o2 o3 o4 o5 o6 o7 o8 o9 o10 hoc hvs1 hcell hret ⊢
  refine codeAny_toks (Nat.le_refl s.toks) ?_
  k_dflt cell_enter
  k_steps
  · have hc : ch = 10 := by
      have e : (S [ch] == Str.ofString "\n") = true := by assumption
      rw [show Str.ofString "\n" = S [10] by decide +kernel, S_beq] at e; simpa using e
    subst hc
    exact hret _ _ _ _ ⟨rfl, _, rfl⟩ (by assumption) (by assumption) (news_sub (by assumption) (by kst_in))
  · have hc : ch ≠ 10 := by
      have e : (S [ch] == Str.ofString "\n") = false := by assumption
      rw [show Str.ofString "\n" = S [10] by decide +kernel, S_beq] at e; simpa using e
    exact hret _ _ _ _ ⟨rfl, tl, by rw [if_neg hc, Int.add_zero]⟩ (by assumption) (by assumption) (news_sub (by assumption) (by kst_in))
theorem readchar_nil (w : World) (X : LX) (hX : X.Ok) (own : Led) (hown : OwnOff own X.adr) (n tl : Nat) (ln : Int) :
   CodeSpec w 74 [.ref X.x] 9 99 (X.led w.params [] n ln tl ++ own) (fun _ => True)
     (fun v ld' => (∃ t, v = .str (S []) t) ∧ ld' = X.led w.params [] n ln tl ++ own) := by
  unfold CodeSpec
  k_fill
  intro loose mean mg mb dp un gd cn cs a ccd cl outer A₀ base h₀ L m s R hB hF hKX hC hN hT hk hd hu _ hret
  obtain ⟨x, dx, pb, st, dst, pb1, f, c, cell, l, k1, k2, k3, k4, tw, j1, j2, j3, j4, j5, tj, tw1, oc, oCell, vs1, qt, ct, nm⟩ := X
  obtain ⟨hord, hoc, hvs1, hcell⟩ := hX
  obtain ⟨o1, o2, o3, o4, o5, o6, o7, o8, o9, o10⟩ := hord
  dsimp only [LX.led, LX.dict, LX.sdict, LX.adr, List.cons_append, List.nil_append] at hN hown o1 o2 o3 o4 o5 o6 o7 o8 o9 o10 hoc hvs1 hcell hret ⊢
  refine codeAny_toks (Nat.le_refl s.toks) ?_
  k_dflt cell_enter
  k_steps
  · exact hret _ _ _ _ ⟨⟨_, by rw [← S_nil]⟩, rfl⟩ (by assumption) (by assumption) (news_sub (by assumption) (by kst_in))
end
end Mine
end
section
open PySem PySem.W PyProof.Rows PyProof
open PySem.Builtin
set_option maxRecDepth 100000
set_option maxHeartbeats 8000000
namespace Mine
theorem slot_ci_next : Slot "callable_iterator" "__next__" "callable_iterator.__next__" :=
  .of (owner := "callable_iterator") (n := "__next__") (by rw [typeLookup_type, builtinLookup_eq_fast]; kernel_rfl) (by decide +kernel) (by decide +kernel) (by decide +kernel)
    (by first | exact .inl (by decide +kernel) | exact .inr (by decide +kernel)) (by rw [isSubtype_type]; kernel_rfl)
theorem entry_ci_next : entryFor table "callable_iterator.__next__" = some Builtin.«callable_iterator.__next__» := entryFor_of_tree (by kernel_rfl)
theorem args_ci_next (a : Value) : argsOk "callable_iterator.__next__" ⟨[a], []⟩ := by unfold argsOk; kernel_rfl
def ciObj (bm ts : Nat) : Obj := { cls := .type "callable_iterator", data := .fields #[.ref bm, .str (S []) ts, .bool false] }
def ciDone : Obj := { cls := .type "callable_iterator", data := .fields #[.none, .none, .bool true] }
section
variable {prog : Program} {w : World} {A : Around} {E : Value → Shared → Prop} {s : Shared} {it bm g ts : Nat} {self : Value} {og : Obj} {fd : FuncData}
theorem stop_next {α : Type} {Qp : α → Shared → Prop} {Q : Option Value → Shared → Prop} {s' : Shared} (hh : A.handled = none) (hQ : ∀ h', (∀ b o, s'.heap.get? b = some o → h'.get? b = some o) → Q none { s' with heap := h' }) :
    wpAny (model prog w) A.in1 (SmallTypes.stopIteration : Sem α) Qp (fun e s'' => wpAny (model prog w) A (do if ← isInstance e (.type "StopIteration") then pure none else throw e : Sem (Option Value)) Q E s'') s' := by
  show wpAny _ _ (newExc (.type "StopIteration") [] >>= _) _ _ _
  refine wpAny_bind ?_
  simp only [newExc, newTuple]
  refine wpAny_bind (wpAny_newObj_type ?_ (by size_fits))
  refine wpAny_bind (m := firstArgMember _ _) (wpAny_of_eq (a := Value.none) (by first | rfl | (simp only [firstArgMember]; rfl)) ?_)
  refine wpAny_newObj_type ?_ (by size_fits)
  simp only [raiseNew]
  refine wpAny_bind (wpAny_handled ?_)
  rw [show A.in1.handled = none from hh]
  refine wpAny_bind (wpAny_pure (wpAny_throw ?_))
  refine wpAny_bind (wpAny_isInstance (T := "StopIteration") (b := true) ⟨_, Heap.get?_push_size _ rfl, rfl⟩ isSubtype_stop ?_)
  exact wpAny_pure (hQ _ fun b o e => Heap.get?_push_of_some _ (Heap.get?_push_of_some _ e))
abbrev goOn (prog : Program) (w : World) (A : Around) (Q : Option Value → Shared → Prop) (E : Value → Shared → Prop) : Result → Shared → Prop := fun r s' => match r with
  | .ok (.ret v) => Q (some v) s'
  | .ok _ => False
  | .error e => wpAny (model prog w) A (do if ← isInstance e (.type "StopIteration") then pure none else throw e : Sem (Option Value)) Q E s'
theorem borrows (hbm : s.heap.get? bm = some (methodObj (.ref g) self)) (hg : s.heap.get? g = some og) (hfd : og.data = .func fd) {Q : Bool → Shared → Prop} (h : Q true s) : wpAny (model prog w) A (borrowsExactly (.ref bm)) Q E s := by
  unfold borrowsExactly
  refine wpAny_bind (wpAny_load hbm ?_)
  show wpAny _ _ (do match (← load g).data with | .func _ => pure true | _ => pure false) _ _ _
  refine wpAny_bind (wpAny_load hg ?_)
  rw [hfd]
  exact wpAny_pure h
theorem next_ended {Q : Option Value → Shared → Prop} (hh : A.handled = none) (hit : s.heap.get? it = some ciDone) (hQ : ∀ h', (∀ b o, s.heap.get? b = some o → h'.get? b = some o) → Q none { s with heap := h' }) :
    wpAny (model prog w) A (pyNext (.ref it)) Q E s := by
  unfold pyNext
  refine wpAny_bind (wpAny_attempt (wpAny_callSpecial?_slot (name := Str.ofString "__next__") ⟨_, hit, rfl⟩ slot_ci_next
    (wpAny_call_entry slot_ci_next ⟨_, hit, rfl⟩ entry_ci_next ?_ (args_ci_next _))))
  show wpAny _ _ (field (.ref it) 2 >>= _) _ _ s
  refine wpAny_bind (wpAny_field hit rfl (x := .bool true) rfl ?_)
  refine wpAny_bind (wpAny_rule ?_)
  exact wpAny_bind (stop_next hh hQ)
theorem next_call {Q : Option Value → Shared → Prop} (hh : A.handled = none) (hit : s.heap.get? it = some (ciObj bm ts)) (hbm : s.heap.get? bm = some (methodObj (.ref g) self)) (hg : s.heap.get? g = some og) (hfd : og.data = .func fd)
    (hc : codeAny (model prog w) A.in1 (.call (.ref g) ⟨[self], []⟩) (fun r s' => ∃ x t, r = .ok (.ret (.str x t)) ∧ s'.heap.get? it = some (ciObj bm ts) ∧ s'.heap.get? bm = some (methodObj (.ref g) self) ∧ s'.heap.get? g = some og ∧
      (x ≠ S [] → Q (some (.str x t)) s') ∧ (x = S [] → ∀ h', Heap.ExtBut it s'.heap h' → h'.get? it = some ciDone → Q none { s' with heap := h' })) s) :
    wpAny (model prog w) A (pyNext (.ref it)) Q E s := by
  unfold pyNext
  refine wpAny_bind (wpAny_attempt (wpAny_callSpecial?_slot (name := Str.ofString "__next__") ⟨_, hit, rfl⟩ slot_ci_next
    (wpAny_call_entry slot_ci_next ⟨_, hit, rfl⟩ entry_ci_next ?_ (args_ci_next _))))
  show wpAny _ _ (field (.ref it) 2 >>= _) _ _ s
  refine wpAny_bind (wpAny_field hit rfl (x := .bool false) rfl ?_)
  show wpAny _ _ ((field (.ref it) 0 >>= fun f => (callOutOfASlot f []).attempt >>= _)) _ _ s
  refine wpAny_bind (wpAny_field hit rfl (x := .ref bm) rfl ?_)
  refine wpAny_bind (wpAny_attempt ?_)
  unfold callOutOfASlot
  refine wpAny_bind (borrows hbm hg hfd ?_)
  simp only [if_true]
  unfold callBorrowed
  refine X.x_call (codeAny_mono (method_call hbm hc) ?_) (by intro h; cases h)
  rintro r s' ⟨x, t, rfl, hit', hbm', hg', h1, h2⟩
  show wpAny _ _ (Sem.pure _) _ _ _
  refine wpAny_pure ?_
  show wpAny _ _ (field (.ref it) 2 >>= _) _ _ s'
  refine wpAny_bind (wpAny_field hit' rfl (x := .bool false) rfl ?_)
  show wpAny _ _ (field (.ref it) 1 >>= _) _ _ s'
  refine wpAny_bind (wpAny_field hit' rfl (x := .str (S []) ts) rfl ?_)
  refine wpAny_bind (wpAny_holding (SeqAt.EqAt.str_str (S []) ts x t prog w _ _ ?_))
  by_cases hx : x = S []
  · subst hx
    simp only [beq_self_eq_true, Bool.not_true, Bool.false_eq_true, if_false]
    refine wpAny_bind (wpAny_rule (wpAny_bind ?_))
    show wpAny _ _ (field (.ref it) 0 >>= fun f => slotLetsGo _ f _ >>= fun _ => setField (.ref it) 0 .none >>= fun _ => setField (.ref it) 1 .none >>= fun _ => setField (.ref it) 2 (.bool true)) _ _ s'
    refine wpAny_bind (wpAny_field hit' rfl (x := .ref bm) rfl ?_)
    refine wpAny_bind ?_
    unfold slotLetsGo
    refine wpAny_bind (borrows hbm' hg' hfd ?_)
    simp only [if_true]
    refine wpAny_pure ?_
    have e1 := Heap.get?_update_self (Obj.mapFields (·.setIfInBounds 0 Value.none)) hit' rfl
    refine wpAny_bind (wpAny_setField hit' rfl (by simp [ciObj]) ?_)
    have e2 := Heap.get?_update_self (Obj.mapFields (·.setIfInBounds 1 Value.none)) e1 rfl
    refine wpAny_bind (wpAny_setField e1 rfl (by simp [ciObj, Obj.mapFields]) ?_)
    have e3 := Heap.get?_update_self (Obj.mapFields (·.setIfInBounds 2 (Value.bool true))) e2 rfl
    refine wpAny_setField e2 rfl (by simp [ciObj, Obj.mapFields]) ?_
    refine stop_next hh fun h' hk => h2 rfl h' ?_ (hk _ _ e3)
    intro b o hb e
    refine hk b o ?_
    exact (Heap.get?_update_ne _ _ _ _ hb).trans ((Heap.get?_update_ne _ _ _ _ hb).trans ((Heap.get?_update_ne _ _ _ _ hb).trans e))
  · have e : (S [] == x) = false := by simpa using fun h => hx h.symm
    simp only [e, Bool.not_false, if_true]
    exact wpAny_pure ⟨_, rfl, wpAny_pure (h1 hx)⟩
end
end Mine
end
section
open PySem PySem.W PyProof.Rows PyProof
open PySem.Builtin
set_option maxRecDepth 100000
set_option maxHeartbeats 8000000
namespace Mine
theorem slot_ci_iter : Slot "callable_iterator" "__iter__" "callable_iterator.__iter__" :=
  .of (owner := "callable_iterator") (n := "__iter__") (by rw [typeLookup_type, builtinLookup_eq_fast]; kernel_rfl) (by decide +kernel) (by decide +kernel) (by decide +kernel)
    (by first | exact .inl (by decide +kernel) | exact .inr (by decide +kernel)) (by rw [isSubtype_type]; kernel_rfl)
theorem entry_ci_iter : entryFor table "callable_iterator.__iter__" = some Builtin.«dict_keyiterator.__iter__» :=
  entryFor_alias (id' := "dict_keyiterator.__iter__") (by kernel_rfl) rfl (by decide +kernel) (by kernel_rfl)
theorem args_ci_iter (a : Value) : argsOk "callable_iterator.__iter__" ⟨[a], []⟩ := by unfold argsOk; kernel_rfl
theorem iter_ci {prog : Program} {w : World} {A : Around} {E : Value → Shared → Prop} {s : Shared} {it : Nat} {o : Obj} {Q : Value → Shared → Prop} (hit : s.heap.get? it = some o) (hc : o.cls = .type "callable_iterator") (h : Q (.ref it) s) :
    wpAny (model prog w) A (pyIter (.ref it)) Q E s := by
  have hT : s.TypeIs (.ref it) "callable_iterator" := ⟨o, hit, hc⟩
  refine wpAny_pyIter_slot hT slot_ci_iter (wpAny_call_entry slot_ci_iter hT entry_ci_iter ?_ (args_ci_iter _))
  show wpAny _ _ (ret (.ref it)) _ _ s
  exact wpAny_pure ⟨_, rfl, "callable_iterator", _, hT, slot_ci_next.lookup, h⟩
/-- signs with their tokens -/
def vals (l : List (Nat × Nat)) : List Value := l.map fun p => .str (S [p.1]) p.2
def nl (c : Nat) : Int := if c = 10 then 1 else 0
structure LS where
  rem : List (Nat × Nat)
  n : Nat
  ln : Int
  tl : Nat
def LX.at (P : Params) (X : LX) (it bm ts : Nat) (own : Led) (c : LS) : Led :=
  X.led P (vals c.rem) c.n c.ln c.tl ++ (it, ciObj bm ts) :: (bm, methodObj (.ref 74) (.ref X.x)) :: own
def LX.done (P : Params) (X : LX) (it bm : Nat) (own : Led) (c : LS) : Led :=
  X.led P (vals c.rem) c.n c.ln c.tl ++ (it, ciDone) :: (bm, methodObj (.ref 74) (.ref X.x)) :: own
section
variable {w : World} {E : Value → Shared → Prop} {Q : Flow → Shared → Prop} {s : Shared} {h₀ base : Heap} {L : Nat} {A₀ : Around} {dp un : Nat} {gd : Option (List Code)} {cn : Str} {cs : Scope} {a : Nat} {ccd : Value} {cl : List (Str × Addr)} {outer : List Env}
  {loose : List Str} {mean : ExcName → Option Value} {mg mb : Loc}
def LexNext {σ : Type} (h₀ : Heap) (L : Addr) (s : Shared) (x : Str) (ld : σ → Led) (ps : σ → List (Str × Value)) (stored : List Str) (m₀ : Loc) (P : σ → Nat → Prop) (μ : σ → Nat) (c : σ) (s₂ : Shared) : Prop :=
  ∃ (c' : σ) (h' : Heap) (tk : Nat) (m' : Loc) (news' : Led), s₂ = { s with heap := h', toks := tk } ∧ Fr h₀ L h' m' ∧ News h₀ L h' news' ∧ (∀ p ∈ ld c', p ∈ news') ∧ (∀ p ∈ ps c', m' p.1 = some p.2) ∧ (∀ z, z ≠ x → (∀ p ∈ ps c', z ≠ p.1) → stored.contains z = false → m' z = m₀ z) ∧ P c' tk ∧ μ c' < μ c
def LexEnd {σ : Type} (h₀ : Heap) (L : Addr) (s : Shared) (x : Str) (ld : σ → Led) (ps : σ → List (Str × Value)) (stored : List Str) (m₀ : Loc) (P : σ → Nat → Prop) (μ : σ → Nat) (Q : Flow → Shared → Prop) (c : σ) (f : Flow) (s₂ : Shared) : Prop :=
  match f with
  | .ret v => Q (.ret v) s₂
  | .brk => Q .next s₂
  | _ => LexNext h₀ L s x ld ps stored m₀ P μ c s₂
theorem nextX {σ : Type} {h₀ : Heap} {L : Addr} {s : Shared} {x : Str} {ld : σ → Led} {ps : σ → List (Str × Value)} {stored : List Str} {m₀ : Loc} {P : σ → Nat → Prop} {μ : σ → Nat} {c : σ} (c' : σ) {h' : Heap} {tk : Nat} {m' : Loc} {news' : Led} (F : Fr h₀ L h' m') (N : News h₀ L h' news')
    (hl : ∀ p ∈ ld c', p ∈ news') (hk : ∀ p ∈ ps c', m' p.1 = some p.2) (hr : ∀ z, z ≠ x → (∀ p ∈ ps c', z ≠ p.1) → stored.contains z = false → m' z = m₀ z) (hp : P c' tk) (hm : μ c' < μ c) :
    LexNext h₀ L s x ld ps stored m₀ P μ c { s with heap := h', toks := tk } := ⟨c', h', tk, m', news', rfl, F, N, hl, hk, hr, hp, hm⟩
theorem ownOff_cons {a : Addr × Obj} {own : Led} {adr : List Addr} (h : OwnOff (a :: own) adr) : OwnOff own adr := fun p hp b hb => h p (.tail _ hp) b hb
theorem for_lex {A : Around} {env : Env} (hA : A = ktrTop dp un gd cn cs L a ccd cl outer) (he : env = envX cn cs L a ccd cl) {σ : Type} {x : Str} {px : Pos} {body orelse : List Stmt} {m₀ : Loc} (X : LX) (hX : X.Ok) (it bm ts : Nat) (own : Led) (hown : OwnOff ((it, ciObj bm ts) :: (bm, methodObj (.ref 74) (.ref X.x)) :: own) X.adr) (hio : bm ≠ it ∧ ∀ p ∈ own, p.1 ≠ it) (ls : σ → LS)
    (ps : σ → List (Str × Value)) (stored : List Str) (P : σ → Nat → Prop) (c₀ : σ) (hf : ∃ og fd, (hd.heap_39 w.params).lookup 74 = some og ∧ og.data = .func fd)
    (hB : Below A₀ base outer h₀) (hK : (hd.heap_39 w.params).In h₀) (hC : CodeHd base 134 130) (hT : Top topProg loose mean mg mb h₀) (hk : cs.kind = .function) (hd : dp + 9 < recursionLimit) (hu : un + 100 < cLine)
    (hx : env.kindOf x = some .local)
    (F : Fr h₀ L s.heap m₀) (N : News h₀ L s.heap (X.at w.params it bm ts own (ls c₀))) (hk0 : ∀ p ∈ ps c₀, m₀ p.1 = some p.2) (hp : P c₀ s.toks)
    (hb : ∀ c tk, P c tk → (ls c).rem.length ≤ 1000 ∧ -1000 ≤ (ls c).ln ∧ (ls c).ln ≤ 1000)
    (turn : ∀ (c : σ) (ch t : Nat) (r : List (Nat × Nat)) (tl' : Nat) (u : Loc) h (tk tk' : Nat), (ls c).rem = (ch, t) :: r → P c tk → tk ≤ tk' → Fr h₀ L h (fun y => if y = x then some (.str (S [ch]) t) else kstB (fun z => if stored.contains z then u z else m₀ z) (ps c) y) →
      News h₀ L h (X.at w.params it bm ts own ⟨r, (ls c).n + 1, (ls c).ln + nl ch, tl'⟩) →
      wpAny (model PySem.Challenge.rw_wn0037_01.row.prog w) A (execs body env) (fun f s₃ => tk' ≤ s₃.toks → LexEnd h₀ L s x (fun c => X.at w.params it bm ts own (ls c)) ps stored m₀ P (fun c => (ls c).rem.length) Q c f s₃) E { s with heap := h, toks := tk' })
    (done : ∀ (c : σ) (u : Loc) h tk, (ls c).rem = [] → (∃ tk', tk' ≤ tk ∧ P c tk') → Fr h₀ L h (fun y => if y = x then u y else kstB (fun z => if stored.contains z then u z else m₀ z) (ps c) y) → News h₀ L h (X.done w.params it bm own (ls c)) →
      wpAny (model PySem.Challenge.rw_wn0037_01.row.prog w) A (execs orelse env) Q E { s with heap := h, toks := tk })
    {R : Result → Shared → Prop} (hR : ∀ f s', Q f s' → R (.ok f) s') (hEE : ∀ e s', E e s' → notedBy (model PySem.Challenge.rw_wn0037_01.row.prog w) A env (fun e s' => R (.error e) s') e s') :
    codeAny (model PySem.Challenge.rw_wn0037_01.row.prog w) A (.forLoop (.Name x px) (.ref it) body orelse env) R s := by
  subst hA he
  obtain ⟨og, fd, hog, hfd⟩ := hf
  refine for_rule (Q := Q) (E := E) (fun (c : σ) h tk => ∃ m, Fr h₀ L h m ∧ News h₀ L h (X.at w.params it bm ts own (ls c)) ∧ (∀ p ∈ ps c, m p.1 = some p.2) ∧ (∀ z, z ≠ x → (∀ p ∈ ps c, z ≠ p.1) → stored.contains z = false → m z = m₀ z) ∧ P c tk)
    (fun c => (ls c).rem.length) c₀ ⟨m₀, F, N, hk0, fun _ _ _ _ => rfl, hp⟩ ?_ hR hEE
  rintro c h tk ⟨m, F1, N1, h1, h2, hP⟩
  obtain ⟨hlen, hln1, hln2⟩ := hb c tk hP
  have hit := (N1 (it, ciObj bm ts) (List.mem_append_right _ (.head _))).1
  have hi0 : h₀.get? it = none := (N1 (it, ciObj bm ts) (List.mem_append_right _ (.head _))).2.2
  have hiL : L ≠ it := Ne.symm (N1 (it, ciObj bm ts) (List.mem_append_right _ (.head _))).2.1
  have hbm := (N1 (bm, methodObj (.ref 74) (.ref X.x)) (List.mem_append_right _ (.tail _ (.head _)))).1
  have hg : h.get? 74 = some og := F1.keep _ _ (hK _ _ hog)
  have hpl : ((envX cn cs L a ccd cl).scope.kind == .class || ((envX cn cs L a ccd cl).scope.kind == .module && (envX cn cs L a ccd cl).locals != (envX cn cs L a ccd cl).globals)) = false := by
    show (cs.kind == .class || (cs.kind == .module && L != mainGlobals)) = false
    rw [hk]; rfl
  have facts : ∀ (ld' : LS) h', Fr h₀ L h' m → News h₀ L h' (X.at w.params it bm ts own ld') → h'.get? it = some (ciObj bm ts) ∧ h'.get? bm = some (methodObj (.ref 74) (.ref X.x)) ∧ h'.get? 74 = some og := fun ld' h' F' N' =>
    ⟨(N' (it, ciObj bm ts) (List.mem_append_right _ (.head _))).1, (N' (bm, methodObj (.ref 74) (.ref X.x)) (List.mem_append_right _ (.tail _ (.head _)))).1, F'.keep _ _ (hK _ _ hog)⟩
  cases hrem : (ls c).rem with
  | nil =>
    refine next_call (s := { s with heap := h, toks := tk }) rfl hit hbm hg hfd ?_
    have sp := readchar_nil w X hX ((it, ciObj bm ts) :: (bm, methodObj (.ref 74) (.ref X.x)) :: own) hown (ls c).n (ls c).tl (ls c).ln
    refine sp loose mean mg mb dp (un + 1) gd cn cs a ccd cl outer A₀ base h₀ L m { s with heap := h, toks := tk } _ hB F1 hK hC ?_ hT hk hd (by (revert hu; kjx_bare; omega)) trivial ?_
    · have N1' := N1
      unfold LX.at at N1'
      rw [hrem] at N1'
      exact N1'
    · rintro v ld' h' tk' ⟨⟨t, rfl⟩, rfl⟩ hle F2 N2
      obtain ⟨f1, f2, f3⟩ := facts ⟨[], (ls c).n, (ls c).ln, (ls c).tl⟩ h' F2 N2
      refine ⟨S [], t, rfl, f1, f2, f3, fun h => absurd rfl h, fun _ h'' hx' hd' => ?_⟩
      refine done c m h'' tk' hrem ⟨tk, hle, hP⟩ (kst_frOut h1 h2 (fr_ext F2 hx' hiL hi0)) ?_
      intro p hp'
      unfold LX.done at hp'
      rw [hrem] at hp'
      rcases List.mem_append.mp hp' with hp' | hp'
      · have := N2 p (List.mem_append_left _ hp')
        refine ⟨hx' _ _ ?_ this.1, this.2⟩
        intro e
        have := hown (it, ciObj bm ts) (.head _) p.1 (by
          simp only [LX.led, List.mem_cons, List.not_mem_nil, or_false] at hp'
          simp only [LX.adr, List.mem_cons, List.not_mem_nil, or_false]
          rcases hp' with rfl | rfl | rfl | rfl | rfl | rfl | rfl | rfl | rfl <;> simp)
        exact this e.symm
      · rcases List.mem_cons.mp hp' with rfl | hp'
        · exact ⟨hd', Ne.symm hiL, hi0⟩
        · have hm : p ∈ X.led w.params (vals ([] : List (Nat × Nat))) (ls c).n (ls c).ln (ls c).tl ++ (it, ciObj bm ts) :: (bm, methodObj (.ref 74) (.ref X.x)) :: own := List.mem_append_right _ (.tail _ hp')
          have := N2 p hm
          refine ⟨hx' _ _ ?_ this.1, this.2⟩
          rcases List.mem_cons.mp hp' with rfl | hp'
          · exact hio.1
          · exact hio.2 p hp'
  | cons pr r =>
    obtain ⟨ch, t⟩ := pr
    refine next_call (s := { s with heap := h, toks := tk }) rfl hit hbm hg hfd ?_
    have hr : r.length + 1 ≤ 1000 := by rw [hrem] at hlen; simpa using hlen
    have sp := readchar_cons w X hX ((it, ciObj bm ts) :: (bm, methodObj (.ref 74) (.ref X.x)) :: own) hown ch t (vals r) (ls c).n (ls c).tl (ls c).ln (by simp only [vals, List.length_map, sizeLine_eq]; (revert hr; kjx_bare; omega)) ⟨hln1, hln2⟩
    refine sp loose mean mg mb dp (un + 1) gd cn cs a ccd cl outer A₀ base h₀ L m { s with heap := h, toks := tk } _ hB F1 hK hC ?_ hT hk hd (by (revert hu; kjx_bare; omega)) trivial ?_
    · have N1' := N1
      unfold LX.at at N1'
      rw [hrem] at N1'
      exact N1'
    · rintro v ld' h' tk' ⟨rfl, tl', rfl⟩ hle F2 N2
      obtain ⟨f1, f2, f3⟩ := facts ⟨r, (ls c).n + 1, (ls c).ln + nl ch, tl'⟩ h' F2 N2
      refine ⟨S [ch], t, rfl, f1, f2, f3, fun _ => ?_, fun e => absurd (S_inj e) (by simp)⟩
      refine wpAny_storeName_local hx F2.ns (fun h3 hn3 hs3 => ?_) hpl
      have F3 : Fr h₀ L h3 _ := F2.set hn3 hs3
      have N3 := N2.set hs3
      refine wpAny_mono (wpAny_toks_of (n := tk' + 1) (Nat.le_refl _) (turn c ch t r tl' m h3 tk (tk' + 1) hrem hP (Nat.le_succ_of_le hle) (kst_fr h1 h2 F3) N3)) (fun f s₃ q => ?_) fun _ _ x => x.2
      obtain ⟨hle3, q⟩ := q
      replace q := q hle3
      cases f with
      | ret v => exact q
      | brk => exact q
      | next => obtain ⟨c', h9, tk9, m9, news9, rfl, F9, N9, hn, hk9, hr9, hp9, hm9⟩ := q; exact ⟨c', h9, tk9, rfl, hm9, m9, F9, fun p hp' => N9 p (hn p hp'), hk9, hr9, hp9⟩
      | cont => obtain ⟨c', h9, tk9, m9, news9, rfl, F9, N9, hn, hk9, hr9, hp9, hm9⟩ := q; exact ⟨c', h9, tk9, rfl, hm9, m9, F9, fun p hp' => N9 p (hn p hp'), hk9, hr9, hp9⟩
end
end Mine
end
section
open PySem PySem.W PyProof.Rows PyProof
open PySem.Builtin
set_option maxRecDepth 100000
set_option maxHeartbeats 8000000
namespace Mine
theorem fn74 (w : World) : ∃ og fd, (hd.heap_39 w.params).lookup 74 = some og ∧ og.data = .func fd := ⟨_, _, by with_unfolding_all rfl, by with_unfolding_all rfl⟩
theorem lookup_meth_call : typeLookup (.type "method") "__call__" = pure (some (.builtin "method.__call__")) := by rw [typeLookup_type, builtinLookup_eq_fast]; kernel_rfl
theorem args_iter2 (a b : Value) : argsOk "iter" ⟨[a, b], []⟩ := by unfold argsOk; kernel_rfl
def isWs (c : Nat) : Bool := c == 10 || c == 9 || c == 13 || c == 32
theorem S_ws : Str.ofString "\n\t\x0d " = S [10, 9, 13, 32] := by decide +kernel
theorem in_ws {prog : Program} {w : World} {A : Around} {E : Value → Shared → Prop} {s : Shared} {ch : Nat} {t u : Tok} {b : Bool} {Q : Value → Shared → Prop} (hb : isWs ch = b) (h : Q (.bool b) s) :
    wpAny (model prog w) A (compareOp .In (.str (S [ch]) t) (.str (Str.ofString "\n\t\x0d ") u)) Q E s := by
  refine in_str ?_
  have e : (!(Builtin.Str.occurrences (Str.ofString "\n\t\x0d ") (S [ch]) 0 (Str.ofString "\n\t\x0d ").length 1).isEmpty) = b := by
    rw [S_ws, ← hb]
    have h1 := StrLaws.found_one (S [10, 9, 13, 32]) ch
    rw [show (⟨#[ch]⟩ : Str) = S [ch] from rfl] at h1
    rw [h1, S_cps]
    simp only [isWs, List.mem_cons, List.not_mem_nil, or_false, Bool.decide_or, Bool.or_assoc]
    rfl
  rw [e]; exact h
def AllBelow (a : Nat) (l : Led) : Prop := ∀ p ∈ l, p.1 < a
theorem AllBelow.out {a : Nat} {l : Led} (h : AllBelow a l) : ∀ p ∈ l, p.1 < a := h
theorem iter2 {prog : Program} {w : World} {A : Around} {E : Value → Shared → Prop} {s : Shared} {h₀ : Heap} {L : Addr} {m : Loc} {news : Led} {bm ts : Nat} {f self : Value} {Q : Value → Shared → Prop} (F : Fr h₀ L s.heap m) (N : News h₀ L s.heap news) (hb : (bm, methodObj f self) ∈ news)
    (h : ∀ (it : Nat) h', Fr h₀ L h' m → News h₀ L h' ((it, ciObj bm ts) :: news) → AllBelow it news → Q (.ref it) { s with heap := h' }) :
    wpAny (model prog w) A (call (.builtin "iter") [.ref bm, .str (S []) ts]) Q E s := by
  refine Calls.call_function_entry (by decide +kernel) (by decide +kernel) kdk_entry_iter (args_iter2 _ _) ?_
  unfold Builtin.«iter»
  refine wpAny_bind (m := someArgs "iter" 1 2 _) (wpAny_of_eq (a := [Value.ref bm, .str (S []) ts]) (by first | rfl | kernel_rfl!) ?_)
  show wpAny _ _ (specialOf (.ref bm) "__call__" >>= _) _ _ _
  refine wpAny_bind (wpAny_specialOf ⟨_, (N _ hb).1, rfl⟩ lookup_meth_call ?_)
  simp only [Option.isNone_some, Bool.false_eq_true, if_false]
  refine wpAny_bind (wpAny_rule (wpAny_bind ?_))
  exact wpAny_newObj_type (wpAny_pure ⟨_, rfl, h _ _ (F.push _) (News.push F N _ rfl) (fun q hq => Heap.lt_size (N q hq).1)⟩) (by size_fits)
theorem fr_keeps {h₀ h h' : Heap} {L : Addr} {m : Loc} (F : Fr h₀ L h m) (hk : ∀ b o, h.get? b = some o → h'.get? b = some o) : Fr h₀ L h' m :=
  ⟨F.ns.at' (fun o e => hk _ _ e), fun b o e => hk b o (F.keep b o e), F.above⟩
theorem news_keeps {h₀ h h' : Heap} {L : Addr} {ld : Led} (N : News h₀ L h ld) (hk : ∀ b o, h.get? b = some o → h'.get? b = some o) : News h₀ L h' ld :=
  fun p hp => ⟨hk _ _ (N p hp).1, (N p hp).2⟩
section
variable {w : World} {E : Value → Shared → Prop} {Q : Flow → Shared → Prop} {s : Shared} {h₀ base : Heap} {L : Nat} {A₀ : Around} {dp un : Nat} {gd : Option (List Code)} {cn : Str} {cs : Scope} {a : Nat} {ccd : Value} {cl : List (Str × Addr)} {outer : List Env}
  {loose : List Str} {mean : ExcName → Option Value} {mg mb : Loc}
def OnceEnd (w : World) (A : Around) (env : Env) (h₀ : Heap) (L : Addr) (s : Shared) (it : Nat) (orelse : List Stmt) (E : Value → Shared → Prop) (Q : Flow → Shared → Prop) (f : Flow) (s₃ : Shared) : Prop :=
  match f with
  | .ret v => Q (.ret v) s₃
  | .brk => Q .next s₃
  | _ => ∃ m' h' tk ld, s₃ = { s with heap := h', toks := tk } ∧ Fr h₀ L h' m' ∧ News h₀ L h' ld ∧ (it, ciDone) ∈ ld ∧
    (∀ h'', Fr h₀ L h'' m' → News h₀ L h'' ld → wpAny (model PySem.Challenge.rw_wn0037_01.row.prog w) A (execs orelse env) Q E { s with heap := h'', toks := tk })
/-! what the lexer reads in marks: its word, and what is left -/
def qr : List (Nat × Nat) → List Nat × List (Nat × Nat)
  | [] => ([], [])
  | [c] => if c.1 = 34 ∨ c.1 = 92 then ([], []) else ([c.1], [])
  | c :: d :: r => if c.1 = 34 then ([], d :: r) else if c.1 = 92 then (d.1 :: (qr r).1, (qr r).2) else (c.1 :: (qr (d :: r)).1, (qr (d :: r)).2)
theorem qr_34 (t : Nat) (r : List (Nat × Nat)) : qr ((34, t) :: r) = ([], r) := by cases r <;> simp [qr]
theorem qr_92 (t : Nat) (d : Nat × Nat) (r : List (Nat × Nat)) : qr ((92, t) :: d :: r) = (d.1 :: (qr r).1, (qr r).2) := by simp [qr]
theorem qr_921 (t : Nat) : qr [(92, t)] = ([], []) := by simp [qr]
theorem qr_else {c : Nat} (t : Nat) (r : List (Nat × Nat)) (h1 : c ≠ 34) (h2 : c ≠ 92) : qr ((c, t) :: r) = (c :: (qr r).1, (qr r).2) := by cases r <;> simp [qr, h1, h2]
def cnl (l : List (Nat × Nat)) : Int := (l.map fun p => nl p.1).sum
theorem cnl_cons (c t : Nat) (r : List (Nat × Nat)) : cnl ((c, t) :: r) = nl c + cnl r := by simp [cnl]
theorem cnl_nil : cnl [] = 0 := rfl
theorem nl_le (c : Nat) : 0 ≤ nl c ∧ nl c ≤ 1 := by unfold nl; split <;> (kjx_bare; omega)
theorem cnl_le : ∀ l : List (Nat × Nat), 0 ≤ cnl l ∧ cnl l ≤ l.length
  | [] => by simp [cnl]
  | (c, t) :: r => by
    have h1 := cnl_le r
    have h2 := nl_le c
    rw [cnl_cons, List.length_cons]; (revert h1 h2; kjx_bare; omega)
/-- a for over the lexer's iterator whose first turn is its last -/
theorem for_once {A : Around} {env : Env} (hA : A = ktrTop dp un gd cn cs L a ccd cl outer) (he : env = envX cn cs L a ccd cl) {x : Str} {px : Pos} {body orelse : List Stmt} {m₀ : Loc} (X : LX) (hX : X.Ok) (it bm ts : Nat) (own : Led) (hown : OwnOff ((it, ciObj bm ts) :: (bm, methodObj (.ref 74) (.ref X.x)) :: own) X.adr) (ch t : Nat) (r : List (Nat × Nat)) (n tl : Nat) (ln : Int)
    (hf : ∃ og fd, (hd.heap_39 w.params).lookup 74 = some og ∧ og.data = .func fd)
    (hB : Below A₀ base outer h₀) (hK : (hd.heap_39 w.params).In h₀) (hC : CodeHd base 134 130) (hT : Top topProg loose mean mg mb h₀) (hk : cs.kind = .function) (hd : dp + 9 < recursionLimit) (hu : un + 100 < cLine)
    (hx : env.kindOf x = some .local) (hlen : r.length ≤ 999) (hln : -1000 ≤ ln ∧ ln ≤ 1000)
    (F : Fr h₀ L s.heap m₀) (N : News h₀ L s.heap (X.at w.params it bm ts own ⟨(ch, t) :: r, n, ln, tl⟩))
    (turn : ∀ (tl' : Nat) h (tk' : Nat), s.toks ≤ tk' → Fr h₀ L h (fun y => if y = x then some (.str (S [ch]) t) else m₀ y) → News h₀ L h (X.at w.params it bm ts own ⟨r, n + 1, ln + nl ch, tl'⟩) →
      wpAny (model PySem.Challenge.rw_wn0037_01.row.prog w) A (execs body env) (fun f s₃ => tk' ≤ s₃.toks → OnceEnd w A env h₀ L s it orelse E Q f s₃) E { s with heap := h, toks := tk' })
    {R : Result → Shared → Prop} (hR : ∀ f s', Q f s' → R (.ok f) s') (hEE : ∀ e s', E e s' → notedBy (model PySem.Challenge.rw_wn0037_01.row.prog w) A env (fun e s' => R (.error e) s') e s') :
    codeAny (model PySem.Challenge.rw_wn0037_01.row.prog w) A (.forLoop (.Name x px) (.ref it) body orelse env) R s := by
  subst hA he
  obtain ⟨og, fd, hog, hfd⟩ := hf
  refine for_rule (σ := Bool) (Q := Q) (E := E) (fun (c : Bool) h tk => match c with
      | true => h = s.heap ∧ tk = s.toks
      | false => ∃ m' ld, Fr h₀ L h m' ∧ News h₀ L h ld ∧ (it, ciDone) ∈ ld ∧ (∀ h'', Fr h₀ L h'' m' → News h₀ L h'' ld → wpAny (model PySem.Challenge.rw_wn0037_01.row.prog w) (ktrTop dp un gd cn cs L a ccd cl outer) (execs orelse (envX cn cs L a ccd cl)) Q E { s with heap := h'', toks := tk }))
    (fun c => if c = true then 1 else 0) true ⟨rfl, rfl⟩ ?_ hR hEE
  intro c h tk hI
  cases c with
  | false =>
    obtain ⟨m', ld, F1, N1, hit, ho⟩ := hI
    refine next_ended (s := { s with heap := h, toks := tk }) rfl (N1 _ hit).1 fun h' hk' => ?_
    exact ho h' (fr_keeps F1 hk') (news_keeps N1 hk')
  | true =>
    obtain ⟨rfl, rfl⟩ := hI
    have hit := (N (it, ciObj bm ts) (List.mem_append_right _ (.head _))).1
    have hbm := (N (bm, methodObj (.ref 74) (.ref X.x)) (List.mem_append_right _ (.tail _ (.head _)))).1
    have hg : s.heap.get? 74 = some og := F.keep _ _ (hK _ _ hog)
    have hpl : ((envX cn cs L a ccd cl).scope.kind == .class || ((envX cn cs L a ccd cl).scope.kind == .module && (envX cn cs L a ccd cl).locals != (envX cn cs L a ccd cl).globals)) = false := by
      show (cs.kind == .class || (cs.kind == .module && L != mainGlobals)) = false
      rw [hk]; rfl
    refine next_call (s := { s with heap := s.heap, toks := s.toks }) rfl hit hbm hg hfd ?_
    have sp := readchar_cons w X hX ((it, ciObj bm ts) :: (bm, methodObj (.ref 74) (.ref X.x)) :: own) hown ch t (vals r) n tl ln (by simp only [vals, List.length_map, sizeLine_eq]; (revert hlen; kjx_bare; omega)) hln
    refine sp loose mean mg mb dp (un + 1) gd cn cs a ccd cl outer A₀ base h₀ L m₀ { s with heap := s.heap, toks := s.toks } _ hB F hK hC N hT hk hd (by (revert hu; kjx_bare; omega)) trivial ?_
    rintro v ld' h' tk' ⟨rfl, tl', rfl⟩ hle F2 N2
    have f1 := (N2 (it, ciObj bm ts) (List.mem_append_right _ (.head _))).1
    have f2 := (N2 (bm, methodObj (.ref 74) (.ref X.x)) (List.mem_append_right _ (.tail _ (.head _)))).1
    have f3 : h'.get? 74 = some og := F2.keep _ _ (hK _ _ hog)
    refine ⟨S [ch], t, rfl, f1, f2, f3, fun _ => ?_, fun e => absurd (S_inj e) (by simp)⟩
    refine wpAny_storeName_local hx F2.ns (fun h3 hn3 hs3 => ?_) hpl
    have F3 : Fr h₀ L h3 _ := F2.set hn3 hs3
    have N3 := N2.set hs3
    refine wpAny_mono (wpAny_toks_of (n := tk' + 1) (Nat.le_refl _) (turn tl' h3 (tk' + 1) (Nat.le_succ_of_le hle) F3 N3)) (fun f s₃ q => ?_) fun _ _ x => x.2
    obtain ⟨hle3, q⟩ := q
    replace q := q hle3
    cases f with
    | ret v => exact q
    | brk => exact q
    | next => obtain ⟨m', h9, tk9, ld9, rfl, F9, N9, hn, ho⟩ := q; exact ⟨false, h9, tk9, rfl, by decide, m', ld9, F9, N9, hn, ho⟩
    | cont => obtain ⟨m', h9, tk9, ld9, rfl, F9, N9, hn, ho⟩ := q; exact ⟨false, h9, tk9, rfl, by decide, m', ld9, F9, N9, hn, ho⟩
end
end Mine
end
section
open PySem PySem.W PyProof.Rows PyProof
set_option maxRecDepth 100000
set_option maxHeartbeats 16000000
set_option pp.maxSteps 8000
set_option pp.deepTerms false
namespace Mine
theorem off_all {X : LX} {it q : Nat} {o1 o2 : Obj} {own : Led} (hown : OwnOff own X.adr) (h1 : X.l < q ∧ X.dx < q ∧ X.x < q ∧ X.pb < q ∧ X.st < q ∧ X.dst < q ∧ X.f < q ∧ X.c < q ∧ X.cell < q)
    (h2 : q < it) : OwnOff ((it, o1) :: (q, o2) :: own) X.adr := by
  intro p hp b hb
  have hb' := hb
  simp only [LX.adr, List.mem_cons, List.not_mem_nil, or_false] at hb
  rcases List.mem_cons.mp hp with rfl | hp
  · show it ≠ b
    rcases hb with rfl | rfl | rfl | rfl | rfl | rfl | rfl | rfl | rfl <;> (revert h1 h2; kjx_bare; omega)
  · rcases List.mem_cons.mp hp with rfl | hp
    · show q ≠ b
      rcases hb with rfl | rfl | rfl | rfl | rfl | rfl | rfl | rfl | rfl <;> (revert h1; kjx_bare; omega)
    · exact hown p hp b hb'
theorem allLt_mem {a : Nat} : ∀ {l : Led}, AllLt a l → ∀ p ∈ l, p.1 < a
  | [], _, _, h => nomatch h
  | _ :: _, h, p, hp => by
    rcases List.mem_cons.mp hp with rfl | hp
    · exact h.1
    · exact allLt_mem h.2 p hp
theorem news_drop2 {h₀ h : Heap} {L : Addr} {ld own : Led} {o1 o2 : Addr × Obj} (N : News h₀ L h (ld ++ o1 :: o2 :: own)) : News h₀ L h (ld ++ own) := fun p hp => N p ((List.mem_append.mp hp).elim (fun h => List.mem_append_left _ h) (fun h => List.mem_append_right _ (.tail _ (.tail _ h))))
theorem S_34 : Str.ofString "\"" = S [34] := by decide +kernel
theorem S_92 : Str.ofString "\\" = S [92] := by decide +kernel
theorem c34 {ch : Nat} (h : (S [ch] == Str.ofString "\"") = true) : ch = 34 := by rw [S_34] at h; simpa using S_inj (beq_iff_eq.mp h)
theorem c92 {ch : Nat} (h : (S [ch] == Str.ofString "\\") = true) : ch = 92 := by rw [S_92] at h; simpa using S_inj (beq_iff_eq.mp h)
theorem n34 {ch : Nat} (h : (S [ch] == Str.ofString "\"") = false) : ch ≠ 34 := by rintro rfl; rw [S_34] at h; simp at h
theorem n92 {ch : Nat} (h : (S [ch] == Str.ofString "\\") = false) : ch ≠ 92 := by rintro rfl; rw [S_92] at h; simp at h
theorem iadd_S {prog : Program} {w : World} {A : Around} {E : Value → Shared → Prop} {s : Shared} {d e : List Nat} {t u : Tok} {Q : Value → Shared → Prop} (hs : d.length + e.length ≤ sizeLine) (h : ∀ t' k, Q (.str (S (d ++ e)) t') { s with toks := k }) :
    wpAny (model prog w) A (inplaceOp .Add (.str (S d) t) (.str (S e) u)) Q E s :=
  SBL.iadd (fun t' k _ => by rw [S_app]; exact h t' k) (by rw [S_len, S_len]; exact hs)
theorem onceRet {w : World} {A : Around} {env : Env} {h₀ : Heap} {L : Addr} {s s₃ : Shared} {it : Nat} {orelse : List Stmt} {E : Value → Shared → Prop} {Q : Flow → Shared → Prop} {v : Value} (h : Q (.ret v) s₃) : OnceEnd w A env h₀ L s it orelse E Q (.ret v) s₃ := h
section
local macro_rules | `(tactic| walk_at "inplaceOp Add str str") => `(tactic| ((refine iadd_S (hs := ?hs) ?_); (case hs => (simp only [List.length_cons, List.length_nil, sizeLine_eq] at *; omega)); intro _ _))
local macro_rules | `(tactic| walk_at "exec For Name Name cons nil") => `(tactic| refine halt ?_)
local macro_rules | `(tactic| walk_at "call builtin:iter") => `(tactic| (k_here; (with_reducible show wpAny _ _ (call (Value.builtin "iter") [Value.ref _, Value.str _ _]) _ _ _); refine halt ?_))
local macro_rules | `(tactic| walk_at "LexEnd") => `(tactic| (dsimp only [LexEnd]))
local macro_rules | `(tactic| walk_at "OnceEnd") => `(tactic| (first | (with_reducible refine onceRet ?_) | refine halt ?_))
local macro_rules | `(tactic| walk_at "call ref") => `(tactic| refine halt ?_)
local macro_rules | `(tactic| walk_at "compareOp In str str") => `(tactic| ((refine in_ws (b := ?b) ?hb ?_); (case hb => first | assumption | rfl)))
theorem get_token_q (w : World) (X : LX) (hX : X.Ok) (own : Led) (hown : OwnOff own X.adr) (t0 : Nat) (rem : List (Nat × Nat)) (n tl : Nat) (ln : Int) (hlen : rem.length ≤ 800) (hln : 0 ≤ ln ∧ ln + rem.length ≤ 800) :
   CodeSpec w 81 [.ref X.x] 20 200 (X.led w.params (vals ((34, t0) :: rem)) n ln tl ++ own) (fun _ => True)
     (fun v ld' => ∃ t n' tl', v = .str (S (qr rem).1) t ∧ ld' = X.led w.params (vals (qr rem).2) n' (ln + cnl rem - cnl (qr rem).2) tl' ++ own) := by
  unfold CodeSpec
  k_fill
  intro loose mean mg mb dp un gd cn cs a ccd cl outer A₀ base h₀ L m s R hB hF hKX hC hN hT hk hd hu _ hret
  replace hret : ∀ t n' tl' h' tk', s.toks ≤ tk' → Fr h₀ L h' m → News h₀ L h' (X.led w.params (vals (qr rem).2) n' (ln + cnl rem - cnl (qr rem).2) tl' ++ own) → R (.ok (.ret (.str (S (qr rem).1) t))) { s with heap := h', toks := tk' } :=
    fun t n' tl' h' tk' a b c => hret _ _ h' tk' ⟨t, n', tl', rfl, rfl⟩ a b c
  replace hret : ∀ d rem2 ln2 t n' tl' h' tk', (qr rem).1 = d → (qr rem).2 = rem2 → ln2 = ln + cnl rem - cnl rem2 → s.toks ≤ tk' → Fr h₀ L h' m → News h₀ L h' (X.led w.params (vals rem2) n' ln2 tl' ++ own) → R (.ok (.ret (.str (S d) t))) { s with heap := h', toks := tk' } := by
    rintro d rem2 ln2 t n' tl' h' tk' rfl rfl rfl a b c; exact hret t n' tl' h' tk' a b c
  have hX' := hX
  obtain ⟨hord, hoc, hvs1, hcell⟩ := hX'
  obtain ⟨o1, o2, o3, o4, o5, o6, o7, o8, o9, o10⟩ := hord
  dsimp only [LX.led, LX.dict, List.cons_append, List.nil_append] at hN
  have hown0 := hown
  dsimp only [LX.adr] at hown
  refine codeAny_toks (Nat.le_refl s.toks) ?_
  k_dflt cell_enter
  (with_reducible rename Fr _ _ _ _ => F0); refine fr_let F0 ?_; clear F0; intro mk0 F0
  k_steps
  rename_i q hq Fq Nq lq
  k_dflt (refine' iter2 ?F ?N ?b ?_; (case F => k_asm); (case N => k_asm); (case b => k_mem); k_whole)
  intro it hi Fi Ni hlt
  have lit := AllBelow.out hlt
  k_lt lit
  generalize hts : _ + 1 + 1 + 1 = ts at Ni
  clear Nq Fq hN
  k_steps
  rename News _ _ _ _ => N
  rename Fr _ _ _ _ => F
  rename Below _ _ _ _ => B
  rename Frag.In _ _ => KX
  rename Top _ _ _ _ _ _ => TX
  have hown2 : OwnOff ((it, ciObj q ts) :: (q, methodObj (.ref 74) (.ref X.x)) :: own) X.adr := off_all hown0 ⟨lq.1, lq.2.1, lq.2.2.1, lq.2.2.2.1, lq.2.2.2.2.1, lq.2.2.2.2.2.1, lq.2.2.2.2.2.2.1, lq.2.2.2.2.2.2.2.1, lq.2.2.2.2.2.2.2.2.1⟩ lit.1
  have hoit : q ≠ it ∧ ∀ p ∈ own, p.1 ≠ it := ⟨Nat.ne_of_lt lit.1, fun p hp => Nat.ne_of_lt (allLt_mem lit.2.2.2.2.2.2.2.2.2.2 p hp)⟩
  have N2 : News _ _ _ (LX.at w.params X it q ts own ⟨(34, t0) :: rem, n, ln, tl⟩) := news_sub N (by unfold LX.at LX.led LX.dict; dsimp only [List.cons_append, List.nil_append]; kst_in)
  clear N
  simp only [S_nil] at F
  refine wpAny_For ?_
  walk1
  refine iter_ci (N2 (it, ciObj q ts) (List.mem_append_right _ (.head _))).1 rfl ?_
  with_unfolding_all refine' for_once (A := ?A1) (env := ?env1) ?hA ?he X hX it q ts own hown2 34 t0 rem n tl ln (fn74 w) B KX hC TX ?hk ?hd ?hu ?hx ?hlen ?hln F N2 ?turn ?hR ?hEE
  case hA => exact rfl
  case he => exact rfl
  case hk => exact rfl
  case hd => exact room_le 10 hd (by decide)
  case hu => exact room_le 103 hu (by decide)
  case hx => exact rfl
  case hlen => exact Nat.le_trans hlen (by decide)
  case hln => (revert hlen hln; kjx_bare; omega)
  case hR => exact fun _ _ h => h
  case hEE => passes_own
  case turn =>
    intro tl1 h1 tk1 hle1 F1 N1
    have N1' := N1
    unfold LX.at LX.led LX.dict at N1'
    dsimp only [List.cons_append, List.nil_append] at N1'
    clear F N2
    show wpAny _ _ _ _ _ _
    k_fold
    k_steps
    rename Fr _ _ _ _ => F3
    have N3 : News _ _ _ (LX.at w.params X it q ts own ⟨rem, n + 1, ln + nl 34, tl1⟩) := N1
    clear N1'
    refine wpAny_For ?_
    walk1
    refine iter_ci (N3 (it, ciObj q ts) (List.mem_append_right _ (.head _))).1 rfl ?_
    with_unfolding_all refine' for_lex (σ := LS × List Nat × Nat) (A := ?A1) (env := ?env1) ?hA ?he X hX it q ts own hown2 hoit (fun c => c.1) (fun c => [(Str.ofString "token", .str (S c.2.1) c.2.2)]) [] (fun c _ => (qr rem).1 = c.2.1 ++ (qr c.1.rem).1 ∧ (qr rem).2 = (qr c.1.rem).2 ∧ c.1.ln + cnl c.1.rem = ln + cnl rem ∧ c.1.rem.length ≤ rem.length ∧ c.2.1.length ≤ 800 - c.1.rem.length) (⟨rem, n + 1, ln + nl 34, tl1⟩, [], _) (fn74 w) B KX hC TX ?hk ?hd ?hu ?hx F3 N3 ?hk0 ?hp ?hb ?turn ?done ?hR ?hEE
    case hA => exact rfl
    case he => exact rfl
    case hk => exact rfl
    case hd => exact room_le 10 hd (by decide)
    case hu => exact room_le 103 hu (by decide)
    case hx => exact rfl
    case hk0 => kst_all
    case hp => exact ⟨rfl, rfl, by show ln + 0 + cnl rem = _; (kjx_bare; omega), Nat.le_refl _, by simp⟩
    case hb =>
      rintro ⟨⟨r9, n9, ln9, tl9⟩, d9, td9⟩ tk ⟨_, _, e3, e4, e5⟩
      dsimp only at e3 e4 e5 ⊢
      have c1 := cnl_le r9
      have c2 := cnl_le rem
      (revert hlen hln e3 e4 c1 c2; kjx_bare; omega)
    case hR => exact fun _ _ h => h
    case hEE => passes_own
    case done =>
      rintro ⟨⟨r9, n9, ln9, tl9⟩, d, td⟩ u h tk hrem ⟨_, _, e1, e2, e3, e4, e5⟩ F N
      dsimp only at hrem e1 e2 e3 e4 e5 N
      subst hrem
      dsimp only [kstB] at F
      have N' := N
      unfold LX.done LX.led LX.dict at N'
      dsimp only [List.cons_append, List.nil_append] at N'
      clear F3 N3 N1
      show wpAny _ _ _ _ _ _
      k_fold
      k_steps
      dsimp only [Halt, OnceEnd]
      refine ⟨_, _, _, _, rfl, F, N, List.mem_append_right _ (.head _), fun h8 F8 N8 => ?_⟩
      clear F N N'
      have N9 := N8
      unfold LX.done LX.led LX.dict at N9
      dsimp only [List.cons_append, List.nil_append] at N9
      show wpAny _ _ _ _ _ _
      k_fold
      k_steps
      rename News _ _ _ _ => kN
      exact hret _ _ _ _ _ _ _ _ (e1.trans (List.append_nil _)) (show (qr rem).2 = [] from e2) (by rw [cnl_nil] at e3; rw [cnl_nil]; (revert e3; kjx_bare; omega)) (by assumption) (by assumption) (news_drop2 (ld := X.led _ _ _ _ _) kN)
    case turn =>
      rintro ⟨⟨r9, n9, ln9, tl9⟩, d, td⟩ ch t r tl' u h tk tk' hrem ⟨e1, e2, e3, e4, e5⟩ hle F N
      dsimp only at hrem e1 e2 e3 e4 e5 N
      subst hrem
      dsimp only [kstB] at F
      have N' := N
      unfold LX.at LX.led LX.dict at N'
      dsimp only [List.cons_append, List.nil_append] at N'
      clear F3 N3 N1
      have e6 := List.length_cons (a := (ch, t)) (as := r)
      show wpAny _ _ _ _ _ _
      k_fold
      k_steps
      · have hc := c34 (ch := ch) (by assumption)
        subst hc
        rw [qr_34] at e1 e2
        rename News _ _ _ _ => kN
        exact hret _ _ _ _ _ _ _ _ (e1.trans (List.append_nil _)) (show (qr rem).2 = r from e2) (by rw [cnl_cons] at e3; (revert e3; kjx_bare; omega)) (by assumption) (by assumption) (news_drop2 (ld := X.led _ _ _ _ _) kN)
      · have hc := c92 (ch := ch) (by assumption)
        subst hc
        cases r with
        | nil =>
          rw [qr_921] at e1 e2
          dsimp only [Halt]
          refine wpAny_call ?_
          with_unfolding_all refine' readchar_nil w X hX ((it, ciObj q ts) :: (q, methodObj (.ref 74) (.ref X.x)) :: own) hown2 _ _ _ loose mean mg mb _ _ _ _ _ _ _ _ _ _ _ _ _ _ _ _ B ?F KX hC ?N TX ?hk ?hd ?hu trivial ?_
          case F => assumption
          case N => exact N
          case hk => exact rfl
          case hd => exact room_le 10 hd (by decide)
          case hu => exact room_le 102 hu (by decide)
          rintro v ld' h2 tk2 ⟨⟨t3, rfl⟩, rfl⟩ hle2 F2 N2
          have N4 := N2
          unfold LX.led LX.dict at N4
          dsimp only [List.cons_append, List.nil_append] at N4
          have F5 := F2
          clear N F F2
          show wpAny _ _ _ _ _ _
          k_fold
          k_steps
          exact nextX (⟨[], n9 + 1, ln9 + nl 92, tl'⟩, d ++ [], _) (by assumption) (by assumption) (by unfold LX.at LX.led LX.dict; dsimp only [List.cons_append, List.nil_append]; kst_in) (by kst_all) (by kst_same) ⟨by rw [e1]; simp [qr], by rw [e2]; rfl, by rw [cnl_cons] at e3; dsimp only; (revert e3; kjx_bare; omega), Nat.zero_le _, by dsimp only; simp at e5 e4 ⊢; (revert e5; kjx_bare; omega)⟩ (by simp)
        | cons p r => 
          obtain ⟨c2, t2⟩ := p
          rw [qr_92] at e1 e2
          dsimp only [Halt]
          refine wpAny_call ?_
          with_unfolding_all refine' readchar_cons w X hX ((it, ciObj q ts) :: (q, methodObj (.ref 74) (.ref X.x)) :: own) hown2 c2 t2 (vals r) _ _ _ ?hv ?hl loose mean mg mb _ _ _ _ _ _ _ _ _ _ _ _ _ _ _ _ B ?F KX hC ?N TX ?hk ?hd ?hu trivial ?_
          case F => assumption
          case N => exact N
          case hv => simp only [vals, List.length_map, sizeLine_eq]; simp at e4; (revert hlen e4; kjx_bare; omega)
          case hl => 
            have c1 := cnl_le rem
            have c8 := cnl_le ((92, t) :: (c2, t2) :: r)
            have c3 := cnl_le ((c2, t2) :: r)
            rw [cnl_cons] at e3 c8
            simp only [List.length_cons] at *
            (revert hln e3 e4 c1 c3; kjx_bare; omega)
          case hk => exact rfl
          case hd => exact room_le 10 hd (by decide)
          case hu => exact room_le 102 hu (by decide)
          rintro v ld' h2 tk2 ⟨rfl, tl2, rfl⟩ hle2 F2 N2
          have N4 := N2
          unfold LX.led LX.dict at N4
          dsimp only [List.cons_append, List.nil_append] at N4
          have F5 := F2
          clear N F F2
          show wpAny _ _ _ _ _ _
          k_fold
          k_steps
          exact nextX (⟨r, n9 + 1 + 1, ln9 + nl 92 + nl c2, tl2⟩, d ++ [c2], _) (by assumption) (by assumption) (by unfold LX.at LX.led LX.dict; dsimp only [List.cons_append, List.nil_append]; kst_in) (by kst_all) (by kst_same) ⟨by rw [e1]; simp, e2, by rw [cnl_cons, cnl_cons] at e3; dsimp only; (revert e3; kjx_bare; omega), by dsimp only; simp at e4; (revert e4; kjx_bare; omega), by dsimp only; simp at e5 e4 ⊢; (revert hlen e4 e5; kjx_bare; omega)⟩ (by show r.length < r.length + 1 + 1; (kjx_bare; omega))
      · have h1 := n34 (ch := ch) (by assumption)
        have h2 := n92 (ch := ch) (by assumption)
        rw [qr_else _ _ h1 h2] at e1 e2
        exact nextX (⟨r, n9 + 1, ln9 + nl ch, tl'⟩, d ++ [ch], _) (by assumption) (by assumption) (by unfold LX.at LX.led LX.dict; dsimp only [List.cons_append, List.nil_append]; kst_in) (by kst_all) (by kst_same) ⟨by rw [e1]; simp, e2, by rw [cnl_cons] at e3; dsimp only; (revert e3; kjx_bare; omega), by dsimp only; simp at e4; (revert e4 e6; kjx_bare; omega), by dsimp only; simp at e5 e4 ⊢; (revert hlen e4 e6 e5; kjx_bare; omega)⟩ (by simp)
end
end Mine
end
section
open PySem PySem.W PyProof.Rows PyProof
set_option maxRecDepth 100000
set_option maxHeartbeats 16000000
set_option pp.maxSteps 8000
set_option pp.deepTerms false
namespace Mine
section
local macro_rules | `(tactic| walk_at "none 0") => `(tactic| skip)
local macro_rules | `(tactic| walk_at "inplaceOp Add str str") => `(tactic| ((refine iadd_S (hs := ?hs) ?_); (case hs => (simp only [List.length_cons, List.length_nil, sizeLine_eq] at *; omega)); intro _ _))
local macro_rules | `(tactic| walk_at "exec For Name Name cons nil") => `(tactic| refine halt ?_)
local macro_rules | `(tactic| walk_at "call builtin:iter") => `(tactic| (k_here; (with_reducible show wpAny _ _ (call (Value.builtin "iter") [Value.ref _, Value.str _ _]) _ _ _); refine halt ?_))
local macro_rules | `(tactic| walk_at "LexEnd") => `(tactic| (dsimp only [LexEnd]))
local macro_rules | `(tactic| walk_at "OnceEnd") => `(tactic| (first | (with_reducible refine onceRet ?_) | refine halt ?_))
local macro_rules | `(tactic| walk_at "call ref") => `(tactic| refine halt ?_)
local macro_rules | `(tactic| walk_at "compareOp In str str") => `(tactic| refine halt ?_)
theorem get_token_257 (w : World) (X : LX) (hX : X.Ok) (own : Led) (hown : OwnOff own X.adr) (t1 t2 t3 t4 : Nat) (rest : List (Nat × Nat)) (n tl : Nat) (ln : Int) (hlen : rest.length ≤ 800) (hln : 0 ≤ ln ∧ ln + rest.length ≤ 800) :
   CodeSpec w 81 [.ref X.x] 20 200 (X.led w.params (vals ((50, t1) :: (53, t2) :: (55, t3) :: (32, t4) :: rest)) n ln tl ++ own) (fun _ => True)
     (fun v ld' => ∃ t n' tl', v = .str (S [50, 53, 55]) t ∧ ld' = X.led w.params (vals rest) n' ln tl' ++ own) := by
  unfold CodeSpec
  k_fill
  intro loose mean mg mb dp un gd cn cs a ccd cl outer A₀ base h₀ L m s R hB hF hKX hC hN hT hk hd hu _ hret
  replace hret : ∀ d rem2 ln2 t n' tl' h' tk', d = [50, 53, 55] → rem2 = rest → ln2 = ln → s.toks ≤ tk' → Fr h₀ L h' m → News h₀ L h' (X.led w.params (vals rem2) n' ln2 tl' ++ own) → R (.ok (.ret (.str (S d) t))) { s with heap := h', toks := tk' } := by
    rintro d rem2 ln2 t n' tl' h' tk' rfl rfl rfl a b c; exact hret _ _ h' tk' ⟨t, n', tl', rfl, rfl⟩ a b c
  have hX' := hX
  obtain ⟨hord, hoc, hvs1, hcell⟩ := hX'
  obtain ⟨o1, o2, o3, o4, o5, o6, o7, o8, o9, o10⟩ := hord
  dsimp only [LX.led, LX.dict, List.cons_append, List.nil_append] at hN
  have hown0 := hown
  dsimp only [LX.adr] at hown
  refine codeAny_toks (Nat.le_refl s.toks) ?_
  k_dflt cell_enter
  (with_reducible rename Fr _ _ _ _ => F0); refine fr_let F0 ?_; clear F0; intro mk0 F0
  k_steps
  rename_i q hq Fq Nq lq
  k_dflt (refine' iter2 ?F ?N ?b ?_; (case F => k_asm); (case N => k_asm); (case b => k_mem); k_whole)
  intro it hi Fi Ni hlt
  have lit := AllBelow.out hlt
  k_lt lit
  generalize hts : _ + 1 + 1 + 1 = ts at Ni
  clear Nq Fq hN
  k_steps
  rename News _ _ _ _ => N
  rename Fr _ _ _ _ => F
  rename Below _ _ _ _ => B
  rename Frag.In _ _ => KX
  rename Top _ _ _ _ _ _ => TX
  have hown2 : OwnOff ((it, ciObj q ts) :: (q, methodObj (.ref 74) (.ref X.x)) :: own) X.adr := off_all hown0 ⟨lq.1, lq.2.1, lq.2.2.1, lq.2.2.2.1, lq.2.2.2.2.1, lq.2.2.2.2.2.1, lq.2.2.2.2.2.2.1, lq.2.2.2.2.2.2.2.1, lq.2.2.2.2.2.2.2.2.1⟩ lit.1
  have hoit : q ≠ it ∧ ∀ p ∈ own, p.1 ≠ it := ⟨Nat.ne_of_lt lit.1, fun p hp => Nat.ne_of_lt (allLt_mem lit.2.2.2.2.2.2.2.2.2.2 p hp)⟩
  have N2 : News _ _ _ (LX.at w.params X it q ts own ⟨(50, t1) :: (53, t2) :: (55, t3) :: (32, t4) :: rest, n, ln, tl⟩) := news_sub N (by unfold LX.at LX.led LX.dict; dsimp only [List.cons_append, List.nil_append]; kst_in)
  clear N
  simp only [S_nil] at F
  refine wpAny_For ?_
  walk1
  refine iter_ci (N2 (it, ciObj q ts) (List.mem_append_right _ (.head _))).1 rfl ?_
  with_unfolding_all refine' for_once (A := ?A1) (env := ?env1) ?hA ?he X hX it q ts own hown2 50 t1 ((53, t2) :: (55, t3) :: (32, t4) :: rest) n tl ln (fn74 w) B KX hC TX ?hk ?hd ?hu ?hx ?hlen ?hln F N2 ?turn ?hR ?hEE
  case hA => exact rfl
  case he => exact rfl
  case hk => exact rfl
  case hd => exact room_le 10 hd (by decide)
  case hu => exact room_le 103 hu (by decide)
  case hx => exact rfl
  case hlen => simp only [List.length_cons]; (revert hlen; kjx_bare; omega)
  case hln => (revert hlen hln; kjx_bare; omega)
  case hR => exact fun _ _ h => h
  case hEE => passes_own
  case turn =>
    intro tl1 h1 tk1 hle1 F1 N1
    have N1' := N1
    unfold LX.at LX.led LX.dict at N1'
    dsimp only [List.cons_append, List.nil_append] at N1'
    clear F N2
    show wpAny _ _ _ _ _ _
    k_fold
    k_steps
    refine in_ws (b := false) (by rfl) ?_
    k_steps
    rename Fr _ _ _ _ => F3
    rename News _ _ _ _ => N3'
    have N3 : News _ _ _ (LX.at w.params X it q ts own ⟨(53, t2) :: (55, t3) :: (32, t4) :: rest, n + 1, ln + nl 50, tl1⟩) := N3'
    clear N3'
    refine wpAny_For ?_
    walk1
    refine iter_ci (N3 (it, ciObj q ts) (List.mem_append_right _ (.head _))).1 rfl ?_
    with_unfolding_all refine' for_lex (σ := LS × List Nat × Nat) (A := ?A1) (env := ?env1) ?hA ?he X hX it q ts own hown2 hoit (fun c => c.1) (fun c => [(Str.ofString "token", .str (S c.2.1) c.2.2)]) [] (fun c _ => c.1.ln = ln ∧ ((c.1.rem = (53, t2) :: (55, t3) :: (32, t4) :: rest ∧ c.2.1 = [50]) ∨ (c.1.rem = (55, t3) :: (32, t4) :: rest ∧ c.2.1 = [50, 53]) ∨ (c.1.rem = (32, t4) :: rest ∧ c.2.1 = [50, 53, 55]))) (⟨(53, t2) :: (55, t3) :: (32, t4) :: rest, n + 1, ln + nl 50, tl1⟩, [50], _) (fn74 w) B KX hC TX ?hk ?hd ?hu ?hx F3 N3 ?hk0 ?hp ?hb ?turn ?done ?hR ?hEE
    case hA => exact rfl
    case he => exact rfl
    case hk => exact rfl
    case hd => exact room_le 10 hd (by decide)
    case hu => exact room_le 103 hu (by decide)
    case hx => exact rfl
    case hk0 => kst_all
    case hp => exact ⟨by show ln + 0 = ln; (kjx_bare; omega), .inl ⟨rfl, rfl⟩⟩
    case hb =>
      rintro ⟨⟨r9, n9, ln9, tl9⟩, d9, td9⟩ tk ⟨e3, e4⟩
      dsimp only at e3 e4 ⊢
      refine ⟨?_, by (revert hln e3; kjx_bare; omega), by (revert hlen hln e3; kjx_bare; omega)⟩
      rcases e4 with ⟨rfl, _⟩ | ⟨rfl, _⟩ | ⟨rfl, _⟩ <;> simp only [List.length_cons] <;> (revert hlen; kjx_bare; omega)
    case hR => exact fun _ _ h => h
    case hEE => passes_own
    case done =>
      rintro ⟨⟨r9, n9, ln9, tl9⟩, d, td⟩ u h tk hrem ⟨_, _, e3, e4⟩ F N
      dsimp only at hrem e3 e4
      subst hrem
      rcases e4 with ⟨e, _⟩ | ⟨e, _⟩ | ⟨e, _⟩ <;> cases e
    case turn =>
      rintro ⟨⟨r9, n9, ln9, tl9⟩, d, td⟩ ch t r tl' u h tk tk' hrem ⟨e3, e4⟩ hle F N
      dsimp only at hrem e3 e4 N
      dsimp only [kstB] at F
      have N' := N
      unfold LX.at LX.led LX.dict at N'
      dsimp only [List.cons_append, List.nil_append] at N'
      clear F3 N3
      rcases e4 with ⟨e, e5⟩ | ⟨e, e5⟩ | ⟨e, e5⟩
      all_goals (rw [hrem] at e; obtain ⟨⟨rfl, rfl⟩, rfl⟩ := List.cons_eq_cons.mp e |>.imp_left Prod.mk.inj; subst e5 e3)
      · have hws : isWs 53 = false := rfl
        show wpAny _ _ _ _ _ _
        k_fold
        k_steps
        refine in_ws hws ?_
        k_steps
        · exact nextX (⟨(55, t3) :: (32, t4) :: rest, n9 + 1, ln9 + nl 53, tl'⟩, [50, 53], _) (by assumption) (by assumption) (by unfold LX.at LX.led LX.dict; dsimp only [List.cons_append, List.nil_append]; kst_in) (by kst_all) (by kst_same) ⟨by show ln9 + 0 = ln9; (kjx_bare; omega), .inr (.inl ⟨rfl, rfl⟩)⟩ (by dsimp only; rw [hrem]; simp)
      · have hws : isWs 55 = false := rfl
        show wpAny _ _ _ _ _ _
        k_fold
        k_steps
        refine in_ws hws ?_
        k_steps
        · exact nextX (⟨(32, t4) :: rest, n9 + 1, ln9 + nl 55, tl'⟩, [50, 53, 55], _) (by assumption) (by assumption) (by unfold LX.at LX.led LX.dict; dsimp only [List.cons_append, List.nil_append]; kst_in) (by kst_all) (by kst_same) ⟨by show ln9 + 0 = ln9; (kjx_bare; omega), .inr (.inr ⟨rfl, rfl⟩)⟩ (by dsimp only; rw [hrem]; simp)
      · have hws : isWs 32 = true := rfl
        show wpAny _ _ _ _ _ _
        k_fold
        k_steps
        refine in_ws hws ?_
        k_steps
        rename News _ _ _ _ => kN
        exact hret _ _ _ _ _ _ _ _ rfl rfl (by show ln9 + 0 = ln9; (kjx_bare; omega)) (by assumption) (by assumption) (news_drop2 (ld := X.led _ _ _ _ _) kN)
end
end Mine
end
section
open PySem PySem.W PyProof.Rows PyProof
set_option maxRecDepth 100000
set_option maxHeartbeats 8000000
set_option pp.maxSteps 8000
set_option pp.deepTerms false
namespace Mine
/-- the lambda's place in the table of inner defs -/
def lamTab (c : Nat) : Array Value := #[] ++ #[rawInt 104, rawInt 18, .ref c]
theorem led_new {w : World} {h₀ h : Heap} {L : Addr} {pb x dx f c pb1 st dst cell l k1 k2 k3 k4 tw j1 j2 j3 j4 j5 tj tw1 tl qt n : Nat} {oc oCell : Obj} {vs' : Array Value} {vs : List Value} {ct nm : Value}
    (kN : News h₀ L h [(pb, W.listOf #[] 0), (x, instObj 91 dx), (dx, dictOf [⟨PyData.keyHash w.params (Str.ofString "lineno"), .str (Str.ofString "lineno") k1, .int 1 tl⟩, ⟨PyData.keyHash w.params (Str.ofString "instream"), .str (Str.ofString "instream") k2, .ref st⟩,
   ⟨PyData.keyHash w.params (Str.ofString "whitespace"), .str (Str.ofString "whitespace") k3, .str (Str.ofString "\n\t\x0d ") tw⟩, ⟨PyData.keyHash w.params (Str.ofString "pushback"), .str (Str.ofString "pushback") k4, .ref pb⟩] 4),
     (f, kla_obj (Str.ofString "<lambda>") lamQual lamArgs lamBody lamScope [(Str.ofString "left", cell)] nm c ct), (c, oc), (pb1, W.listOf #[] 0), (st, instObj 91 dst),
     (dst, dictOf [⟨PyData.keyHash w.params (Str.ofString "lineno"), .str (Str.ofString "lineno") j1, .int 1 tj⟩, ⟨PyData.keyHash w.params (Str.ofString "instream"), .str (Str.ofString "instream") j2, .none⟩,
   ⟨PyData.keyHash w.params (Str.ofString "whitespace"), .str (Str.ofString "whitespace") j3, .str (Str.ofString "\n\t\x0d ") tw1⟩, ⟨PyData.keyHash w.params (Str.ofString "pushback"), .str (Str.ofString "pushback") j4, .ref pb1⟩,
   ⟨PyData.keyHash w.params (Str.ofString "read"), .str (Str.ofString "read") j5, .ref f⟩] 5), (cell, oCell), (l, W.listOf vs.toArray n), (130, tabObj (lamTab c))])
    (ord : 130 < l ∧ l < cell ∧ cell < dst ∧ dst < st ∧ st < pb1 ∧ pb1 < f ∧ ((pb1 < c ∧ c < f) ∨ (130 < c ∧ c < l)) ∧ f < dx ∧ dx < x ∧ x < pb)
    (hoc : oc.data = .fields vs') (hvs : vs'[1]? = some (.str lamQual qt)) (hcell : oCell.data = .cell (some (.ref l))) :
    ∃ X : LX, X.Ok ∧ X.x = x ∧ X.l = l ∧ X.c = c ∧ X.oc = oc ∧ ∃ tl, News h₀ L h (X.led w.params vs n 1 tl ++ [(130, tabObj (lamTab X.c))]) :=
  ⟨⟨x, dx, pb, st, dst, pb1, f, c, cell, l, k1, k2, k3, k4, tw, j1, j2, j3, j4, j5, tj, tw1, oc, oCell, vs', qt, ct, nm⟩, ⟨ord, hoc, hvs, hcell⟩, rfl, rfl, rfl, rfl, tl, news_sub kN (by
    dsimp only [LX.led, LX.dict, LX.sdict, List.cons_append, List.nil_append]; kst_in)⟩
theorem led_again {w : World} {h₀ h : Heap} {L : Addr} {pb x dx f c pb1 st dst cell l k1 k2 k3 k4 tw j1 j2 j3 j4 j5 tj tw1 tl qt n : Nat} {oc oCell : Obj} {vs' : Array Value} {vs : List Value} {ct nm : Value}
    (kN : News h₀ L h [(pb, W.listOf #[] 0), (x, instObj 91 dx), (dx, dictOf [⟨PyData.keyHash w.params (Str.ofString "lineno"), .str (Str.ofString "lineno") k1, .int 1 tl⟩, ⟨PyData.keyHash w.params (Str.ofString "instream"), .str (Str.ofString "instream") k2, .ref st⟩,
   ⟨PyData.keyHash w.params (Str.ofString "whitespace"), .str (Str.ofString "whitespace") k3, .str (Str.ofString "\n\t\x0d ") tw⟩, ⟨PyData.keyHash w.params (Str.ofString "pushback"), .str (Str.ofString "pushback") k4, .ref pb⟩] 4),
     (f, kla_obj (Str.ofString "<lambda>") lamQual lamArgs lamBody lamScope [(Str.ofString "left", cell)] nm c ct), (pb1, W.listOf #[] 0), (st, instObj 91 dst),
     (dst, dictOf [⟨PyData.keyHash w.params (Str.ofString "lineno"), .str (Str.ofString "lineno") j1, .int 1 tj⟩, ⟨PyData.keyHash w.params (Str.ofString "instream"), .str (Str.ofString "instream") j2, .none⟩,
   ⟨PyData.keyHash w.params (Str.ofString "whitespace"), .str (Str.ofString "whitespace") j3, .str (Str.ofString "\n\t\x0d ") tw1⟩, ⟨PyData.keyHash w.params (Str.ofString "pushback"), .str (Str.ofString "pushback") j4, .ref pb1⟩,
   ⟨PyData.keyHash w.params (Str.ofString "read"), .str (Str.ofString "read") j5, .ref f⟩] 5), (cell, oCell), (l, W.listOf vs.toArray n), (c, oc), (130, tabObj (lamTab c))])
    (ord : 130 < l ∧ l < cell ∧ cell < dst ∧ dst < st ∧ st < pb1 ∧ pb1 < f ∧ ((pb1 < c ∧ c < f) ∨ (130 < c ∧ c < l)) ∧ f < dx ∧ dx < x ∧ x < pb)
    (hoc : oc.data = .fields vs') (hvs : vs'[1]? = some (.str lamQual qt)) (hcell : oCell.data = .cell (some (.ref l))) :
    ∃ X : LX, X.Ok ∧ X.x = x ∧ X.l = l ∧ X.c = c ∧ X.oc = oc ∧ ∃ tl, News h₀ L h (X.led w.params vs n 1 tl ++ [(130, tabObj (lamTab X.c))]) :=
  led_new (news_sub kN (by kst_in)) ord hoc hvs hcell
/-- a lexer made: what one call of the class lays -/
def lexDict (P : Params) (fp : Value) (k1 k2 k3 k4 tw tl pb : Nat) : List DictEntry :=
  [⟨PyData.keyHash P (Str.ofString "lineno"), .str (Str.ofString "lineno") k1, .int 1 tl⟩, ⟨PyData.keyHash P (Str.ofString "instream"), .str (Str.ofString "instream") k2, fp⟩,
   ⟨PyData.keyHash P (Str.ofString "whitespace"), .str (Str.ofString "whitespace") k3, .str (Str.ofString "\n\t\x0d ") tw⟩, ⟨PyData.keyHash P (Str.ofString "pushback"), .str (Str.ofString "pushback") k4, .ref pb⟩]
section
theorem new_lex (w : World) (fp : Value) (own : Led) : ∀ (loose : List Str) (mean : ExcName → Option Value) (mg mb : Loc) (dp un : Nat) (gd : Option (List Code)) (cn : Str) (cs : Scope) (a : Nat) (ccd : Value) (cl : List (Str × Addr)) (outer : List Env) (A₀ : Around) (base h₀ : Heap) (L : Nat) (m : Loc) (s : Shared) (Q E : Value → Shared → Prop),
    Below A₀ base outer h₀ → Fr h₀ L s.heap m → (hd.heap_39 w.params).In h₀ → News h₀ L s.heap own → Top topProg loose mean mg mb h₀ → cs.kind = .function →
    dp + 5 < recursionLimit → un + 60 < cLine →
    (∀ (x dx pb k1 k2 k3 k4 tw tl : Nat) h' tk', Fr h₀ L h' m → News h₀ L h' ((pb, W.listOf #[] 0) :: (x, instObj 91 dx) :: (dx, dictOf (lexDict w.params fp k1 k2 k3 k4 tw tl pb) 4) :: own) → (∀ p ∈ own, p.1 < dx) → dx < x → x < pb → s.toks ≤ tk' → Q (.ref x) { s with heap := h', toks := tk' }) →
    wpAny (model PySem.Challenge.rw_wn0037_01.row.prog w) (ktrTop dp un gd cn cs L a ccd cl outer) (call (.ref 91) [fp]) Q E s := by
  k_fill
  intro loose mean mg mb dp un gd cn cs a ccd cl outer A₀ base h₀ L m s Q E hB hF hX hN hT hk hd hu hret
  refine wpAny_mono (wpAny_toks_of (Nat.le_refl s.toks) (?_ : wpAny _ _ _ (fun v s' => s.toks ≤ s'.toks → Q v s') _ _)) (fun _ _ x => x.2 x.1) (fun _ _ x => x.2)
  k_dflt (refine' call_cls ?k1 ?k2 ?k3 ?k4 ?k5 ?k6 ?_)
  case k1 => k_asm
  case k2 => k_asm
  case k3 => k_asm
  case k4 => k_is
  case k5 => k_is
  case k6 => k_is
  k_whole
  intro x' d' h' F' N' l1 l2
  k_lt2 l2
  have hoff : OwnOff own [d', x'] := fun p hp b hb => by
    simp only [List.mem_cons, List.not_mem_nil, or_false] at hb
    rcases hb with rfl | rfl
    · exact Nat.ne_of_lt (l1 p hp)
    · exact Nat.ne_of_lt (Nat.lt_trans (l1 p hp) l2)
  k_dflt cell_enter
  k_steps
  rename News h₀ L _ _ => kN
  rename Fr h₀ L _ m => kF
  rename _ ∧ _ => hz9
  exact hret _ _ _ _ _ _ _ _ _ _ _ kF kN l1 l2 hz9.1 (by assumption)
local macro_rules | `(tactic| walk_at "call ref") => `(tactic| refine halt ?_)
theorem lexer_again (w : World) (l : Nat) (vs : List Value) (n : Nat) (c : Nat) (oc : Obj) (cvs : Array Value) (qt : Nat) (hc : 130 < c ∧ c < l) (hoc : oc.data = .fields cvs) (hvs : cvs[1]? = some (.str lamQual qt)) :
  CodeSpec w 135 [.ref l] 9 99 [(l, { cls := .type "list", data := .seq vs.toArray n }), (c, oc), (130, tabObj (lamTab c))] (fun _ => True)
    (fun v ld' => ∃ X : LX, X.Ok ∧ v = .ref X.x ∧ X.l = l ∧ ∃ tl, ld' = X.led w.params vs n 1 tl ++ [(130, tabObj (lamTab X.c))]) := by
  unfold CodeSpec
  dsimp only [lamTab]
  k_fill
  intro loose mean mg mb dp un gd cn cs a ccd cl outer A₀ base h₀ L m s R hB hF hX hC hN hT hk hd hu _ hret
  refine codeAny_toks (Nat.le_refl s.toks) ?_
  k_dflt (refine' code_defC ?k1 ?k2 ?k3 ?k4 ?k5 ?kA ?kF ?kK ?k6 ?k7 ?k8 ?k9 ?kB ?kD ?_ ?c2 ?c3 ?c4; (case kA => exact rfl); (case kF => exact rfl); (case kK => assumption); (case k1 => k_asm); (case k2 => k_asm); (case k3 => k_asm); (case k4 => k_asm); (case k5 => k_asm); (case k6 => k_is); (case k7 => k_is); (case k8 => k_room); (case k9 => first | exact BindsTo.of_eq rfl | exact binds_K (by k_in) rfl (by k_is) rfl rfl rfl | fail "k_enter: no rule for these arguments"); (case kB => exact rfl); (case kD => decide +kernel); (case c2 => exact rfl); (case c3 => exact rfl); (case c4 => exact rfl); k_whole; intro g' L' h' tk' cells' FG' F' N' Y' B' X' T' l1; (try k_lt l1); k_cells Y'; (try simp only [List.cons_append, List.nil_append] at N'); (try dsimp only); (try k_lift B'); (try k_fold))
  (with_reducible rename Fr _ _ _ _ => F0); refine fr_let F0 ?_; clear F0; intro mk0 F0
  k_steps
  rename Fr _ _ _ _ => F
  rename News _ _ _ _ => N
  rename Below _ _ _ _ => B
  rename Frag.In _ _ => KX
  rename Top _ _ _ _ _ _ => TX
  dsimp only [Halt]
  with_unfolding_all refine' new_lex w .none _ loose mean mg mb _ _ _ _ _ _ _ _ _ _ _ _ _ _ _ _ _ B F KX N TX ?hk ?hd ?hu ?_
  case hk => exact rfl
  case hd => exact room_le 6 hd (by decide)
  case hu => exact room_le 63 hu (by decide)
  intro x1 dx1 pb1 k1 k2 k3 k4 tw1 tl1 h1 tk1 F1 N1 hb1 hx1 hp1 hle1
  k_lt hb1
  k_lt2 hx1
  k_lt2 hp1
  unfold lexDict at N1
  (try clear F); (try clear N)
  show wpAny _ _ _ _ _ _
  k_fold
  k_steps
  rename Fr _ _ _ _ => F
  rename News _ _ _ _ => N
  dsimp only [Halt]
  with_unfolding_all refine' new_lex w (.ref x1) _ loose mean mg mb _ _ _ _ _ _ _ _ _ _ _ _ _ _ _ _ _ B F KX N TX ?hk ?hd ?hu ?_
  case hk => exact rfl
  case hd => exact room_le 6 hd (by decide)
  case hu => exact room_le 63 hu (by decide)
  intro x2 dx2 pb2 j1 j2 j3 j4 tw2 tl2 h2 tk2 F2 N2 hb2 hx2 hp2 hle2
  k_lt hb2
  k_lt2 hx2
  k_lt2 hp2
  unfold lexDict at N2
  (try clear F); (try clear N)
  k_steps
  rename News h₀ L _ _ => kN
  rename Fr h₀ L _ m => kF
  with_unfolding_all obtain ⟨X, hX1, hx, hxl, hxc, hxo, tl, N⟩ := led_again (w := w) (vs := vs) (l := l) kN (by omega) hoc hvs (by assumption)
  subst hx hxl
  exact hret _ _ _ _ ⟨X, hX1, rfl, rfl, tl, rfl⟩ (by assumption) kF N
end
end Mine
end
section
open PySem PySem.W PyProof.Rows PyProof
set_option maxRecDepth 100000
set_option maxHeartbeats 8000000
set_option pp.maxSteps 8000
set_option pp.deepTerms false
namespace Mine
/-- the contract of a def that turns objects of the ledger, its tokens told -/
def CodeSpecT (w : World) (f : Nat) (vs : List Value) (kd ku : Nat) (ld : Led) (pre : Shared → Prop) (Post : Value → Led → Nat → Prop) : Prop :=
  ∀ (loose : List Str) (mean : ExcName → Option Value) (mg mb : Loc) (dp un : Nat) (gd : Option (List Code)) (cn : Str) (cs : Scope) (a : Nat) (ccd : Value) (cl : List (Str × Addr)) (outer : List Env) (A₀ : Around) (base h₀ : Heap) (L : Nat) (m : Loc) (s : Shared) (R : Result → Shared → Prop),
    Below A₀ base outer h₀ → Fr h₀ L s.heap m → (hd.heap_39 w.params).In h₀ → CodeHd base 134 130 → News h₀ L s.heap ld → Top topProg loose mean mg mb h₀ → cs.kind = .function →
    dp + kd < recursionLimit → un + ku < cLine → pre s →
    (∀ v ld' h' tk', Post v ld' tk' → s.toks ≤ tk' → Fr h₀ L h' m → News h₀ L h' ld' → R (.ok (.ret v)) { s with heap := h', toks := tk' }) →
    codeAny (model PySem.Challenge.rw_wn0037_01.row.prog w) (ktrTop dp un gd cn cs L a ccd cl outer) (.call (.ref f) ⟨vs, []⟩) R s
def tvals (us : List (List Nat × Nat)) : List Value := us.map fun p => .str (S p.1) p.2
def unitsOf : List Nat → List (List Nat)
  | [] => []
  | [c] => [[c]]
  | c :: d :: r => if c = 92 then [c, d] :: unitsOf r else [c] :: unitsOf (d :: r)
theorem units_92 (d : Nat) (r : List Nat) : unitsOf (92 :: d :: r) = [92, d] :: unitsOf r := by simp [unitsOf]
theorem units_one (c : Nat) : unitsOf [c] = [[c]] := by simp [unitsOf]
theorem units_else {c : Nat} (r : List Nat) (h : c ≠ 92) : unitsOf (c :: r) = [c] :: unitsOf r := by cases r <;> simp [unitsOf, h]
theorem post_vst {s : Shared} {c : Prop} [Decidable c] {y z : Str} {t : Tok} {Q : Value → Shared → Prop} (h0 : (if c then y else z).length ≤ sizeLine) (ht : @LT.lt Nat _ 0 t ∧ @LT.lt Nat _ t s.toks)
    (h : ∀ (t' k : Nat), 0 < t' → t' < k → s.toks ≤ k → Q (.str (if c then y else z) t') { s with toks := k }) :
    (if c then Made.val (.str y t) else Made.str z).post Q s := by
  by_cases hc : c
  · rw [if_pos hc]; have h' := h t s.toks ht.1 ht.2 (Nat.le_refl _); rw [if_pos hc] at h'; exact h'
  · rw [if_neg hc]; have h' := h s.toks (s.toks + 1) (Nat.lt_trans ht.1 ht.2) (Nat.lt_succ_self _) (Nat.le_succ _); rw [if_neg hc] at h' h0; exact ⟨h0, h'⟩
section
variable {prog : Program} {w : World} {A : Around} {E : Value → Shared → Prop} {s : Shared} {value slice : Expr} {x y : Str} {t : Tok} {h₀ : Heap} {L : Addr} {m : Loc} {news : Led} {Q : Value → Shared → Prop}
theorem slice_k_ns {j : Int} {uj : Tok} (hF : Fr h₀ L s.heap m) (hN : News h₀ L s.heap news) (e : Txt.slice x none (some j) = y) (hT : @LT.lt Nat _ 0 t ∧ @LT.lt Nat _ t s.toks) (h : ∀ h' (t' k : Nat), 0 < t' → t' < k → s.toks ≤ k → Fr h₀ L h' m → News h₀ L h' news → Q (.str y t') { s with heap := h', toks := k })
    (hs : subscripted slice false (.str x t) (.ref s.heap.objs.size) = operate [.ref s.heap.objs.size, .str x t] (getItem (.str x t) (.ref s.heap.objs.size)) := by with_unfolding_all rfl)
    (ht : ∀ r, letTemporaryGo value (.str x t) r = pure () := by intro _; with_unfolding_all rfl) (hsz : x.length ≤ sizeLine := by size_fits) :
    wpAny (model prog w) A (subscriptTail value slice (.str x t) (.ref s.heap.objs.size)) Q E { s with heap := s.heap.push { cls := .type "slice", data := .fields #[.none, .int j uj, .none] } } := by
  refine tail_of_ItemOn ⟨"str", _, F.slot_str_getitem.lookup, typeIs_str _ _ _, wpAny_getItem_str_slice (l := none) (u := some (j, uj)) (st := none) ⟨_, Heap.get?_push_size _ rfl, rfl, rfl⟩ rfl
    (post_vst (Nat.le_trans (Txt.slice_le x _ _) hsz) hT fun t' k h1 h2 h3 => ?_)⟩ hs ht
  have h' := h (s.heap.push { cls := .type "slice", data := .fields #[.none, .int j uj, .none] }) t' k h1 h2 h3 (hF.push _) (hN.pushKeep _)
  subst e; exact h'
theorem slice_k_sn {i : Int} {ui : Tok} (hF : Fr h₀ L s.heap m) (hN : News h₀ L s.heap news) (e : Txt.slice x (some i) none = y) (hT : @LT.lt Nat _ 0 t ∧ @LT.lt Nat _ t s.toks) (h : ∀ h' (t' k : Nat), 0 < t' → t' < k → s.toks ≤ k → Fr h₀ L h' m → News h₀ L h' news → Q (.str y t') { s with heap := h', toks := k })
    (hs : subscripted slice false (.str x t) (.ref s.heap.objs.size) = operate [.ref s.heap.objs.size, .str x t] (getItem (.str x t) (.ref s.heap.objs.size)) := by with_unfolding_all rfl)
    (ht : ∀ r, letTemporaryGo value (.str x t) r = pure () := by intro _; with_unfolding_all rfl) (hsz : x.length ≤ sizeLine := by size_fits) :
    wpAny (model prog w) A (subscriptTail value slice (.str x t) (.ref s.heap.objs.size)) Q E { s with heap := s.heap.push { cls := .type "slice", data := .fields #[.int i ui, .none, .none] } } := by
  refine tail_of_ItemOn ⟨"str", _, F.slot_str_getitem.lookup, typeIs_str _ _ _, wpAny_getItem_str_slice (l := some (i, ui)) (u := none) (st := none) ⟨_, Heap.get?_push_size _ rfl, rfl, rfl⟩ rfl
    (post_vst (Nat.le_trans (Txt.slice_le x _ _) hsz) hT fun t' k h1 h2 h3 => ?_)⟩ hs ht
  have h' := h (s.heap.push { cls := .type "slice", data := .fields #[.int i ui, .none, .none] }) t' k h1 h2 h3 (hF.push _) (hN.pushKeep _)
  subst e; exact h'
end
theorem append_tv {prog : Program} {w : World} {A : Around} {E : Value → Shared → Prop} {s : Shared} {h₀ : Heap} {L : Addr} {m : Loc} {own : Led} {ul n : Nat} {us : List (List Nat × Nat)} {e : List Nat} {t : Nat} {Q : Value → Shared → Prop} (hoff : OwnOff own [ul]) (F : Fr h₀ L s.heap m) (N : News h₀ L s.heap ((ul, W.listOf (tvals us).toArray n) :: own)) (hz : us.length ≤ 800)
    (h : ∀ h', Fr h₀ L h' m → News h₀ L h' ((ul, W.listOf (tvals (us ++ [(e, t)])).toArray (n + 1)) :: own) → Q .none { s with heap := h' }) :
    wpAny (model prog w) A (call (.builtin "list.append") [.ref ul, .str (S e) t]) Q E s := by
  refine append_K F N (Upd.head fun p hp => hoff p hp ul (.head _)) (fun h' F' N' => h h' F' ?_) (by simp only [tvals, List.size_toArray, List.length_map, sizeLine_eq]; (revert hz; kjx_bare; omega))
  have e1 : (tvals (us ++ [(e, t)])).toArray = (tvals us).toArray.push (.str (S e) t) := by simp [tvals]
  rw [e1]; exact N'
theorem execs_tk {M : Model} {A : Around} {E : Value → Shared → Prop} {s : Shared} {env : Env} {Q : Flow → Shared → Prop} {st : Stmt} {rest : List Stmt} (h : wpAny M A (exec st env) (fun f s' => s.toks ≤ s'.toks → match f with | .next => wpAny M A (execs rest env) Q E s' | f => Q f s') E s) :
    wpAny M A (execs (st :: rest) env) Q E s := wpAny_execs_cons (wpAny_mono (wpAny_toks_of (Nat.le_refl s.toks) h) (fun _ _ x => x.2 x.1) (fun _ _ x => x.2))
section
local macro_rules | `(tactic| walk_at "execs cons") => `(tactic| ((refine execs_tk ?_); (try dsimp only); (try k_fold)))
local macro_rules | `(tactic| walk_at "call builtin:list.append") => `(tactic| (k_here; k_dflt (refine' append_tv ?o ?F ?N ?z ?_; (case o => assumption); (case F => k_asm); (case N => k_asm); (case z => assumption); k_whole); intro h' F' N'))
local macro_rules | `(tactic| walk_at "execs nil") => `(tactic| (refine wpAny_execs_nil ?_))
local macro_rules | `(tactic| walk_at "LocEnd") => `(tactic| (dsimp only [LocEnd]))
local macro_rules | `(tactic| walk_at "exec While Compare cons nil") => `(tactic| refine halt ?_)
local macro_rules | `(tactic| walk_at "subscriptTail Name Slice str ref") => `(tactic| ((with_reducible show wpAny _ _ (subscriptTail _ (Expr.Slice none (some _) none _) _ _) _ _ _); (with_reducible rename Fr _ _ _ _ => F'); (with_reducible rename News _ _ _ _ => N'); (refine slice_k_ns (hsz := ?hsz) (s := ⟨_, _, _, _, _⟩) F' N' (by assumption) ?hT ?_); (case hT => (refine ⟨by assumption, ?_⟩; dsimp only; omega)); (case hsz => assumption); intro _ _ _ _ _ h3 _ _; dsimp only at h3; (try dsimp only)))
local macro_rules | `(tactic| walk_at "subscriptTail Name Slice str ref") => `(tactic| ((with_reducible show wpAny _ _ (subscriptTail _ (Expr.Slice (some _) none none _) _ _) _ _ _); (with_reducible rename Fr _ _ _ _ => F'); (with_reducible rename News _ _ _ _ => N'); (refine slice_k_sn (hsz := ?hsz) (s := ⟨_, _, _, _, _⟩) F' N' (by assumption) ?hT ?_); (case hT => (refine ⟨by assumption, ?_⟩; dsimp only; omega)); (case hsz => assumption); intro _ _ _ _ _ h3 _ _; dsimp only at h3; (try dsimp only)))
theorem units_spec (w : World) (d : List Nat) (td : Nat) (own : Led) (hlen : d.length ≤ 800) :
   CodeSpecT w 128 [.str (S d) td] 3 20 own (fun s => 0 < td ∧ td < s.toks)
     (fun v ld' tk' => ∃ (ul n : Nat) (us : List (List Nat × Nat)), v = .ref ul ∧ us.map (·.1) = unitsOf d ∧ (∀ p ∈ us, 0 < p.2 ∧ p.2 < tk') ∧ ld' = (ul, W.listOf (tvals us).toArray n) :: own ∧ AllBelow ul own) := by
  unfold CodeSpecT
  k_fill
  intro loose mean mg mb dp un gd cn cs a ccd cl outer A₀ base h₀ L m s R hB hF hKX hC hN hT hk hd hu ⟨ht0, hts⟩ hret
  refine codeAny_toks (Nat.le_refl s.toks) ?_
  k_dflt cell_enter
  (with_reducible rename Fr _ _ _ _ => F0); refine fr_let F0 ?_; clear F0; intro mk0 F0
  k_steps
  rename_i ul h1 hb h2 F N hle0
  have hoff : OwnOff own [ul] := fun p hp b hb' => by
    rw [List.mem_singleton] at hb'; subst hb'; exact Nat.ne_of_lt (hb p hp)
  have hd0 : d ≠ [] ∨ d = [] := by cases d <;> simp
  refine while_loc (σ := List (List Nat × Nat) × List Nat × Nat × Nat) (fun c => (ul, W.listOf (tvals c.1).toArray c.2.2.2) :: own) (fun c => [(Str.ofString "text", .str (S c.2.1) c.2.2.1)]) [Str.ofString "size"]
    (fun c tk => unitsOf d = c.1.map (·.1) ++ unitsOf c.2.1 ∧ (∀ p ∈ c.1, 0 < p.2 ∧ p.2 < tk) ∧ c.2.1.length ≤ 800 ∧ c.1.length + c.2.1.length ≤ 800 ∧ 0 < c.2.2.1 ∧ c.2.2.1 < tk) (fun c => c.2.1.length) ([], d, td, 0) F N (by kst_all) ?_ ?_
  · exact ⟨rfl, fun p hp => (nomatch hp), hlen, by show 0 + d.length ≤ 800; (revert hlen; kjx_bare; omega), ht0, by dsimp only; (revert hts; kjx_bare; omega)⟩
  · rintro ⟨us, e, te, n⟩ u h tk ⟨hus, htk, hle, hsum, h0e, hte⟩ hle9 F1 N1
    dsimp only [kstB] at F1 N1 hus htk hle hsum h0e hte ⊢
    clear F N
    cases e with
    | nil =>
      k_fold
      k_steps
      exact hret _ _ _ _ ⟨ul, n, us, rfl, by rw [hus]; simp [unitsOf], fun p hp => ⟨(htk p hp).1, Nat.lt_succ_of_lt (htk p hp).2⟩, rfl, hb⟩ (by assumption) (by assumption) (by assumption)
    | cons c r =>
      have hz9 : us.length ≤ 800 := by (revert hle hsum; kjx_bare; omega)
      have hsz9 : (S (c :: r)).length ≤ sizeLine := by rw [S_len, sizeLine_eq]; (revert hle; kjx_bare; omega)
      have e1 : Txt.slice (S (c :: r)) none (some 1) = S [c] := slice_S_to (c :: r) 1
      have e2 : Txt.slice (S (c :: r)) none (some 2) = S (c :: r.take 1) := (slice_S_to (c :: r) 2).trans (by rw [List.take_succ_cons])
      have e3 : Txt.slice (S (c :: r)) (some 1) none = S r := slice_S_from (c :: r) 1
      have e4 : Txt.slice (S (c :: r)) (some 2) none = S (r.drop 1) := slice_S_from (c :: r) 2
      show wpAny _ _ _ _ _ _
      k_fold
      k_steps
      · have hc := c92 (ch := c) (by assumption)
        subst hc
        refine nextL (us ++ [(92 :: r.take 1, _)], r.drop 1, _, n + 1) (by assumption) (by assumption) (fun _ h => h) (by kst_all) (by ksw_same) ⟨?_, ?_, ?_, ?_, by assumption, by dsimp only; omega⟩ ?_
        · rw [hus]; cases r <;> simp [unitsOf]
        · intro p hp
          rcases List.mem_append.mp hp with hp | hp
          · have h9 := htk p hp
            exact ⟨h9.1, by dsimp only at *; omega⟩
          · rw [List.mem_singleton] at hp; subst hp
            exact ⟨by assumption, by dsimp only at *; omega⟩
        · dsimp only; rw [List.length_drop]; simp only [List.length_cons] at hle; (revert hle; kjx_bare; omega)
        · dsimp only; rw [List.length_drop, List.length_append]; simp only [List.length_cons, List.length_nil] at hsum ⊢; (revert hsum; kjx_bare; omega)
        · dsimp only; rw [List.length_drop]; simp only [List.length_cons]; (kjx_bare; omega)
      · have hc := n92 (ch := c) (by assumption)
        refine nextL (us ++ [([c], _)], r, _, n + 1) (by assumption) (by assumption) (fun _ h => h) (by kst_all) (by ksw_same) ⟨?_, ?_, ?_, ?_, by assumption, by dsimp only; omega⟩ ?_
        · rw [hus, units_else _ hc]; simp
        · intro p hp
          rcases List.mem_append.mp hp with hp | hp
          · have h9 := htk p hp
            exact ⟨h9.1, by dsimp only at *; omega⟩
          · rw [List.mem_singleton] at hp; subst hp
            exact ⟨by assumption, by dsimp only at *; omega⟩
        · dsimp only; simp only [List.length_cons] at hle; (revert hle; kjx_bare; omega)
        · dsimp only; rw [List.length_append]; simp only [List.length_cons, List.length_nil] at hsum ⊢; (revert hsum; kjx_bare; omega)
        · dsimp only; simp only [List.length_cons]; (kjx_bare; omega)
      · exact absurd (by assumption : (S (c :: r) != Str.ofString "") = false) (by rw [show Str.ofString "" = S [] by decide +kernel]; intro e; have := S_inj (by simpa using e); cases this)
end
end Mine
end
section
open PySem PySem.W PyProof.Rows PyProof
open PySem.Builtin
set_option maxRecDepth 100000
set_option maxHeartbeats 8000000
namespace Mine
theorem fr_but {h₀ h h' : Heap} {L : Addr} {m : Loc} (ex : List Addr) (F : Fr h₀ L h m) (hk : ∀ b o, b ∉ ex → h.get? b = some o → h'.get? b = some o) (hx : ∀ a ∈ ex, L ≠ a ∧ h₀.get? a = none) : Fr h₀ L h' m :=
  ⟨F.ns.at' (fun o e => hk _ _ (fun hm => (hx _ hm).1 rfl) e), fun b o e => hk b o (fun hm => by rw [(hx _ hm).2] at e; cases e) (F.keep b o e), F.above⟩
theorem news_but {h₀ h h' : Heap} {L : Addr} {ld : Led} (ex : List Addr) (N : News h₀ L h ld) (hk : ∀ b o, b ∉ ex → h.get? b = some o → h'.get? b = some o) (hx : ∀ p ∈ ld, p.1 ∉ ex) : News h₀ L h' ld :=
  fun p hp => ⟨hk _ _ (hx p hp) (N p hp).1, (N p hp).2⟩
def enumObj (it : Addr) (i : Int) (v : Value) : Obj := { cls := .type "enumerate", dict := none, data := .fields #[.none, .bool false, .ref it, rawInt i, .none, v], slots := #[] }
section
variable {prog : Program} {w : World} {A : Around} {E : Value → Shared → Prop} {Q : Flow → Shared → Prop} {s : Shared} {env : Env} {h₀ : Heap} {L : Addr}
def EnumEnd (h₀ : Heap) (L : Addr) (s : Shared) (xi xv : Str) (ld : Led) (m₀ : Loc) (P : Prop) (Q : Flow → Shared → Prop) (f : Flow) (s₃ : Shared) : Prop :=
  match f with
  | .ret v => Q (.ret v) s₃
  | .brk => Q .next s₃
  | _ => ∃ h' tk' m' news', s₃ = { s with heap := h', toks := tk' } ∧ Fr h₀ L h' m' ∧ (∀ y, y ≠ xv → y ≠ xi → m' y = m₀ y) ∧ News h₀ L h' news' ∧ (∀ p ∈ ld, p ∈ news') ∧ P
theorem for_enum {xi xv : Str} {pi pv pt : Pos} {x1} {body orelse : List Stmt} {e it l : Addr} {vs : List Value} {n : Nat} {m₀ : Loc} (ld : Led) (P : Nat → Prop) {R : Result → Shared → Prop}
    (hh : A.handled = none) (hxi : env.kindOf xi = some .local) (hxv : env.kindOf xv = some .local)
    (hp : (env.scope.kind == .class || (env.scope.kind == .module && env.locals != env.globals)) = false) (hL : env.locals = L)
    (F : Fr h₀ L s.heap m₀) (N : News h₀ L s.heap ld) (hl : (l, W.listOf vs.toArray n) ∈ ld) (hei : e ≠ it) (he0 : h₀.get? e = none) (hi0 : h₀.get? it = none) (heL : e ≠ L) (hiL : it ≠ L)
    (hle : ∀ p ∈ ld, p.1 ≠ e) (hli : ∀ p ∈ ld, p.1 ≠ it) (he : IsEnum s.heap e it 0 .none) (hit : s.heap.IsListIter it l 0) (hP0 : P 0)
    (turn : ∀ (i : Nat) (v : Value) (u : Loc) h (tk t : Nat) (io : Obj), vs[i]? = some v → P i → s.toks ≤ t → t < tk → Fr h₀ L h (fun y => if y = xv then some v else if y = xi then some (.int i t) else if y = xv then u y else if y = xi then u y else m₀ y) → News h₀ L h ((e, enumObj it ((i : Int) + 1) v) :: (it, io) :: ld) →
      wpAny (model prog w) A (execs body env) (fun f s₃ => tk ≤ s₃.toks → EnumEnd h₀ L s xi xv ((e, enumObj it ((i : Int) + 1) v) :: (it, io) :: ld) m₀ (P (i + 1)) Q f s₃) E { s with heap := h, toks := tk })
    (done : ∀ (u : Loc) h tk, P vs.length → s.toks ≤ tk → Fr h₀ L h (fun y => if y = xv then u y else if y = xi then u y else m₀ y) → News h₀ L h ld → wpAny (model prog w) A (execs orelse env) Q E { s with heap := h, toks := tk })
    (hR : ∀ f s', Q f s' → R (.ok f) s') (hEE : ∀ e s', E e s' → notedBy (model prog w) A env (fun e s' => R (.error e) s') e s') :
    codeAny (model prog w) A (.forLoop (.Tuple [.Name xi pi, .Name xv pv] x1 pt) (.ref e) body orelse env) R s := by
  subst hL
  refine codeAny_forLoop_any
    (fun k s' => ∃ h' tk m' i old io, s' = { s with heap := h', toks := tk } ∧ s.toks ≤ tk ∧ IsEnum h' e it ((i : Nat) : Int) old ∧ h'.get? it = some io ∧ h'.IsListIter it l i ∧ Fr h₀ env.locals h' m' ∧ (∀ y, y ≠ xv → y ≠ xi → m' y = m₀ y) ∧ News h₀ env.locals h' ld ∧ P i ∧ i ≤ vs.length ∧ k = vs.length + 1 - i) ?_ (vs.length + 1)
    ⟨s.heap, s.toks, m₀, 0, .none, _, rfl, Nat.le_refl _, he, (Classical.choose_spec hit).1, hit, F, fun _ _ _ => rfl, N, hP0, Nat.zero_le _, rfl⟩
  rintro k s' ⟨H, tk, m', i, old, io, rfl, hle0, he', hio, hit', F', hm', N', hP, hi, rfl⟩
  have hl' : H.IsList l vs.toArray := ⟨_, (N' _ hl).1, rfl, n, rfl⟩
  have hgo : ∀ (h : Heap), (Fr h₀ env.locals h m') → Fr h₀ env.locals h (fun y => if y = xv then m' y else if y = xi then m' y else m₀ y) := fun h Fh => by
    have : (fun y => if y = xv then m' y else if y = xi then m' y else m₀ y) = m' := by
      funext y
      by_cases h1 : y = xv
      · simp [h1]
      · by_cases h2 : y = xi
        · simp [h2]
        · simp [h1, h2, hm' y h1 h2]
    rw [this]; exact Fh
  cases hv : vs[i]? with
  | none =>
    have hsz : i = vs.length := Nat.le_antisymm hi (by simpa using hv)
    subst hsz
    refine wpAny_pyNext_enum_end (s := { s with heap := H, toks := tk }) hh he' hit' hl' (by simp) fun h₁ he₁ => ?_
    refine wpAny_mono (done m' h₁ tk hP hle0 (hgo _ (fr_ext F' he₁ (Ne.symm hiL) hi0)) (news_ext N' he₁ hli)) (fun f s₃ h₃ => hR f s₃ h₃) hEE
  | some v =>
    have hlt : i < vs.length := (List.getElem?_eq_some_iff.mp hv).1
    have heH : e < H.objs.size := Heap.lt_size he'
    have hiH : it < H.objs.size := Heap.lt_size hio
    have hLH : env.locals < H.objs.size := F'.ns.lt
    refine wpAny_pyNext_enum_item (s := { s with heap := H, toks := tk }) (items := vs.toArray) (x := v) he' hit' hl' (by simpa using hv) hei fun h₁ heo hit₁ ht₁ hz₁ hk₁ => ?_
    refine wpAny_letOwnedTupleGo_enum heo fun h₂ he₂ hs₂ => ?_
    replace hs₂ : Heap.SameBut e h₁ h₂ := hs₂
    have ht₂ : h₂.IsTuple H.objs.size #[.int i tk, v] := ⟨_, (hs₂.2 _ (Nat.ne_of_gt heH)).trans ht₁, rfl, _, rfl⟩
    have hz₂ : h₂.objs.size = H.objs.size + 1 := hs₂.1.trans hz₁
    refine wpAny_assign_Tuple hh ht₂ rfl rfl fun h₃ hx₃ => ?_
    replace hx₃ : Heap.ExtBut h₂.objs.size h₂ h₃ := hx₃
    have old₃ : ∀ b o, b < H.objs.size → h₂.get? b = some o → h₃.get? b = some o := fun b o hb x => hx₃ b o (by rw [hz₂]; exact Nat.ne_of_lt (Nat.lt_succ_of_lt hb)) x
    have keep3 : ∀ b o, b ∉ [e, it] → H.get? b = some o → h₃.get? b = some o := fun b o hb x => by
      simp only [List.mem_cons, List.not_mem_nil, or_false, not_or] at hb
      exact old₃ b o (Heap.lt_size x) ((hs₂.2 b hb.1).trans (hk₁ b o hb.1 hb.2 x))
    have F3 : Fr h₀ env.locals h₃ m' := fr_but [e, it] F' keep3 (by
      intro a ha; simp only [List.mem_cons, List.not_mem_nil, or_false] at ha
      rcases ha with rfl | rfl
      · exact ⟨Ne.symm heL, he0⟩
      · exact ⟨Ne.symm hiL, hi0⟩)
    have N3 : News h₀ env.locals h₃ ld := news_but [e, it] N' keep3 (fun p hp => by simp [hle p hp, hli p hp])
    have he₃ : h₃.get? e = some (enumObj it ((i : Int) + 1) v) := old₃ e _ heH he₂
    obtain ⟨io1, hio1, hic1, hid1⟩ := hit₁
    have hio₂ : h₂.get? it = some io1 := (hs₂.2 it (Ne.symm hei)).trans hio1
    have hio₃ : h₃.get? it = some io1 := old₃ it _ hiH hio₂
    have N3' : News h₀ env.locals h₃ ((e, enumObj it ((i : Int) + 1) v) :: (it, io1) :: ld) := fun p hp => by
      rcases List.mem_cons.mp hp with rfl | hp
      · exact ⟨he₃, heL, he0⟩
      · rcases List.mem_cons.mp hp with rfl | hp
        · exact ⟨hio₃, hiL, hi0⟩
        · exact N3 p hp
    show wpAny _ A (do holding [v] (assign (.Name xi pi) env (.int i tk)); do holding [] (assign (.Name xv pv) env v); pure ()) _ _ _
    refine wpAny_bind (wpAny_holding (wpAny_assign_Name (wpAny_storeName_local hxi F3.ns (fun h₄ hn₄ hs₄ => ?_) hp)))
    have F4 : Fr h₀ env.locals h₄ _ := F3.set hn₄ hs₄
    have N4 := N3'.set hs₄
    refine wpAny_bind (wpAny_holding (wpAny_assign_Name (wpAny_storeName_local hxv F4.ns (fun h₅ hn₅ hs₅ => wpAny_pure ?_) hp)))
    have F5 : Fr h₀ env.locals h₅ _ := F4.set hn₅ hs₅
    have N5 := N4.set hs₅
    have F6 : Fr h₀ env.locals h₅ (fun y => if y = xv then some v else if y = xi then some (.int i tk) else if y = xv then m' y else if y = xi then m' y else m₀ y) := by
      have : (fun y => if y = xv then some v else if y = xi then some (Value.int i tk) else if y = xv then m' y else if y = xi then m' y else m₀ y) = (fun y => if y = xv then some v else if y = xi then some (.int i tk) else m' y) := by
        funext y
        by_cases h1 : y = xv
        · simp [h1]
        · by_cases h2 : y = xi
          · simp [h2]
          · simp [h1, h2, hm' y h1 h2]
      rw [this]; exact F5
    show wpAny _ A (execs body env) _ _ { s with heap := h₅, toks := tk + 1 + 1 + 1 }
    refine wpAny_mono (wpAny_toks_of (n := tk + 1 + 1 + 1) (Nat.le_refl _) (turn i v m' h₅ (tk + 1 + 1 + 1) tk io1 hv hP hle0 (by (kjx_bare; omega)) F6 N5)) (fun f s₃ q => ?_) (fun _ _ x => hEE _ _ x.2)
    obtain ⟨hle3, q⟩ := q
    replace q := q hle3
    cases f with
    | ret v => exact hR _ _ q
    | brk => exact hR _ _ q
    | next =>
      obtain ⟨h9, tk9, m9, news9, rfl, F9, hm9, N9, hn9, hP9⟩ := q
      refine ⟨_, ?_, h9, tk9, m9, i + 1, v, io1, rfl, by dsimp only at hle3; (revert hle0 hle3; kjx_bare; omega), ?_, (N9 _ (hn9 _ (.tail _ (.head _)))).1, ⟨io1, (N9 _ (hn9 _ (.tail _ (.head _)))).1, hic1, hid1⟩, F9, hm9, fun p hp => N9 p (hn9 p (.tail _ (.tail _ hp))), hP9, hlt, rfl⟩
      · (revert hlt; kjx_bare; omega)
      · have := (N9 _ (hn9 _ (.head _))).1
        rw [show ((i + 1 : Nat) : Int) = (i : Int) + 1 by push_cast; rfl]
        exact this
    | cont =>
      obtain ⟨h9, tk9, m9, news9, rfl, F9, hm9, N9, hn9, hP9⟩ := q
      refine ⟨_, ?_, h9, tk9, m9, i + 1, v, io1, rfl, by dsimp only at hle3; (revert hle0 hle3; kjx_bare; omega), ?_, (N9 _ (hn9 _ (.tail _ (.head _)))).1, ⟨io1, (N9 _ (hn9 _ (.tail _ (.head _)))).1, hic1, hid1⟩, F9, hm9, fun p hp => N9 p (hn9 p (.tail _ (.tail _ hp))), hP9, hlt, rfl⟩
      · (revert hlt; kjx_bare; omega)
      · have := (N9 _ (hn9 _ (.head _))).1
        rw [show ((i + 1 : Nat) : Int) = (i : Int) + 1 by push_cast; rfl]
        exact this
end
end Mine
end
section
open PySem PySem.W PyProof.Rows PyProof
set_option maxRecDepth 100000
set_option maxHeartbeats 8000000
set_option pp.maxSteps 8000
set_option pp.deepTerms false
namespace Mine
theorem tvals_get {us : List (List Nat × Nat)} {i : Nat} {v : Value} (h : (tvals us)[i]? = some v) : ∃ p, us[i]? = some p ∧ v = .str (S p.1) p.2 := by
  unfold tvals at h
  rw [List.getElem?_map] at h
  cases e : us[i]? with
  | none => rw [e] at h; cases h
  | some p => rw [e] at h; cases h; exact ⟨p, rfl, rfl⟩
section
local macro_rules | `(tactic| walk_at "execs cons") => `(tactic| ((refine execs_tk ?_); (try dsimp only); (try k_fold)))
local macro_rules | `(tactic| walk_at "execs nil") => `(tactic| (refine wpAny_execs_nil ?_))
local macro_rules | `(tactic| walk_at "call type:enumerate") => `(tactic| refine halt ?_)
local macro_rules | `(tactic| walk_at "exec For Tuple Call cons cons") => `(tactic| refine halt ?_)
local macro_rules | `(tactic| walk_at "compareOp Is str str") => `(tactic| refine halt ?_)
local macro_rules | `(tactic| walk_at "EnumEnd") => `(tactic| refine halt ?_)
theorem indexOf_spec (w : World) (us : List (List Nat × Nat)) (al n tb : Nat) (own : Led) (hmem : (al, W.listOf (tvals us).toArray n) ∈ own) (hu9 : us.length ≤ 900) (htok : ∀ p ∈ us, 0 < p.2 ∧ p.2 < tb) (hin : [34] ∈ us.map (·.1)) :
   CodeSpec w 116 [.ref al, .str (S [34]) tb] 3 20 own (fun s => tb < s.toks)
     (fun v ld' => ∃ (k t : Nat), v = .int (k : Int) t ∧ (us.map (·.1))[k]? = some [34] ∧ (∀ j, j < k → (us.map (·.1))[j]? ≠ some [34]) ∧ ld' = own) := by
  unfold CodeSpec
  k_fill
  intro loose mean mg mb dp un gd cn cs a ccd cl outer A₀ base h₀ L m s R hB hF hKX hC hN hT hk hd hu htb hret
  have hst : nsIn (_root_.Mine.hd.heap_39 w.params) cStatics sharingNotToldKey = some none := by k_is
  refine codeAny_toks (Nat.le_refl s.toks) ?_
  k_dflt cell_enter
  k_steps
  refine wpAny_For ?_
  k_steps
  rename Fr _ _ _ _ => F
  rename News _ _ _ _ => N
  rename Below _ _ _ _ => B
  rename Frag.In _ _ => KX
  rename Top _ _ _ _ _ _ => TX
  dsimp only [Halt]
  have hal := (N _ hmem).1
  refine call_enumerate_list (l := al) (items := (tvals us).toArray) ⟨_, hal, rfl, n, rfl⟩ fun h' hE hI hsz hk' => ?_
  refine wpAny_pyIter_enum hE ?_
  have F2 := F.keeps hk'
  have N2 := N.grown hk'
  have hLs := F.ns.lt
  have e0 := ktu_new F (Nat.le_refl _)
  have e1 := ktu_new F (Nat.le_succ _)
  have hlt : ∀ p ∈ own, @LT.lt Nat _ p.1 _ := fun p hp => Heap.lt_size (N p hp).1
  generalize hz : Array.size _ = z at hE hI hsz e0 e1 hLs hlt ⊢
  with_unfolding_all refine' for_enum own (fun i => ∀ j, j < i → (us.map (·.1))[j]? ≠ some [34]) ?hh ?hxi ?hxv ?hpl ?hL F2 N2 hmem ?hei e1 e0 ?heL ?hiL ?hle ?hli hE hI ?hP0 ?turn ?done ?hR ?hEE
  case hR => exact fun _ _ h => h
  case hEE => passes_own
  case hh => exact rfl
  case hxi => exact rfl
  case hxv => exact rfl
  case hpl => exact rfl
  case hL => exact rfl
  case hei => exact Nat.succ_ne_self _
  case heL => exact Nat.ne_of_gt (Nat.lt_succ_of_lt hLs)
  case hiL => exact Nat.ne_of_gt hLs
  case hle => exact fun p hp => Nat.ne_of_lt (Nat.lt_succ_of_lt (hlt p hp))
  case hli => exact fun p hp => Nat.ne_of_lt (hlt p hp)
  case hP0 => exact fun j hj => absurd hj (Nat.not_lt_zero _)
  clear hz hE hI hsz hk'
  case turn =>
    intro i v u h tk t io hv hP hle ht F3 N3
    obtain ⟨⟨e, te⟩, hp, rfl⟩ := tvals_get hv
    have hpm := htok _ (List.mem_of_getElem? hp)
    dsimp only at hpm hle
    clear F N F2 N2
    have hi9 : i ≤ 900 := Nat.le_trans (Nat.le_of_lt (List.getElem?_eq_some_iff.mp hp).1) hu9
    show wpAny _ _ _ _ _ _
    k_fold
    k_steps
    refine is_str (static_k hst (by assumption) (by assumption) (by assumption)) hpm.1 (by (revert hpm; kjx_bare; omega)) (by (revert hpm; kjx_bare; omega)) (fun b hb => ?_)
    k_steps
    · have he : e = [34] := S_inj (hb (by assumption))
      dsimp only [Halt, EnumEnd]
      k_steps
      rename News h₀ L _ _ => kN
      exact hret _ _ _ _ ⟨i, t, rfl, by rw [List.getElem?_map, hp, ← he]; rfl, hP, rfl⟩ (by first | assumption | (dsimp only at *; omega)) (by assumption) (news_sub kN fun p hp => .tail _ (.tail _ hp))
    · have he : e = [34] := S_inj (beq_iff_eq.mp (by assumption : (S e == S [34]) = true))
      dsimp only [Halt, EnumEnd]
      k_steps
      rename News h₀ L _ _ => kN
      exact hret _ _ _ _ ⟨i, t, rfl, by rw [List.getElem?_map, hp, ← he]; rfl, hP, rfl⟩ (by first | assumption | (dsimp only at *; omega)) (by assumption) (news_sub kN fun p hp => .tail _ (.tail _ hp))
    · have he : e ≠ [34] := by
        intro e9
        have h9 : (S e == S [34]) = false := by assumption
        rw [e9] at h9; simp at h9
      dsimp only [Halt, EnumEnd]
      refine ⟨_, _, _, _, rfl, F3, fun y h1 h2 => ?_, N3, fun p hp => hp, fun j hj => ?_⟩
      · rw [if_neg h1, if_neg h2, if_neg h1, if_neg h2]
      · rcases Nat.lt_succ_iff_lt_or_eq.mp hj with h9 | h9
        · exact hP j h9
        · subst h9
          rw [List.getElem?_map, hp]
          intro h; exact he (Option.some.inj h)
  case done =>
    intro u h tk hP hle F3 N3
    exfalso
    obtain ⟨k, hk9⟩ := List.getElem?_of_mem hin
    have hkl := (List.getElem?_eq_some_iff.mp hk9).1
    rw [List.length_map] at hkl
    refine hP k ?_ hk9
    unfold tvals; rw [List.length_map]; exact hkl
theorem indexOf_spec2 (w : World) (us : List (List Nat × Nat)) (al n tb : Nat) (q : Str) (own : Led) (hmem : (al, W.listOf (tvals us).toArray n) ∈ own) (hu9 : us.length ≤ 900) (htok : ∀ p ∈ us, 0 < p.2 ∧ p.2 < tb) (hin : [34] ∈ us.map (·.1)) (hq : q = S [34]) :
   CodeSpec w 116 [.ref al, .str q tb] 3 20 own (fun s => tb < s.toks)
     (fun v ld' => ∃ (k t : Nat), v = .int (k : Int) t ∧ (us.map (·.1))[k]? = some [34] ∧ (∀ j, j < k → (us.map (·.1))[j]? ≠ some [34]) ∧ ld' = own) := by
  subst hq; exact indexOf_spec w us al n tb own hmem hu9 htok hin
end
end Mine
end
section
open PySem PySem.W PyProof.Rows PyProof
set_option maxRecDepth 100000
set_option maxHeartbeats 8000000
namespace Mine
def txts (us : List (List Nat × Nat)) : List (List Nat) := us.map (·.1)
theorem txts_app (a b : List (List Nat × Nat)) : txts (a ++ b) = txts a ++ txts b := by simp [txts]
theorem txts_len (a : List (List Nat × Nat)) : (txts a).length = a.length := by simp [txts]
def chT (rem : List (Nat × Nat)) : List (List Nat × Nat) := rem.map fun p => ([p.1], p.2)
theorem vals_tv (rem : List (Nat × Nat)) : vals rem = tvals (chT rem) := by simp [vals, tvals, chT]
theorem txts_ch (rem : List (Nat × Nat)) : txts (chT rem) = (rem.map (·.1)).map fun c => [c] := by simp [txts, chT]
theorem tvals_len (us : List (List Nat × Nat)) : (tvals us).length = us.length := by simp [tvals]
def joinL (sep : List Nat) : List (List Nat) → List Nat
  | [] => []
  | [x] => x
  | x :: r => x ++ sep ++ joinL sep r
theorem join_S (sep : List Nat) : ∀ us : List (List Nat), Txt.join (S sep) (us.map S) = S (joinL sep us) := by
  intro us
  unfold Txt.join
  rw [StrLaws.glued_eq_join]
  induction us with
  | nil => show Str.empty = S []; decide +kernel
  | cons x r ih =>
    cases r with
    | nil => rfl
    | cons y r =>
      show S x ++ S sep ++ Str.join (S sep) ((y :: r).map S) = _
      rw [ih, S_app, S_app]; rfl
theorem joinL_nil_sep : ∀ us : List (List Nat), joinL [] us = us.flatten
  | [] => rfl
  | [x] => by simp [joinL]
  | x :: y :: r => by
    have := joinL_nil_sep (y :: r)
    simp only [joinL, List.append_nil, this]; simp
theorem repl_S (l : List Nat) : Txt.replace (S l) (Str.ofString "\\") (Str.ofString "\\\\") = S (StrLaws.dbl 92 l) := by
  rw [replace_dbl (S l) _ _ 92 (by decide +kernel) (by decide +kernel), S_cps]; rfl
theorem of_S (x : Str) : ∃ l, x = S l := ⟨x.cps.toList, by cases x; simp [S]⟩
theorem map_S (xs : List Str) : ∃ ls : List (List Nat), xs = ls.map S := by
  induction xs with
  | nil => exact ⟨[], rfl⟩
  | cons x r ih => obtain ⟨l, rfl⟩ := of_S x; obtain ⟨ls, rfl⟩ := ih; exact ⟨l :: ls, rfl⟩
theorem strValues_tv (l : List (Str × Tok)) : ∃ us : List (List Nat × Nat), strValues l = tvals us ∧ l.map (·.1) = (txts us).map S := by
  induction l with
  | nil => exact ⟨[], rfl, rfl⟩
  | cons p r ih =>
    obtain ⟨x, t⟩ := p
    obtain ⟨e, rfl⟩ := of_S x
    obtain ⟨us, h1, h2⟩ := ih
    refine ⟨(e, t) :: us, ?_, ?_⟩
    · show _ :: strValues r = _ :: tvals us; rw [h1]
    · show _ :: r.map (·.1) = _ :: (txts us).map S; rw [h2]
/-- the pieces between marks -/
def cutL : List Nat → List (List Nat)
  | [] => [[]]
  | c :: r => if c = 34 then [] :: cutL r else match cutL r with | [] => [[c]] | p :: q => (c :: p) :: q
theorem cutL_ne (l : List Nat) : cutL l ≠ [] := by
  cases l with
  | nil => simp [cutL]
  | cons c r => unfold cutL; split; simp; split <;> simp
theorem cutL_app : ∀ (p : List Nat) (r : List Nat), 34 ∉ p → cutL (p ++ 34 :: r) = p :: cutL r
  | [], r, _ => by simp [cutL]
  | c :: p, r, h => by
    have hc : c ≠ 34 := fun e => h (by simp [e])
    have ih := cutL_app p r (fun hm => h (.tail _ hm))
    show cutL (c :: (p ++ 34 :: r)) = _
    rw [cutL, if_neg hc, ih]
theorem cutL_free : ∀ (p : List Nat), 34 ∉ p → cutL p = [p]
  | [], _ => rfl
  | c :: p, h => by
    have hc : c ≠ 34 := fun e => h (by simp [e])
    rw [cutL, if_neg hc, cutL_free p (fun hm => h (.tail _ hm))]
theorem cutL_join : ∀ (ps : List (List Nat)), ps ≠ [] → (∀ p ∈ ps, 34 ∉ p) → cutL (joinL [34] ps) = ps
  | [], h, _ => absurd rfl h
  | [p], _, h => cutL_free p (h p (.head _))
  | p :: q :: r, _, h => by
    show cutL (p ++ [34] ++ joinL [34] (q :: r)) = _
    rw [List.append_assoc]
    show cutL (p ++ 34 :: joinL [34] (q :: r)) = _
    rw [cutL_app p _ (h p (.head _)), cutL_join (q :: r) (by simp) (fun x hx => h x (.tail _ hx))]
theorem split_cut (l : List Nat) : Txt.split (S l) (Str.ofString "\"") = (cutL l).map S := by
  rw [show Str.ofString "\"" = (⟨#[34]⟩ : Str) by decide +kernel]
  have h1 := StrLaws.join_split (S l) ⟨#[34]⟩
  have h2 := StrLaws.split_free (S l) 34
  have h3 := split_pos (S l) ⟨#[34]⟩
  obtain ⟨ls, e⟩ := map_S (Txt.split (S l) ⟨#[34]⟩)
  rw [e] at h1 h2 h3 ⊢
  have h4 := join_S [34] ls
  unfold Txt.join at h4
  rw [StrLaws.glued_eq_join] at h4
  have h5 : S (joinL [34] ls) = S l := h4.symm.trans h1
  have h6 := S_inj h5
  rw [← h6, cutL_join ls (by intro h0; rw [h0] at h3; simp at h3) (fun p hp => by
    have := h2 (S p) (List.mem_map_of_mem hp)
    rw [S_cps] at this; exact this)]
end Mine
namespace Mine
section
variable {prog : Program} {w : World} {A : Around} {E : Value → Shared → Prop} {s : Shared} {h₀ : Heap} {L : Addr} {m : Loc} {news : Led} {Q : Value → Shared → Prop}
theorem lst_of {l n : Nat} {us : List Value} (N : News h₀ L s.heap news) (hm : (l, W.listOf us.toArray n) ∈ news) : s.heap.IsList l us.toArray := isList_of N hm
theorem beq_txts {a b : List (List Nat × Nat)} (h : a.length = b.length) :
    ((List.range a.length).all fun j => ((txts a)[j]? == (txts b)[j]?)) = (txts a == txts b) := by
  have : ∀ x y : List (List Nat), x.length = y.length → ((List.range x.length).all fun j => (x[j]? == y[j]?)) = (x == y) := by
    intro x y hl
    rw [Bool.eq_iff_iff]
    simp only [List.all_eq_true, List.mem_range, beq_iff_eq]
    constructor
    · intro h1
      apply List.ext_getElem? 
      intro i
      by_cases hi : i < x.length
      · exact h1 i hi
      · rw [List.getElem?_eq_none (by (revert hl hi; kjx_bare; omega)), List.getElem?_eq_none (by (revert hl hi; kjx_bare; omega))]
    · rintro rfl _ _; rfl
  have h2 := this (txts a) (txts b) (by rw [txts_len, txts_len, h])
  rw [txts_len] at h2; exact h2
theorem eq_at_tv {A : Around} {s : Shared} {a b : List (List Nat × Nat)} : ∀ j (h1 : j < (tvals a).toArray.size) (h2 : j < (tvals b).toArray.size), SeqAt.EqAt A s (tvals a).toArray[j] (tvals b).toArray[j] ((txts a)[j]? == (txts b)[j]?) := by
  intro j h1 h2
  have e1 : j < a.length := by simpa [tvals] using h1
  have e2 : j < b.length := by simpa [tvals] using h2
  have g1 : (tvals a).toArray[j] = .str (S a[j].1) a[j].2 := by simp [tvals]
  have g2 : (tvals b).toArray[j] = .str (S b[j].1) b[j].2 := by simp [tvals]
  have g3 : ((txts a)[j]? == (txts b)[j]?) = (S a[j].1 == S b[j].1) := by
    rw [show (txts a)[j]? = some a[j].1 by simp [txts, e1], show (txts b)[j]? = some b[j].1 by simp [txts, e2], Bool.eq_iff_iff]
    simp only [beq_iff_eq, Option.some.injEq]
    exact ⟨fun h => by rw [h], fun h => S_inj h⟩
  rw [g1, g2, g3]
  exact SeqAt.EqAt.str_str _ _ _ _
theorem ne_tv {l l' n n' : Nat} {a b : List (List Nat × Nat)} (N : News h₀ L s.heap news) (h1 : (l, W.listOf (tvals a).toArray n) ∈ news) (h2 : (l', W.listOf (tvals b).toArray n') ∈ news) (hu : A.units < cLine) (h : Q (.bool (!(txts a == txts b))) s) :
    wpAny (model prog w) A (compareOp .NotEq (.ref l) (.ref l')) Q E s := by
  by_cases hl : a.length = b.length
  · refine SeqAt.RcNeAt.lists (e := fun j => ((txts a)[j]? == (txts b)[j]?)) (isList_of N h1) (isList_of N h2) (by simp [tvals, hl]) hu (fun j q1 q2 => eq_at_tv j q1 q2) prog w E Q ?_
    rw [show (tvals a).toArray.size = a.length by simp [tvals], beq_txts hl]; exact h
  · have e : (txts a == txts b) = false := by
      rw [Bool.eq_false_iff]; intro h9
      have := congrArg List.length (beq_iff_eq.mp h9)
      rw [txts_len, txts_len] at this; exact hl this
    rw [e] at h
    exact SeqAt.RcNeAt.lists_lengths (isList_of N h1) (isList_of N h2) (by simp [tvals, hl]) hu prog w E Q h
theorem eq_tv {l l' n n' : Nat} {a b : List (List Nat × Nat)} (N : News h₀ L s.heap news) (h1 : (l, W.listOf (tvals a).toArray n) ∈ news) (h2 : (l', W.listOf (tvals b).toArray n') ∈ news) (hu : A.units < cLine) (h : Q (.bool (txts a == txts b)) s) :
    wpAny (model prog w) A (compareOp .Eq (.ref l) (.ref l')) Q E s := by
  by_cases hl : a.length = b.length
  · refine SeqAt.eq_listAt (e := fun j => ((txts a)[j]? == (txts b)[j]?)) (isList_of N h1) (isList_of N h2) (by simp [tvals, hl]) hu (fun j q1 q2 => eq_at_tv j q1 q2) ?_
    rw [show (tvals a).toArray.size = a.length by simp [tvals], beq_txts hl]; exact h
  · have e : (txts a == txts b) = false := by
      rw [Bool.eq_false_iff]; intro h9
      have := congrArg List.length (beq_iff_eq.mp h9)
      rw [txts_len, txts_len] at this; exact hl this
    rw [e] at h
    exact SeqAt.eq_list_lengthsAt (isList_of N h1) (isList_of N h2) (by simp [tvals, hl]) hu h
theorem strsAre_tv : ∀ us : List (List Nat × Nat), StrsAre (tvals us) ((txts us).map S)
  | [] => .nil
  | p :: r => .cons (S p.1) p.2 (strsAre_tv r)
theorem join_tv {l n : Nat} {us : List (List Nat × Nat)} {sep : List Nat} {t : Tok} (N : News h₀ L s.heap news) (h1 : (l, W.listOf (tvals us).toArray n) ∈ news) (hs : sep.length ≤ 16) (hw : ((txts us).map (·.length)).sum + us.length ≤ 1048576)
    (h : ∀ t' k, Q (.str (S (joinL sep (txts us))) t') { s with toks := k }) : wpAny (model prog w) A (call (.builtin "str.join") [.str (S sep) t, .ref l]) Q E s := by
  refine join_listW (isList_of N h1) (ys := (txts us).map S) (by simpa using strsAre_tv us) (by rw [S_len]; exact hs) ?_ (fun t' k => by rw [join_S]; exact h t' k)
  rw [List.map_map, List.length_map, txts_len]
  rw [show (fun x => Str.length x) ∘ S = fun x : List Nat => x.length from funext fun x => S_len x]; exact hw
end
end Mine
namespace Mine
section
variable {prog : Program} {w : World} {A : Around} {E : Value → Shared → Prop} {s : Shared} {h₀ : Heap} {L : Addr} {m : Loc} {news : Led} {Q : Value → Shared → Prop}
theorem list_tv {l : List Nat} {t : Tok} (hh : A.handled = none) (F : Fr h₀ L s.heap m) (N : News h₀ L s.heap news) (hl : l.length ≤ 1048576)
    (h : ∀ (D n : Nat) (rem : List (Nat × Nat)) h' tk, rem.map (·.1) = l → Fr h₀ L h' m → News h₀ L h' ((D, W.listOf (vals rem).toArray n) :: news) → AllBelow D news → Q (.ref D) { s with heap := h', toks := tk }) :
    wpAny (model prog w) A (call (.type "list") [.str (S l) t]) Q E s := by
  refine call_list_str hh (S l) t (hn := by have := S_len l; unfold Str.length at this; rw [this, sizeLine_eq]; (revert hl this; kjx_bare; omega)) fun h' tk acc' c' hk hS' hacc => ?_
  have hex : ∀ (k : Nat) (acc : List Value) (l : List Nat), acc.length = k → l.length = k → (∀ (j : Nat) (v : Value), acc[j]? = some v → ∃ (c : Nat) (u : Tok), l[j]? = some c ∧ v = Value.str ⟨#[c]⟩ u) → ∃ rem : List (Nat × Nat), rem.map (·.1) = l ∧ acc = vals rem := by
    intro k
    induction k with
    | zero => intro acc l h1 h2 _; exact ⟨[], by rw [List.length_eq_zero_iff.mp h2]; rfl, by rw [List.length_eq_zero_iff.mp h1]; rfl⟩
    | succ k ih =>
      intro acc l h1 h2 h3
      cases acc with
      | nil => simp at h1
      | cons v acc =>
        cases l with
        | nil => simp at h2
        | cons c l =>
          obtain ⟨c9, u, e1, e2⟩ := h3 0 v rfl
          obtain ⟨rem, e3, e4⟩ := ih acc l (by simpa using h1) (by simpa using h2) (fun j v hj => h3 (j + 1) v hj)
          refine ⟨(c, u) :: rem, by simp [e3], ?_⟩
          have e5 : c = c9 := by simpa using e1
          subst e5
          rw [e4, e2]; rfl
  obtain ⟨rem, e1, e2⟩ := hex l.length acc'.toList l (by have := hacc.1; simp [S] at this; simp [this]) rfl (fun j v hj => by
    obtain ⟨c, u, hc, hv⟩ := hacc.2 j v (by simpa using hj)
    exact ⟨c, u, by simpa [S] using hc, hv⟩)
  refine h s.heap.objs.size c' rem h' tk e1 (F.keeps hk) ?_ (fun p hp => Heap.lt_size (N p hp).1)
  intro p hp
  rcases List.mem_cons.mp hp with rfl | hp
  · refine ⟨?_, Nat.ne_of_gt F.ns.lt, ktu_new F (Nat.le_refl _)⟩
    rw [hS', show acc' = (vals rem).toArray by rw [← e2]]
  · exact N.grown hk p hp
theorem split_tv {l : List Nat} {t u : Tok} (F : Fr h₀ L s.heap m) (N : News h₀ L s.heap news) (hl : l.length ≤ 1048576)
    (h : ∀ (D : Nat) (us : List (List Nat × Nat)) h' tk, txts us = cutL l → Fr h₀ L h' m → News h₀ L h' ((D, W.listOf (tvals us).toArray 0) :: news) → AllBelow D news → Q (.ref D) { s with heap := h', toks := tk }) :
    wpAny (model prog w) A (call (.builtin "str.split") [.str (S l) t, .str (Str.ofString "\"") u]) Q E s := by
  have hsz : (S l).length ≤ 1048576 := by rw [S_len]; exact hl
  have fin : ∀ (lv : List (Str × Tok)) tk, lv.map (·.1) = Txt.split (S l) (Str.ofString "\"") → Q (.ref s.heap.objs.size) { s with heap := s.heap.push { cls := .type "list", data := .seq (strValues lv).toArray }, toks := tk } := by
    intro lv tk hlv
    obtain ⟨us, e1, e2⟩ := strValues_tv lv
    have e3 : txts us = cutL l := by
      have h9 := e2.symm.trans (hlv.trans (split_cut l))
      exact List.map_inj_right (fun _ _ h => S_inj h) |>.mp h9
    refine h s.heap.objs.size us _ tk e3 (F.push _) ?_ (fun p hp => Heap.lt_size (N p hp).1)
    rw [e1]
    exact News.push F N _ rfl
  have hy : ((Str.ofString "\"").length == 0) = false := by decide +kernel
  have hle := split_le (S l) (Str.ofString "\"")
  cases h1 : (decide ((S l).length < (Str.ofString "\"").length) || decide (Builtin.Str.strKind (S l) < Builtin.Str.strKind (Str.ofString "\"")))
  · cases hf : (Builtin.Str.occurrences (S l) (Str.ofString "\"") 0 (S l).length ((S l).length + 1)).isEmpty
    · refine call_meets PySem.F.slot_str_split (typeIs_str _ _ _) PySem.F.entry_str_split (PySem.F.args_str_split_2 _ _) (meets_str_split_sep (S l) _ t u h1 hy hf (by rw [sizeLine_eq]; (revert hsz; kjx_bare; omega)) (by rw [len_partsBetween, sizeLine_eq]; have := StrLaws.occ_length_le (S l) (Str.ofString "\"") 0 (S l).length ((S l).length + 1); (revert hsz this; kjx_bare; omega))) ?_
      show wants Q E _ { s with toks := _, heap := s.heap.push { cls := .type "list", data := .seq (strsFrom s.toks (Builtin.Str.partsBetween (S l) (Builtin.Str.occurrences (S l) (Str.ofString "\"") 0 (S l).length ((S l).length + 1)) (Str.ofString "\"").length)).toArray } }
      rw [strsFrom_eq]
      exact fin _ _ ((numbered_texts _ _).trans ((if_neg (ne_true_of_eq_false h1)).trans (if_neg (ne_true_of_eq_false hf))).symm)
    · exact call_meets PySem.F.slot_str_split (typeIs_str _ _ _) PySem.F.entry_str_split (PySem.F.args_str_split_2 _ _) (meets_str_split_not_found (S l) _ t u h1 hy hf)
        (fin [(S l, t)] _ ((if_neg (ne_true_of_eq_false h1)).trans (if_pos hf)).symm)
  · exact call_meets PySem.F.slot_str_split (typeIs_str _ _ _) PySem.F.entry_str_split (PySem.F.args_str_split_2 _ _) (meets_str_split_cannot_occur (S l) _ t u h1)
      (fin [(S l, t)] _ (if_pos h1).symm)
theorem pick_run_tv (vs : List Value) (a b : Nat) : (slicePick vs.toArray (some (a : Int)) (some (b : Int)) none).toList = (vs.drop a).take (b - a) := by
  have e : sliceBounds (some (a : Int)) (some (b : Int)) none vs.toArray.size = (((min a vs.toArray.size : Nat) : Int), ((min b vs.toArray.size : Nat) : Int), 1) := by
    simp only [sliceBounds, Option.getD_none, show (1 : Int) > 0 by decide, if_true, if_neg (show ¬ ((a : Int) < 0) by (kjx_bare; omega)), if_neg (show ¬ ((b : Int) < 0) by (kjx_bare; omega))]
    congr 1
    · (kjx_bare; omega)
    · congr 1
      (kjx_bare; omega)
  rw [kmk_pick_nat _ e]
  show (vs.drop (min a vs.toArray.size)).take (min b vs.toArray.size - min a vs.toArray.size) = _
  rw [List.size_toArray, kmk_drop_min]
  by_cases hb : b ≤ vs.length
  · rw [Nat.min_eq_left hb]
    by_cases ha : a ≤ vs.length
    · rw [Nat.min_eq_left ha]
    · rw [List.drop_of_length_le (by (revert ha; kjx_bare; omega))]; simp
  · rw [Nat.min_eq_right (by (revert hb; kjx_bare; omega)), List.take_of_length_le (by rw [List.length_drop]; (kjx_bare; omega)), List.take_of_length_le (by rw [List.length_drop]; (revert hb; kjx_bare; omega))]
theorem pick_to_tv (vs : List Value) (b : Nat) : (slicePick vs.toArray none (some (b : Int)) none).toList = vs.take b := by
  have e : sliceBounds none (some (b : Int)) none vs.toArray.size = (((0 : Nat) : Int), ((min b vs.toArray.size : Nat) : Int), 1) := by
    simp only [sliceBounds, Option.getD_none, show (1 : Int) > 0 by decide, if_true, if_neg (show ¬ ((b : Int) < 0) by (kjx_bare; omega))]
    congr 1
    congr 1
    (kjx_bare; omega)
  rw [kmk_pick_nat _ e]
  show (vs.drop 0).take (min b vs.toArray.size - 0) = _
  rw [List.drop_zero, Nat.sub_zero, List.size_toArray, kmk_take_min]
theorem pick_from_tv (vs : List Value) (a : Nat) : (slicePick vs.toArray (some (a : Int)) none none).toList = vs.drop a := by
  have e : sliceBounds (some (a : Int)) none none vs.toArray.size = (((min a vs.toArray.size : Nat) : Int), ((vs.toArray.size : Nat) : Int), 1) := by
    simp only [sliceBounds, Option.getD_none, show (1 : Int) > 0 by decide, if_true, if_neg (show ¬ ((a : Int) < 0) by (kjx_bare; omega))]
    congr 1
    (kjx_bare; omega)
  rw [kmk_pick_nat _ e]
  show (vs.drop (min a vs.toArray.size)).take (vs.toArray.size - min a vs.toArray.size) = _
  rw [List.size_toArray, kmk_drop_min, List.take_of_length_le (by rw [List.length_drop]; (kjx_bare; omega))]
theorem tvals_take (us : List (List Nat × Nat)) (k : Nat) : (tvals us).take k = tvals (us.take k) := by simp [tvals, List.map_take]
theorem tvals_drop (us : List (List Nat × Nat)) (k : Nat) : (tvals us).drop k = tvals (us.drop k) := by simp [tvals, List.map_drop]
variable {value slice : Expr} {l n : Nat} {us zs : List (List Nat × Nat)} {vl vu : Value} {lo hi : Option Int}
theorem slice_tv (F : Fr h₀ L s.heap m) (N : News h₀ L s.heap news) (hm : (l, W.listOf (tvals us).toArray n) ∈ news) (pl : IsPart vl lo) (pu : IsPart vu hi) (e : (slicePick (tvals us).toArray lo hi none).toList = tvals zs) (hz : us.length ≤ 1048576)
    (h : ∀ (D : Nat) h', Fr h₀ L h' m → News h₀ L h' ((D, W.listOf (tvals zs).toArray 0) :: news) → AllBelow D news → Q (.ref D) { s with heap := h' })
    (hs : subscripted slice false (.ref l) (.ref s.heap.objs.size) = operate [.ref s.heap.objs.size, .ref l] (getItem (.ref l) (.ref s.heap.objs.size))) (ht : ∀ r, letTemporaryGo value (.ref l) r = pure ()) :
    wpAny (model prog w) A (subscriptTail value slice (.ref l) (.ref s.heap.objs.size)) Q E { s with heap := s.heap.push { cls := .type "slice", data := .fields #[vl, vu, .none] } } :=
  kmk_slice_lit F N (isList_of N hm) pl pu e (fun D h' a b c => h D h' a b c) hs ht (by rw [List.size_toArray, tvals_len, sizeLine_eq]; (revert hz; kjx_bare; omega))
end
end Mine
end
section
open PySem PySem.W PyProof.Rows PyProof
set_option maxRecDepth 100000
set_option maxHeartbeats 8000000
namespace Mine
section
variable {prog : Program} {w : World} {A : Around} {h₀ : Heap} {L : Addr} {m : Loc} {env : Env} {elt : Expr} {x : Str} {scope : Scope} {cl : List (Str × Addr)} {s : Shared} {S' : Led → Prop} {P : Nat → Value → Prop} {Fin : List Value → Led → Prop} {news : Led}
theorem comp_all {n : Nat} (Inv : Nat → List Value → Led → Prop) (h0 : Inv 0 [] news)
    (turn : ∀ (i : Nat) ys nw v (I : Nat) oI (C : Nat) oC (D : Nat) m₂ h (tk : Nat) (E' : Value → Shared → Prop), i < n → P i v → Inv i ys nw → LCg.NsObj oC m₂ → m₂ x = some v → Fr h₀ L h m → News h₀ L h ((I, oI) :: (C, oC) :: (D, LCg.lst ys) :: nw) → LCg.Off3 I C D nw → ((@Ne Nat I C) ∧ (@Ne Nat I D) ∧ (@Ne Nat C D)) →
      wpAny (model prog w) A (eval elt (compEnvC scope cl C env)) (LCg.CompEnd h₀ L m { s with heap := h, toks := tk } I oI C oC D (LCg.lst ys) S' (fun y nw' => Inv (i + 1) (ys ++ [y]) nw')) E' { s with heap := h, toks := tk })
    (fin : ∀ ys nw, Inv n ys nw → Fin ys nw) : LCg.CompRest prog w A h₀ L m env elt x scope cl s S' P Fin n 0 [] news := by
  have key : ∀ (j i : Nat) (ys : List Value) (nw : Led), i + j = n → Inv i ys nw → LCg.CompRest prog w A h₀ L m env elt x scope cl s S' P Fin j i ys nw := by
    intro j
    induction j with
    | zero => intro i ys nw hi hI; exact LCg.CompRest.zero (fin ys nw (by rw [← hi]; exact hI))
    | succ j ih =>
      intro i ys nw hi hI
      refine LCg.CompRest.succ ?_
      intro v I oI C oC D m₂ h tk E' hv hC hx F N off ne
      refine wpAny_mono (turn i ys nw v I oI C oC D m₂ h tk E' (by (revert hi; kjx_bare; omega)) hv hI hC hx F N off ne) (fun y s₂ hq => ?_) fun _ _ e => e
      obtain ⟨h', tk', nw', e, F', N', off', hS, hn⟩ := hq
      exact ⟨h', tk', nw', e, F', N', off', hS, ih (i + 1) _ _ (by (revert hi; kjx_bare; omega)) hn⟩
  exact key n 0 [] news (by (kjx_bare; omega)) h0
end
def signOf : List Nat → List Nat
  | [] => []
  | c :: r => if c = 92 then r else c :: r
theorem units_len : ∀ l : List Nat, (unitsOf l).length ≤ l.length
  | [] => Nat.le_refl _
  | [c] => by simp [unitsOf]
  | c :: d :: r => by
    by_cases h : c = 92
    · subst h; rw [units_92]; have := units_len r; simp only [List.length_cons]; (revert this; kjx_bare; omega)
    · rw [units_else _ h]; have := units_len (d :: r); simp only [List.length_cons] at this ⊢; (revert this; kjx_bare; omega)
theorem units_flat : ∀ l : List Nat, (unitsOf l).flatten = l
  | [] => rfl
  | [c] => by simp [unitsOf]
  | c :: d :: r => by
    by_cases h : c = 92
    · subst h; rw [units_92]; simp [units_flat r]
    · rw [units_else _ h]; simp [units_flat (d :: r)]
theorem units_shape : ∀ l : List Nat, ∀ u ∈ unitsOf l, ∃ c r, u = c :: r ∧ r.length ≤ 1 ∧ (c ≠ 92 → r = [])
  | [], u, h => by simp [unitsOf] at h
  | [c], u, h => by simp [unitsOf] at h; subst h; exact ⟨c, [], rfl, by simp, fun _ => rfl⟩
  | c :: d :: r, u, h => by
    by_cases h9 : c = 92
    · subst h9; rw [units_92] at h
      rcases List.mem_cons.mp h with rfl | h
      · exact ⟨92, [d], rfl, by simp, fun e => absurd rfl e⟩
      · exact units_shape r u h
    · rw [units_else _ h9] at h
      rcases List.mem_cons.mp h with rfl | h
      · exact ⟨c, [], rfl, by simp, fun _ => rfl⟩
      · exact units_shape (d :: r) u h
end Mine
end
section
open PySem PySem.W PyProof.Rows PyProof
open PySem.Spec PySem.Calls
set_option maxRecDepth 100000
set_option maxHeartbeats 8000000
namespace Mine
section
variable {prog : Program} {w : World} {A₀ A : Around} {s : Shared} {base h₀ : Heap} {outer : List Env} {L : Addr} {m mg mb : Str → Option Value} {env : Env} {news : List (Addr × Obj)} {K : Frag} {p : Program} {loose : List Str} {mean : ExcName → Option Value}
/-- a def with cells is entered, and the tokens do not fall on the way in -/
theorem enter_tok {R : Result → Shared → Prop} {name qual : Str} {params : Arguments} {body : List Stmt} {scope : Scope} {dV kV doc pm cdv ct oc : Value} {an od : Option Addr} {osl : Array (Option Value)} {f : Addr} {args : Args} {binds : List (Str × Value)}
    (B : Below A₀ base outer h₀) (F : Fr h₀ L s.heap m) (X₀ : K.In h₀) (N : News h₀ L s.heap news) (T : Top p loose mean mg mb h₀) (hA : A.frames = some (env :: outer)) (hf : env.frame = some L) (hke : env.scope.kind = .function)
    (ho : K.lookup f = some ⟨oc, od, .func (fnOf name qual params body scope dV kV doc pm an cdv ct), osl⟩) (hcd : codeIn K cdv qual = true) (hroom : A.depth < recursionLimit)
    (hbind : BindsTo s (fnOf name qual params body scope dV kV doc pm an cdv ct) args binds) (hkind : (binds.all fun y => scope.names.lookup y.1 == some .local || scope.names.lookup y.1 == some .cell) = true)
    (hnd : ((cellsFrom 0 scope.names []).map (·.1)).Nodup)
    (h : ∀ g L' h₁ tk cells, s.toks ≤ tk → Fr h₀ L g m → Fr g L' h₁ (bindL (envOfC qual scope L' f cdv).kindOf binds fun _ => none) → News g L' h₁ (cells ++ news) →
      CellsAre (bindC (envOfC qual scope L' f cdv).kindOf binds fun _ => none) (cellsFrom (L' + 1) scope.names []) cells → Below A base (env :: outer) g → K.In g → Top p loose mean mg mb g → (∀ p ∈ news, p.1 < L') →
      wpAny (model prog w) (A.deeper (envOfC qual scope L' f cdv)) (execs body (envOfC qual scope L' f cdv))
        (fun fl s' => LeaveK h₀ L m g R (match fl with | .ret v => v | _ => .none) s')
        (fun e s' => wpAny (model prog w) (A.deeper (envOfC qual scope L' f cdv)) (leaving (envOfC qual scope L' f cdv) e) (fun _ s'' => R (.error e) s'') (fun e' s'' => R (.error e') s'') s')
        { s with heap := h₁, toks := tk })
    (hco : scope.isCoroutine = false) (hgen : scope.isGenerator = false) (hk : scope.kind = .function) : codeAny (model prog w) A (.call (.ref f) args) R s := by
  obtain ⟨FG, BG, st, lv⟩ := groundX (R := R) B F N hA hf hke
  have hX := X₀.keeps F.keep
  refine codeAny_call_function hroom (hX _ _ ho) rfl hco hgen rfl (codeRec_of hX hcd) (hbind _ _ _ _ ?_)
  refine wpAny_mono (wpAny_toks_of (Nat.le_refl s.toks) (wpAny_newFunctionEnv_cells hk (kindsX hkind _) fun env' he s' x => (⟨he, x⟩ : _ ∧ _))) (fun env' s' ⟨htk, he, x⟩ => ?_) fun _ _ e => e.2
  subst he
  refine ⟨(T.nolimit.keeps F.keep).keeps x.toInCall.keep, codeAny_func ?_⟩
  obtain ⟨h₁, tk, rfl, _⟩ := x.done
  have hk₁ := x.toInCall.keep
  have hnames := cellsFrom_names scope.names 0 (s.heap.objs.size + 1) [] [] rfl
  obtain ⟨cells, NC, Y⟩ := Cl.news (h₀ := s.heap) (Nat.le_refl _) fun n c hm => ⟨x.cell n c (lookup_of_mem_nodup (hnames ▸ hnd) hm), x.above n c hm⟩
  have hN : News (hideAll s.heap (news.map (·.1))) s.heap.objs.size h₁ (cells ++ news) := by
    intro q hq
    rcases List.mem_append.mp hq with hq | hq
    · refine ⟨(NC q hq).1, (NC q hq).2.1, ?_⟩
      cases e : (hideAll s.heap (news.map (·.1))).get? q.1 with
      | none => rfl
      | some o => have e2 := of_hideAll _ e; rw [(NC q hq).2.2] at e2; cases e2
    · exact ⟨hk₁ _ _ (N q hq).1, Nat.ne_of_lt (Heap.lt_size (N q hq).1), hideAll_none _ (List.mem_map_of_mem hq)⟩
  have hF : Fr (hideAll s.heap (news.map (·.1))) s.heap.objs.size h₁ (bindL (envOfC qual scope s.heap.objs.size f cdv).kindOf binds fun _ => none) := ⟨x.toInCall.ns, fun b o e => hk₁ b o (of_hideAll _ e), Nat.le_of_eq (hideAll_size _ _)⟩
  exact wpAny_mono (h _ s.heap.objs.size h₁ tk cells htk FG hF hN Y BG (X₀.keeps st) (T.keeps st) (fun q hq => Heap.lt_size (N q hq).1)) (fun fl s' hl => lv _ _ hl) fun _ _ y => y
end
end Mine
end
section
open PySem PySem.W PyProof.Rows PyProof
set_option maxRecDepth 100000
set_option maxHeartbeats 16000000
set_option pp.maxSteps 8000
set_option pp.deepTerms false
namespace Mine
section
variable {prog : Program} {w : World} {A : Around} {E : Value → Shared → Prop} {s : Shared} {h₀ : Heap} {L : Addr} {news : Led}
theorem post_add_k {s : Shared} {x y : Str} {t u : Tok} {Q : Value → Shared → Prop} (hsz : x.length + y.length ≤ sizeLine) (ht : @LT.lt Nat _ 0 t ∧ @LT.lt Nat _ t s.toks) (hu : @LT.lt Nat _ 0 u ∧ @LT.lt Nat _ u s.toks)
    (h : ∀ (t' k : Nat), 0 < t' → t' < k → s.toks ≤ k → Q (.str (x ++ y) t') { s with toks := k }) :
    (if x.length == 0 then Made.val (.str y u) else if y.length == 0 then Made.val (.str x t) else Made.str (x ++ y)).post Q s := by
  by_cases hx : (x.length == 0) = true
  · rw [if_pos hx]; have h' := h u s.toks hu.1 hu.2 (Nat.le_refl _); rw [Str.append_left_empty hx] at h'; exact h'
  · rw [if_neg hx]
    by_cases hy : (y.length == 0) = true
    · rw [if_pos hy]; have h' := h t s.toks ht.1 ht.2 (Nat.le_refl _); rw [Str.append_right_empty hy] at h'; exact h'
    · rw [if_neg hy]; exact ⟨by have e : (x ++ y).length = x.length + y.length := Str.length_append x y; rw [e]; exact hsz, h _ _ (Nat.lt_of_le_of_lt (Nat.zero_le _) ht.2) (Nat.lt_succ_self _) (Nat.le_succ _)⟩
theorem add_k {a b : List Nat} {t u : Tok} {Q : Value → Shared → Prop} (hz : a.length + b.length ≤ sizeLine) (ht : @LT.lt Nat _ 0 t ∧ @LT.lt Nat _ t s.toks) (hu : @LT.lt Nat _ 0 u ∧ @LT.lt Nat _ u s.toks)
    (h : ∀ (t' k : Nat), 0 < t' → t' < k → s.toks ≤ k → Q (.str (S (a ++ b)) t') { s with toks := k }) :
    wpAny (model prog w) A (binaryOp .Add (.str (S a) t) (.str (S b) u)) Q E s :=
  P.add_str (post_add_k (by rw [S_len, S_len]; exact hz) ht hu (by rw [S_app]; exact h))
theorem strValues_tv2 (us : List (List Nat × Nat)) : strValues (us.map fun p => (S p.1, p.2)) = tvals us := by
  induction us with
  | nil => rfl
  | cons p r ih => show _ :: strValues _ = _ :: tvals r; rw [ih]
theorem join_k {l n : Nat} {us : List (List Nat × Nat)} {t : Tok} {q : Str} {Q : Value → Shared → Prop} (hq : q = S []) (N : News h₀ L s.heap news) (h1 : (l, W.listOf (tvals us).toArray n) ∈ news) (hw : ((txts us).map (·.length)).sum + us.length ≤ 1048576)
    (hu : ∀ p ∈ us, 0 < p.2 ∧ p.2 < s.toks) (h0 : @LT.lt Nat _ 0 s.toks)
    (h : ∀ (t' k : Nat), 0 < t' → t' < k → s.toks ≤ k → Q (.str (S (txts us).flatten) t') { s with toks := k }) : wpAny (model prog w) A (call (.builtin "str.join") [.str q t, .ref l]) Q E s := by
  subst hq
  have ht : (us.map fun p => (S p.1, p.2)).map (·.1) = (txts us).map S := by simp [txts]
  have hok : JoinOk (S []) ((us.map fun p => (S p.1, p.2)).map (·.1)) = true := by
    rw [ht]
    refine joinOk_of ?_
    have e : ((txts us).map S).map (·.length) = (txts us).map (·.length) := by
      rw [List.map_map]; exact List.map_congr_left fun x _ => S_len x
    rw [e, List.length_map, txts_len, S_len]; show _ + _ * 0 ≤ _; (revert hw; kjx_bare; omega)
  have hok2 := hok
  unfold JoinOk at hok2
  rw [Bool.not_eq_true'] at hok2
  have hfl : Txt.join (S []) ((us.map fun p => (S p.1, p.2)).map (·.1)) = S (txts us).flatten := by rw [ht, join_S, joinL_nil_sep]
  have hfit := joinFit_length hok2
  refine call_meets PySem.F.slot_str_join (typeIs_str _ _ _) PySem.F.entry_str_join (PySem.F.args_str_join_2 _ _) (meets_str_join_list (S []) t l (us.map fun p => (S p.1, p.2)) hok2) ⟨by rw [strValues_tv2]; exact isList_of N h1, ?_⟩
  rw [← hfl] at h
  match us, hu, h, hfit with
  | [], _, h, hfit => exact ⟨hfit, h _ _ h0 (Nat.lt_succ_self _) (Nat.le_succ _)⟩
  | [p], hu, h, hfit => exact h p.2 s.toks (hu p (.head _)).1 (hu p (.head _)).2 (Nat.le_refl _)
  | _ :: _ :: _, _, h, hfit => exact ⟨hfit, h _ _ h0 (Nat.lt_succ_self _) (Nat.le_succ _)⟩
end
end Mine
end
section
open PySem PySem.W PyProof.Rows PyProof
set_option maxRecDepth 100000
set_option maxHeartbeats 16000000
set_option pp.maxSteps 8000
set_option pp.deepTerms false
namespace Mine
/-- a contract that also says what stands below the call -/
def CodeSpecB (w : World) (f : Nat) (vs : List Value) (kd ku : Nat) (ld : Led) (pre : Heap → Shared → Prop) (Post : Value → Led → Nat → Prop) : Prop :=
  ∀ (loose : List Str) (mean : ExcName → Option Value) (mg mb : Loc) (dp un : Nat) (gd : Option (List Code)) (cn : Str) (cs : Scope) (a : Nat) (ccd : Value) (cl : List (Str × Addr)) (outer : List Env) (A₀ : Around) (base h₀ : Heap) (L : Nat) (m : Loc) (s : Shared) (R : Result → Shared → Prop),
    Below A₀ base outer h₀ → Fr h₀ L s.heap m → (hd.heap_39 w.params).In h₀ → CodeHd base 134 130 → News h₀ L s.heap ld → Top topProg loose mean mg mb h₀ → cs.kind = .function →
    dp + kd < recursionLimit → un + ku < cLine → pre base s →
    (∀ v ld' h' tk', Post v ld' tk' → s.toks ≤ tk' → Fr h₀ L h' m → News h₀ L h' ld' → R (.ok (.ret v)) { s with heap := h', toks := tk' }) →
    codeAny (model PySem.Challenge.rw_wn0037_01.row.prog w) (ktrTop dp un gd cn cs L a ccd cl outer) (.call (.ref f) ⟨vs, []⟩) R s
theorem with_toks {α : Type} {M : Model} {A : Around} {t : Sem α} {Q : α → Shared → Prop} {E : Value → Shared → Prop} {s : Shared} {n : Nat} (hn : n ≤ s.toks) (h : wpAny M A t (fun a s' => n ≤ s'.toks → Q a s') E s) : wpAny M A t Q E s :=
  wpAny_mono (wpAny_toks_of hn h) (fun _ _ x => x.2 x.1) (fun _ _ x => x.2)
theorem fmod_nat (a b : Nat) : ((a : Int).fmod (b : Int)) = ((a % b : Nat) : Int) := by rw [Int.fmod_eq_emod_of_nonneg _ (by (kjx_bare; omega))]; rfl
theorem lit0 : Str.ofString "\"" = S [34] := by decide +kernel
theorem lit1 : Str.ofString "\\" = S [92] := by decide +kernel
theorem lit2 : Str.ofString "a" = S [97] := by decide +kernel
theorem lit3 : Str.ofString " " = S [32] := by decide +kernel
theorem lit4 : Str.ofString "\"\"" = S [34, 34] := by decide +kernel
theorem lit5 : Str.ofString "\n" = S [10] := by decide +kernel
theorem lit8 : Str.ofString "a\"\"\\\"" = S [97, 34, 34, 92, 34] := by decide +kernel
theorem lit9 : Str.ofString "\"\"\"" = S [34, 34, 34] := by decide +kernel
theorem fronts_at (k n : Nat) : ∃ (e : List Nat) (te : Nat), e.length ≤ 5 ∧ k ≤ te ∧ te ≤ k + 2 ∧ (#[Value.str (Str.ofString "a\"\"\\\"") k, Value.str (Str.ofString "") (k + 1), Value.str (Str.ofString "\"\"\"") (k + 1 + 1)] : Array Value)[((n : Int).fmod 3).toNat]? = some (.str (S e) te) := by
  have hfm : ((n : Int).fmod 3) = ((n % 3 : Nat) : Int) := fmod_nat _ 3
  rw [lit8, S_nil, lit9, hfm, Int.toNat_natCast]
  have h3 : n % 3 < 3 := Nat.mod_lt _ (by decide)
  generalize n % 3 = q at h3
  match q, h3 with
  | 0, _ => exact ⟨_, k, by decide, Nat.le_refl _, Nat.le_add_right _ _, rfl⟩
  | 1, _ => exact ⟨_, k + 1, by decide, Nat.le_add_right _ _, Nat.le_succ _, rfl⟩
  | 2, _ => exact ⟨_, k + 2, by decide, Nat.le_add_right _ _, Nat.le_refl _, rfl⟩
theorem pieces_at (k q : Nat) (hq : q < 8) : ∃ (e : List Nat) (te : Nat), e.length ≤ 2 ∧ k ≤ te ∧ te < k + 8 ∧ (#[Value.str (Str.ofString "\"") (k), Value.str (Str.ofString "\\") (k + 1), Value.str (Str.ofString "a") (k + 1 + 1), Value.str (Str.ofString " ") (k + 1 + 1 + 1), Value.str (Str.ofString "\"\"") (k + 1 + 1 + 1 + 1), Value.str (Str.ofString "\n") (k + 1 + 1 + 1 + 1 + 1), Value.str (Str.ofString "\\") (k + 1 + 1 + 1 + 1 + 1 + 1), Value.str (Str.ofString "\"") (k + 1 + 1 + 1 + 1 + 1 + 1 + 1)] : Array Value)[q]? = some (.str (S e) te) := by
  rw [lit0, lit1, lit2, lit3, lit4, lit5]
  match q, hq with
  | 0, _ => exact ⟨[34], k + 0, by decide, Nat.le_add_right _ _, Nat.add_lt_add_left (by decide) k, rfl⟩
  | 1, _ => exact ⟨[92], k + 1, by decide, Nat.le_add_right _ _, Nat.add_lt_add_left (by decide) k, rfl⟩
  | 2, _ => exact ⟨[97], k + 2, by decide, Nat.le_add_right _ _, Nat.add_lt_add_left (by decide) k, rfl⟩
  | 3, _ => exact ⟨[32], k + 3, by decide, Nat.le_add_right _ _, Nat.add_lt_add_left (by decide) k, rfl⟩
  | 4, _ => exact ⟨[34, 34], k + 4, by decide, Nat.le_add_right _ _, Nat.add_lt_add_left (by decide) k, rfl⟩
  | 5, _ => exact ⟨[10], k + 5, by decide, Nat.le_add_right _ _, Nat.add_lt_add_left (by decide) k, rfl⟩
  | 6, _ => exact ⟨[92], k + 6, by decide, Nat.le_add_right _ _, Nat.add_lt_add_left (by decide) k, rfl⟩
  | 7, _ => exact ⟨[34], k + 7, by decide, Nat.le_add_right _ _, Nat.add_lt_add_left (by decide) k, rfl⟩
section
local macro_rules | `(tactic| walk_at "execs cons") => `(tactic| ((refine execs_tk ?_); (try dsimp only); (try k_fold)))
local macro_rules | `(tactic| walk_at "execs nil") => `(tactic| (refine wpAny_execs_nil ?_))
local macro_rules | `(tactic| walk_at "eval ListComp") => `(tactic| refine halt ?_)
local macro_rules | `(tactic| walk_at "CompEnd") => `(tactic| refine halt ?_)
local macro_rules | `(tactic| walk_at "call builtin:len") => `(tactic| refine halt ?_)
local macro_rules | `(tactic| walk_at "call builtin:str.join") => `(tactic| refine halt ?_)
local macro_rules | `(tactic| walk_at "binaryOp Add str str") => `(tactic| refine halt ?_)
local macro_rules | `(tactic| walk_at "subscriptTail Name BinOp ref int") => `(tactic| refine halt ?_)
local macro_rules | `(tactic| walk_at "subscriptTail Name Slice ref ref") => `(tactic| refine halt ?_)
theorem texts_spec (w : World) (sl : Nat) (vs : List Value) (ns : List Int) (hi : IntsAre vs ns) (hz : ns.length ≤ 63) :
   CodeSpecB w 121 [.ref sl] 5 60 [((130 : Nat), tabObj #[])] (fun base s => base.IsList sl vs.toArray ∧ 0 < s.toks)
     (fun v ld' tk' => ∃ (D : Nat) (x0 x1 : List Nat) (t0 t1 : Nat), v = .ref D ∧ ld' = [(D, W.listOf #[.str (S x0) t0, .str (S x1) t1] 0), ((130 : Nat), tabObj #[])] ∧ 130 < D ∧ x0.length ≤ 100 ∧ x1.length ≤ 100 ∧ 0 < t1 ∧ t1 < tk') := by
  unfold CodeSpecB
  k_fill
  intro loose mean mg mb dp un gd cn cs a ccd cl outer A₀ base h₀ L m s R hB hF hX hC hN hT hk hd hu ⟨hl0, ht0⟩ hret
  refine codeAny_toks (Nat.le_refl s.toks) ?_
  k_dflt (refine' enter_tok ?k1 ?k2 ?k3 ?k4 ?k5 ?kA ?kF ?kK ?k6 ?k7 ?k8 ?k9 ?kB ?kD ?_ ?c2 ?c3 ?c4; (case kA => exact rfl); (case kF => exact rfl); (case kK => assumption); (case k1 => k_asm); (case k2 => k_asm); (case k3 => k_asm); (case k4 => k_asm); (case k5 => k_asm); (case k6 => k_is); (case k7 => k_is); (case k8 => k_room); (case k9 => first | exact BindsTo.of_eq rfl | exact binds_K (by k_in) rfl (by k_is) rfl rfl rfl | fail "k_enter: no rule for these arguments"); (case kB => exact rfl); (case kD => decide +kernel); (case c2 => exact rfl); (case c3 => exact rfl); (case c4 => exact rfl); k_whole; intro g' L' h' tk' cells' htk' FG' F' N' Y' B' X' T' l1; (try k_lt l1); k_cells Y'; (try simp only [List.cons_append, List.nil_append] at N'); (try dsimp only); (try k_lift B'); (try k_fold))
  (with_reducible rename Fr _ _ _ _ => F0); refine fr_let F0 ?_; clear F0; intro mk0 F0
  k_steps
  rename Fr _ _ _ _ => F
  rename News _ _ _ _ => N
  dsimp only [Halt]
  rename Heap.IsList g' _ _ => hl
  have hvl : vs.length = ns.length := IntsAre.length hi
  refine len_list (stays_list F.keep hl) (by rw [List.size_toArray]; (revert hz hvl; kjx_bare; omega)) ?_
  rw [show vs.toArray.size = ns.length by rw [List.size_toArray, hvl]]
  k_steps
  rename Fr _ _ _ _ => F
  rename News _ _ _ _ => N
  dsimp only [Halt]
  obtain ⟨e, te, hel, hte1, hte2, hex⟩ := fronts_at tk' ns.length
  have hfm : ((ns.length : Int).fmod 3) = ((ns.length % 3 : Nat) : Int) := fmod_nat _ 3
  refine item_list (isList_of (a := #[Value.str (Str.ofString "a\"\"\\\"") tk', Value.str (Str.ofString "") (tk' + 1), Value.str (Str.ofString "\"\"\"") (tk' + 1 + 1)]) (n := 0) N (.tail _ (.head _))) (by rw [hfm]; (revert hvl hfm; kjx_bare; omega)) (by rw [hfm]; (revert hvl hfm; kjx_bare; omega)) hex ?_
  k_steps
  rename Fr _ _ _ _ => F
  rename News _ _ _ _ => N
  dsimp only [Halt]
  refine with_toks (Nat.le_refl _) ?_
  k_dflt (refine LCg.ListComp_U F (by with_unfolding_all rfl) (by decide) (by rfl) (by decide) (by rfl) ?_)
  k_steps
  rename Fr _ _ _ _ => F
  rename News _ _ _ _ => N
  dsimp only [Halt]
  have hpc := pieces_at (tk' + 1 + 1 + 1 + 1)
  have htl : (vs.take 24).length ≤ 24 := by rw [List.length_take]; (revert hz hvl hfm; kjx_bare; omega)
  refine kmk_slice_lit (s := ⟨_, _, _, _, _⟩) (zs := vs.take 24) F N (stays_list F.keep hl) .none (.int _ _) (by rw [show (24 : Int) = ((24 : Nat) : Int) from rfl, pick_to_tv]) (fun D1 h20 F20 N20 hb20 => ?_) (by with_unfolding_all rfl) (by kmk_pure) (by rw [List.size_toArray, sizeLine_eq]; (revert hz hvl hfm; kjx_bare; omega))
  k_dflt (refine LCg.CompSrc.ledger (its := (vs.take 24).toArray) (by rfl) F20 N20 (.head _) (by rw [List.size_toArray, sizeLine_eq]; (revert htl; kjx_bare; omega)) ?_)
  intro g9
  refine comp_all (fun j ys nw => nw = _ ∧ ∃ zs : List (List Nat × Nat), ys = tvals zs ∧ zs.length = j ∧ ((txts zs).map (·.length)).sum ≤ 2 * j ∧ ∀ p ∈ zs, 0 < p.2 ∧ p.2 < tk' + 12) ⟨rfl, [], rfl, rfl, by simp [txts], fun p hp => nomatch hp⟩ ?_ ?_
  · rintro j ys nw v I oI C oC D m₂ h tk E' hj hv ⟨rfl, zs, rfl, hzl, hzs, hzt⟩ hC9 hx9 F21 N21 off ne
    obtain ⟨n, tn, rfl, hn⟩ := IntsAre.at (IntsAre.take hi 24) j v (by simpa using hv)
    (try clear F); (try clear N)
    simp only [LCg.Off3, and_true] at off
    show wpAny _ _ _ _ _ _
    k_fold
    k_steps
    dsimp only [Halt]
    have hn8 : n.fmod 8 = n % 8 := Int.fmod_eq_emod_of_nonneg _ (by decide)
    have hn1 := Int.emod_nonneg n (show (8 : Int) ≠ 0 by decide)
    have hn2 := Int.emod_lt_of_pos n (show (0 : Int) < 8 by decide)
    obtain ⟨e9, te9, h91, h92, h93, h94⟩ := hpc (n.fmod 8).toNat (by rw [hn8]; (kjx_bare; omega))
    refine item_list (isList_of (a := #[Value.str (Str.ofString "\"") (tk' + 1 + 1 + 1 + 1), Value.str (Str.ofString "\\") (tk' + 1 + 1 + 1 + 1 + 1), Value.str (Str.ofString "a") (tk' + 1 + 1 + 1 + 1 + 1 + 1), Value.str (Str.ofString " ") (tk' + 1 + 1 + 1 + 1 + 1 + 1 + 1), Value.str (Str.ofString "\"\"") (tk' + 1 + 1 + 1 + 1 + 1 + 1 + 1 + 1), Value.str (Str.ofString "\n") (tk' + 1 + 1 + 1 + 1 + 1 + 1 + 1 + 1 + 1), Value.str (Str.ofString "\\") (tk' + 1 + 1 + 1 + 1 + 1 + 1 + 1 + 1 + 1 + 1), Value.str (Str.ofString "\"") (tk' + 1 + 1 + 1 + 1 + 1 + 1 + 1 + 1 + 1 + 1 + 1)]) (n := 0) N21 (.tail _ (.tail _ (.tail _ (.tail _ (.head _)))))) (by rw [hn8]; (revert hn1; kjx_bare; omega)) (by rw [hn8]; (kjx_bare; omega)) h94 ?_
    k_steps
    dsimp only [Halt]
    refine LCg.CompEnd.intro F21 N21 _ (fun p hp => hp) ?_ (Or.inr ⟨W.listOf (vs.take 24).toArray 0, .head _, rfl, 0, rfl⟩) ⟨rfl, zs ++ [(e9, te9)], by simp [tvals], by rw [List.length_append, hzl]; rfl, by rw [txts_app, List.map_append, List.sum_append]; simp [txts] at hzs ⊢; (revert hzl h91 hzs; kjx_bare; omega), ?_⟩
    · simp only [LCg.Off3, and_true]; exact off
    · intro p hp
      rcases List.mem_append.mp hp with hp | hp
      · exact hzt p hp
      · rw [List.mem_singleton] at hp; subst hp; exact ⟨by dsimp only; (revert hte1 hte2 h92 h93; kjx_bare; omega), h93⟩
  · rintro ys nw ⟨rfl, zs, rfl, hzl, hzs, hzt⟩
    (try clear F); (try clear N)
    unfold LCg.FinE
    intro zl h22 tk22 F22 N22 off22
    simp only [LCg.Off1, and_true] at off22
    intro htk22
    dsimp only at htk22
    k_steps
    rename Fr _ _ _ _ => F
    rename News _ _ _ _ => N
    dsimp only [Halt]
    rw [List.size_toArray] at hzl hzs
    refine join_k (us := zs) (n := (tvals zs).length) S_nil N (.head _) (by (revert htl hzl hzs; kjx_bare; omega)) (fun p hp => ⟨(hzt p hp).1, by have h9 := (hzt p hp).2; dsimp only; (revert htk22 h9; kjx_bare; omega)⟩) (by dsimp only; (revert hte1 hte2 htk22; kjx_bare; omega)) (fun t23 k23 h231 h232 h233 => ?_)
    have hfl : (txts zs).flatten.length ≤ 48 := by rw [List.length_flatten]; show ((txts zs).map (·.length)).sum ≤ 48; (revert htl hzl hzs; kjx_bare; omega)
    k_steps
    rename Fr _ _ _ _ => F
    rename News _ _ _ _ => N
    dsimp only [Halt]
    refine add_k (by rw [sizeLine_eq]; (revert hel hfl; kjx_bare; omega)) ⟨by (revert ht0 htk' hte1 hte2; kjx_bare; omega), by dsimp only at *; (revert hte1 hte2 htk22 h233; kjx_bare; omega)⟩ ⟨h231, by dsimp only at *; (revert h232; kjx_bare; omega)⟩ (fun t24 k24 h241 h242 h243 => ?_)
    dsimp only at h243
    k_steps
    rename Fr _ _ _ _ => F
    rename News _ _ _ _ => N
    dsimp only [Halt]
    refine add_k (by rw [sizeLine_eq]; (revert hel hfl; kjx_bare; omega)) ⟨h231, by dsimp only at *; (revert h232 h243; kjx_bare; omega)⟩ ⟨by (revert ht0 htk' hte1 hte2; kjx_bare; omega), by dsimp only at *; (revert hte1 hte2 htk22 h233 h243; kjx_bare; omega)⟩ (fun t25 k25 h251 h252 h253 => ?_)
    dsimp only at h253
    k_steps
    rename News h₀ L _ _ => kN
    rename Fr h₀ L _ m => kF
    exact hret _ [(_, W.listOf #[Value.str (S (e ++ (txts zs).flatten)) t24, Value.str (S ((txts zs).flatten ++ e)) t25] 0), ((130 : Nat), tabObj #[])] _ _ ⟨_, e ++ (txts zs).flatten, (txts zs).flatten ++ e, t24, t25, rfl, rfl, by omega, by rw [List.length_append]; (revert hel hfl; kjx_bare; omega), by rw [List.length_append]; (revert hel hfl; kjx_bare; omega), h251, h252⟩ (by assumption) kF (news_sub kN (by kst_in))
end
end Mine
end
section
open PySem PySem.W PyProof.Rows PyProof
set_option maxRecDepth 100000
set_option maxHeartbeats 8000000
namespace Mine
theorem lk_list_gi : typeLookup (.type "list") "__getitem__" = pure (some (.builtin "list.__getitem__")) := by rw [typeLookup_type, builtinLookup_eq_fast]; kernel_rfl
theorem lk_list_getattr : typeLookup (.type "list") "__getattribute__" = pure (some (.builtin "list.__getattribute__")) := PySem.F.slot_list_getattribute.lookup
theorem typeOf_gi : typeOf (.builtin "list.__getitem__") = pure (.type "method_descriptor") := by show builtinType _ = _; rw [builtinType_eq_fast]; kernel_rfl
theorem slot_wd_get : Slot "method_descriptor" "__get__" "method_descriptor.__get__" :=
  .of (owner := "method_descriptor") (n := "__get__") (by rw [typeLookup_type, builtinLookup_eq_fast]; kernel_rfl) (by decide +kernel) (by decide +kernel) (by decide +kernel)
    (by first | exact .inl (by decide +kernel) | exact .inr (by decide +kernel)) (by rw [isSubtype_type]; kernel_rfl)
theorem lk_wd_set : typeLookup (.type "method_descriptor") "__set__" = pure none := by rw [typeLookup_type, builtinLookup_eq_fast]; kernel_rfl
theorem lk_wd_del : typeLookup (.type "method_descriptor") "__delete__" = pure none := by rw [typeLookup_type, builtinLookup_eq_fast]; kernel_rfl
theorem entry_wd_get : entryFor table "method_descriptor.__get__" = some Builtin.«method_descriptor.__get__» := entryFor_of_tree (by kernel_rfl)
theorem args_wd_get (a b c : Value) : argsOk "method_descriptor.__get__" ⟨[a, b, c], []⟩ := by unfold argsOk; kernel_rfl
theorem sub_list_gi : isSubtype (.type "list") (.type (".".intercalate ("list.__getitem__".cutAt '.').dropLast)) = pure true := by
  have e0 : "list.__getitem__".cutAt '.' = ["list", "__getitem__"] := by first | rfl | decide +kernel
  rw [e0, show ".".intercalate (["list", "__getitem__"] : List String).dropLast = "list" by decide +kernel, isSubtype_type]; kernel_rfl
theorem told_gi : Manifest.toldItsClass.contains "list.__getitem__" = false := by kernel_rfl
end Mine
end
section
open PySem PySem.W PyProof.Rows PyProof
set_option maxRecDepth 100000
set_option maxHeartbeats 8000000
namespace Mine
section
variable {prog : Program} {w : World} {A : Around} {E : Value → Shared → Prop} {h : Heap} {g : Array GenState} {d : Drawn} {t : Nat} {os : OsState} {a : Addr} {o : Obj}
theorem gi_get {R : Result → Shared → Prop} (hx : h.get? a = some o) (hc : o.cls = .type "list") (hq : ∀ b h', (∀ p q, h.get? p = some q → h'.get? p = some q) → R (.ok (.ret (.ref b))) ⟨h', g, d, t, os⟩) :
    codeAny (model prog w) A (.call (.builtin "method_descriptor.__get__") ⟨[.builtin "list.__getitem__", .ref a, .type "list"], []⟩) R ⟨h, g, d, t, os⟩ := by
  have hT : (⟨h, g, d, t, os⟩ : Shared).TypeIs (.ref a) "list" := ⟨_, hx, hc⟩
  have hT5 : (⟨h, g, d, t, os⟩ : Shared).TypeIs (.builtin "list.__getitem__") "method_descriptor" := typeOf_gi
  have f8 := sub_list_gi
  have f9 := told_gi
  refine codeAny_call_builtin slot_wd_get.plain entry_wd_get (slot_wd_get.check _ _ _ _ _ _ _ _ hT5 (args_wd_get _ _ _) ?_)
  iterate 32 (all_goals (first | assumption | wp_step | skip))
  exact hq _ _ (fun p q e => Heap.get?_push_of_some _ e)
end
end Mine
end
section
open PySem PySem.W PyProof.Rows PyProof
set_option maxRecDepth 100000
set_option maxHeartbeats 8000000
namespace Mine
section
variable {prog : Program} {w : World} {A : Around} {E : Value → Shared → Prop} {h : Heap} {g : Array GenState} {d : Drawn} {t : Nat} {os : OsState} {a : Addr} {o : Obj}
theorem gi_entry {arr : Array Value} {n : Nat} {tk : Tok} {Q : Fin → Shared → Prop} (hx : h.get? a = some (W.listOf arr n)) (hq : ∀ b h', (∀ p q, h.get? p = some q → h'.get? p = some q) → Q (.done (.ret (.ref b))) ⟨h', g, d, t, os⟩) :
    wpAny (model prog w) A (Builtin.«object.__getattribute__» ⟨[.ref a, .str (Str.ofString "__getitem__") tk], []⟩) Q E ⟨h, g, d, t, os⟩ := by
  have hT : (⟨h, g, d, t, os⟩ : Shared).TypeIs (.ref a) "list" := ⟨_, hx, rfl⟩
  have hT5 : (⟨h, g, d, t, os⟩ : Shared).TypeIs (.builtin "list.__getitem__") "method_descriptor" := typeOf_gi
  have f4 := lk_list_gi
  have f5 := typeOf_gi
  have f6 := slot_wd_get.lookup
  have f7 := lk_wd_set
  have f8 := lk_wd_del
  iterate 60 (all_goals (first | assumption | wp_step | skip))
  refine gi_get hx rfl fun b h' hk => ?_
  exact wpAny_pure (hq b h' hk)
theorem gi_call {arr : Array Value} {n : Nat} {tk : Tok} {R : Result → Shared → Prop} (hx : h.get? a = some (W.listOf arr n)) (hq : ∀ b h', (∀ p q, h.get? p = some q → h'.get? p = some q) → R (.ok (.ret (.ref b))) ⟨h', g, d, t, os⟩) :
    codeAny (model prog w) A (.call (.builtin "list.__getattribute__") ⟨[.ref a, .str (Str.ofString "__getitem__") tk], []⟩) R ⟨h, g, d, t, os⟩ :=
  codeAny_call_builtin PySem.F.slot_list_getattribute.plain PySem.F.entry_list_ga (PySem.F.slot_list_getattribute.check _ _ _ _ _ _ _ _ (show (⟨h, g, d, t, os⟩ : Shared).TypeIs (.ref a) "list" from ⟨_, hx, rfl⟩) (PySem.F.args_list_getattribute_2 _ _) (gi_entry hx fun b h' hk => hq b h' hk))
theorem gi_by {arr : Array Value} {n : Nat} {tk : Tok} {Q : Value → Shared → Prop} (hx : h.get? a = some (W.listOf arr n)) (hq : ∀ b h', (∀ p q, h.get? p = some q → h'.get? p = some q) → Q (.ref b) ⟨h', g, d, t, os⟩) : wpAny (model prog w) A (getAttrBy (.ref a) (.str (Str.ofString "__getitem__") tk) false) Q E ⟨h, g, d, t, os⟩ := by
  have hT : (⟨h, g, d, t, os⟩ : Shared).TypeIs (.ref a) "list" := ⟨_, hx, rfl⟩
  have f2 := PySem.F.slot_list_getattribute.lookup
  have f3 := PySem.F.slot_list_getattribute.bind (.ref a)
  iterate 40 (all_goals (first | assumption | wp_step | skip))
  refine gi_call hx fun b h' hk => ?_
  iterate 6 (all_goals (first | exact hq b h' hk | wp_step | skip))
theorem args_hasattr (a b : Value) : argsOk "hasattr" ⟨[a, b], []⟩ := by unfold argsOk; kernel_rfl
theorem entry_hasattr : entryFor table "hasattr" = some Builtin.«hasattr» := entryFor_of_tree (by kernel_rfl)
theorem sub_list_module : isSubtype (.type "list") (.type "module") = pure false := by rw [isSubtype_type]; kernel_rfl
theorem hasattr_entry {arr : Array Value} {n : Nat} {tk : Tok} {Q : Value → Shared → Prop} (hx : h.get? a = some (W.listOf arr n)) (hq : ∀ h', (∀ p q, h.get? p = some q → h'.get? p = some q) → Q (.bool true) ⟨h', g, d, t, os⟩) :
    wpAny (model prog w) A (call (.builtin "hasattr") [.ref a, .str (Str.ofString "__getitem__") tk]) Q E ⟨h, g, d, t, os⟩ := by
  have hT : (⟨h, g, d, t, os⟩ : Shared).TypeIs (.ref a) "list" := ⟨_, hx, rfl⟩
  have f4 := lk_list_gi
  have f5 := lk_list_getattr
  have f6 := sub_list_module
  refine Calls.call_function_entry (by decide +kernel) (by decide +kernel) entry_hasattr (args_hasattr _ _) ?_
  unfold Builtin.«hasattr»
  iterate 52 (all_goals (first | assumption | with_reducible refine gi_by hx fun b h' hk => ?_ | wp_step | skip))
  exact ⟨_, rfl, hq h' hk⟩
end
end Mine
end
section
open PySem PySem.W PyProof.Rows PyProof
set_option maxRecDepth 100000
set_option maxHeartbeats 16000000
set_option pp.maxSteps 8000
set_option pp.deepTerms false
namespace Mine
section
local macro_rules | `(tactic| walk_at "execs cons") => `(tactic| ((refine execs_tk ?_); (try dsimp only); (try k_fold)))
local macro_rules | `(tactic| walk_at "execs nil") => `(tactic| (refine wpAny_execs_nil ?_))
local macro_rules | `(tactic| walk_at "call builtin:hasattr") => `(tactic| refine halt ?_)
local macro_rules | `(tactic| walk_at "binaryOp Add ref ref") => `(tactic| refine halt ?_)
theorem concat_spec (w : World) (al bl n n' : Nat) (us vs : List (List Nat × Nat)) (own : Led) (h1 : (al, W.listOf (tvals us).toArray n) ∈ own) (h2 : (bl, W.listOf (tvals vs).toArray n') ∈ own) (hz : us.length + vs.length ≤ 900) :
   CodeSpec w 102 [.ref al, .ref bl] 3 20 own (fun _ => True)
     (fun v ld' => ∃ D : Nat, v = .ref D ∧ ld' = (D, W.listOf (tvals (us ++ vs)).toArray 0) :: own ∧ AllBelow D own) := by
  unfold CodeSpec
  k_fill
  intro loose mean mg mb dp un gd cn cs a ccd cl outer A₀ base h₀ L m s R hB hF hKX hC hN hT hk hd hu _ hret
  refine codeAny_toks (Nat.le_refl s.toks) ?_
  k_dflt cell_enter
  k_steps
  rename Fr _ _ _ _ => F
  rename News _ _ _ _ => N
  dsimp only [Halt]
  refine hasattr_entry (N _ h1).1 fun h' hk' => ?_
  have F2 := F.keeps hk'
  have N2 := N.grown hk'
  (try clear F); (try clear N)
  k_steps
  rename Fr _ _ _ _ => F
  rename News _ _ _ _ => N
  dsimp only [Halt]
  refine kmk_add_lit F N (isList_of N h1) (isList_of N h2) (zs := tvals (us ++ vs)) (by simp [tvals]) (fun D h3 F3 N3 hb => ?_) (by simp [tvals, sizeLine_eq]; (revert hz; kjx_bare; omega))
  (try clear F); (try clear N)
  k_steps
  exact hret _ _ _ _ ⟨D, rfl, rfl, hb⟩ (by first | assumption | (dsimp only at *; omega)) (by assumption) (by assumption)
end
end Mine
end
section
open PySem PySem.W PyProof.Rows PyProof
set_option maxRecDepth 100000
set_option maxHeartbeats 8000000
namespace Mine
def rngObj (x left : Int) : Obj := { cls := .type "range_iterator", dict := none, data := .fields #[rawInt x, rawInt left, rawInt 1], slots := #[] }
section
variable {prog : Program} {w : World} {A : Around} {E : Value → Shared → Prop} {Q : Flow → Shared → Prop} {s : Shared} {env : Env} {h₀ : Heap} {L : Addr}
theorem for_rng {σ : Type} {x : Str} {px : Pos} {it n : Nat} {body : List Stmt} {m₀ : Loc} (ld : Led) (ps : σ → List (Str × Value)) (stored : List Str) (P : Nat → σ → Nat → Prop) (c₀ : σ) {R : Result → Shared → Prop}
    (hh : A.handled = none) (hx : env.kindOf x = some .local) (hpl : (env.scope.kind == .class || (env.scope.kind == .module && env.locals != env.globals)) = false) (hL : env.locals = L)
    (F : Fr h₀ L s.heap m₀) (N : News h₀ L s.heap ld) (hit : s.heap.get? it = some (rngObj 0 n)) (hi0 : h₀.get? it = none) (hiL : it ≠ L) (hoff : ∀ p ∈ ld, p.1 ≠ it) (hk : ∀ p ∈ ps c₀, m₀ p.1 = some p.2) (hp : P 0 c₀ s.toks)
    (turn : ∀ (c : σ) (i : Nat) (u : Loc) h (tk tk' t : Nat), i < n → P i c tk → tk ≤ t → t < tk' → Fr h₀ L h (fun y => if y = x then some (.int (i : Int) t) else kstB (fun z => if stored.contains z then u z else m₀ z) (ps c) y) → News h₀ L h ((it, rngObj ((i : Int) + 1) ((n : Int) - i - 1)) :: ld) →
      wpAny (model prog w) A (execs body env) (fun f s₃ => tk' ≤ s₃.toks → ForEnd h₀ L s x (it, rngObj ((i : Int) + 1) ((n : Int) - i - 1)) (fun _ => ld) ps stored m₀ (P (i + 1)) Q f s₃) E { s with heap := h, toks := tk' })
    (done : ∀ (c : σ) (u : Loc) h tk, P n c tk → s.toks ≤ tk → Fr h₀ L h (fun y => if y = x then u y else kstB (fun z => if stored.contains z then u z else m₀ z) (ps c) y) → News h₀ L h ld → Q .next { s with heap := h, toks := tk })
    (hR : ∀ f s', Q f s' → R (.ok f) s') (hEE : ∀ e s', E e s' → notedBy (model prog w) A env (fun e s' => R (.error e) s') e s') :
    codeAny (model prog w) A (.forLoop (.Name x px) (.ref it) body [] env) R s := by
  subst hL
  refine for_rule (Q := Q) (E := E) (fun (c : Nat × σ) h tk => s.toks ≤ tk ∧ ∃ m, h.get? it = some (rngObj c.1 ((n : Int) - c.1)) ∧ Fr h₀ env.locals h m ∧ News h₀ env.locals h ld ∧ (∀ p ∈ ps c.2, m p.1 = some p.2) ∧ (∀ z, z ≠ x → (∀ p ∈ ps c.2, z ≠ p.1) → stored.contains z = false → m z = m₀ z) ∧ P c.1 c.2 tk ∧ c.1 ≤ n)
    (fun c => n + 1 - c.1) (0, c₀) ⟨Nat.le_refl _, m₀, by simpa using hit, F, N, hk, fun _ _ _ _ => rfl, hp, Nat.zero_le _⟩ ?_ hR hEE
  rintro ⟨i, c⟩ h tk ⟨hle, m, hio, F1, N1, h1, h2, hP, hi⟩
  dsimp only at hio N1 h1 h2 hP hi ⊢
  by_cases hlt : i < n
  · refine wpAny_pyNext_range_item (s := { s with heap := h, toks := tk }) (it := it) (x := i) (left := (n : Int) - i) (step := 1) hio (by (revert hlt; kjx_bare; omega)) fun h' hit' hsb => ?_
    have F2 := fr_same F1 hsb (Ne.symm hiL) hi0
    have N2 : News h₀ env.locals h' ((it, rngObj ((i : Int) + 1) ((n : Int) - i - 1)) :: ld) := fun p hp' => by
      rcases List.mem_cons.mp hp' with rfl | hp'
      · exact ⟨hit', hiL, hi0⟩
      · exact news_same N1 hsb hoff p hp'
    refine wpAny_storeName_local hx F2.ns (fun h3 hn3 hs3 => ?_) hpl
    have F3 : Fr h₀ env.locals h3 _ := F2.set hn3 hs3
    have N3 := N2.set hs3
    refine wpAny_mono (wpAny_toks_of (n := tk + 1 + 1) (Nat.le_refl _) (turn c i m h3 tk (tk + 1 + 1) tk hlt hP (Nat.le_refl _) (by (kjx_bare; omega)) (kst_fr h1 h2 F3) N3)) (fun f s₃ q => ?_) fun _ _ x => x.2
    obtain ⟨hle3, q⟩ := q
    replace q := q hle3
    cases f with
    | ret v => exact q
    | brk => exact q
    | next => obtain ⟨c', h9, tk9, m9, news9, rfl, F9, N9, hn, hk9, hr9, hp9⟩ := q; exact ⟨(i + 1, c'), h9, tk9, rfl, by dsimp only; (revert hlt; kjx_bare; omega), by dsimp only at hle3; (revert hle hle3; kjx_bare; omega), m9, by have := (N9 _ (hn _ (.head _))).1; rw [show ((i + 1 : Nat) : Int) = (i : Int) + 1 by push_cast; rfl, show (n : Int) - ((i : Int) + 1) = (n : Int) - i - 1 by (kjx_bare; omega)]; exact this, F9, fun p hp' => N9 p (hn p (.tail _ hp')), hk9, hr9, hp9, hlt⟩
    | cont => obtain ⟨c', h9, tk9, m9, news9, rfl, F9, N9, hn, hk9, hr9, hp9⟩ := q; exact ⟨(i + 1, c'), h9, tk9, rfl, by dsimp only; (revert hlt; kjx_bare; omega), by dsimp only at hle3; (revert hle hle3; kjx_bare; omega), m9, by have := (N9 _ (hn _ (.head _))).1; rw [show ((i + 1 : Nat) : Int) = (i : Int) + 1 by push_cast; rfl, show (n : Int) - ((i : Int) + 1) = (n : Int) - i - 1 by (kjx_bare; omega)]; exact this, F9, fun p hp' => N9 p (hn p (.tail _ hp')), hk9, hr9, hp9, hlt⟩
  · have hsz : i = n := by (revert hi hlt; kjx_bare; omega)
    subst hsz
    refine wpAny_pyNext_range_end (s := { s with heap := h, toks := tk }) (it := it) (x := i) (left := (i : Int) - i) (step := 1) hh hio (by (kjx_bare; omega)) fun h' he => wpAny_execs_nil ?_
    exact done c m h' tk hP hle (kst_frOut h1 h2 (fr_ext F1 he (Ne.symm hiL) hi0)) (news_ext N1 he hoff)
end
end Mine
end
section
open PySem PySem.W PyProof.Rows PyProof
set_option maxRecDepth 100000
namespace Mine
def qc : List Nat → List Nat × List Nat
  | [] => ([], [])
  | [c] => if c = 34 ∨ c = 92 then ([], []) else ([c], [])
  | c :: d :: r => if c = 34 then ([], d :: r) else if c = 92 then (d :: (qc r).1, (qc r).2) else (c :: (qc (d :: r)).1, (qc (d :: r)).2)
theorem qc_34 (r : List Nat) : qc (34 :: r) = ([], r) := by cases r <;> simp [qc]
theorem qc_92 (d : Nat) (r : List Nat) : qc (92 :: d :: r) = (d :: (qc r).1, (qc r).2) := by simp [qc]
theorem qc_921 : qc [92] = ([], []) := by simp [qc]
theorem qc_else {c : Nat} (r : List Nat) (h1 : c ≠ 34) (h2 : c ≠ 92) : qc (c :: r) = (c :: (qc r).1, (qc r).2) := by cases r <;> simp [qc, h1, h2]
theorem qr_qc : ∀ rem : List (Nat × Nat), (qr rem).1 = (qc (rem.map (·.1))).1 ∧ (qr rem).2.map (·.1) = (qc (rem.map (·.1))).2
  | [] => ⟨rfl, rfl⟩
  | [(c, t)] => by
    by_cases h1 : c = 34
    · subst h1; simp [qr_34, qc_34]
    · by_cases h2 : c = 92
      · subst h2; simp [qr_921, qc_921]
      · simp [qr, qc, h1, h2]
  | (c, t) :: (d, u) :: r => by
    have ih1 := qr_qc r
    have ih2 := qr_qc ((d, u) :: r)
    by_cases h1 : c = 34
    · subst h1; simp [qr_34, qc_34]
    · by_cases h2 : c = 92
      · subst h2; rw [qr_92]
        show _ = (qc (92 :: d :: r.map (·.1))).1 ∧ _ = (qc (92 :: d :: r.map (·.1))).2
        rw [qc_92]; simp [ih1.1, ih1.2]
      · rw [qr_else _ _ h1 h2]
        show _ = (qc (c :: ((d, u) :: r).map (·.1))).1 ∧ _ = (qc (c :: ((d, u) :: r).map (·.1))).2
        rw [qc_else _ h1 h2]
        exact ⟨by rw [ih2.1], ih2.2⟩
theorem units_qc : ∀ (l : List Nat) (k : Nat), (unitsOf l ++ [[34]])[k]? = some [34] → (∀ j, j < k → (unitsOf l ++ [[34]])[j]? ≠ some [34]) →
    (qc l).1 = (((unitsOf l).map signOf).take k).flatten ∧ (qc l).2 = ((unitsOf l).drop (k + 1)).flatten
  | [], k, h1, h2 => by
    cases k with
    | zero => exact ⟨rfl, rfl⟩
    | succ k => simp [unitsOf] at h1
  | [c], k, h1, h2 => by
    by_cases hc : c = 34
    · subst hc
      cases k with
      | zero => simp [unitsOf, qc]
      | succ k => exact absurd rfl (h2 0 (Nat.zero_lt_succ _))
    · have hu : unitsOf [c] = [[c]] := by simp [unitsOf]
      rw [hu] at h1 h2 ⊢
      cases k with
      | zero => simp at h1; exact absurd h1 hc
      | succ k =>
        by_cases h9 : c = 92
        · subst h9; simp [qc, signOf]
        · simp [qc, hc, h9, signOf]
  | c :: d :: r, k, h1, h2 => by
    by_cases hc : c = 34
    · subst hc
      rw [units_else _ (by decide)] at h1 h2 ⊢
      cases k with
      | zero => rw [qc_34]; simp [units_flat]
      | succ k => exact absurd rfl (h2 0 (Nat.zero_lt_succ _))
    · by_cases h9 : c = 92
      · subst h9
        rw [units_92] at h1 h2 ⊢
        cases k with
        | zero => simp at h1
        | succ k =>
          have ih := units_qc r k h1 (fun j hj => h2 (j + 1) (Nat.succ_lt_succ hj))
          rw [qc_92]; simp [ih.1, ih.2, signOf]
      · rw [units_else _ h9] at h1 h2 ⊢
        cases k with
        | zero => simp at h1; exact absurd h1 hc
        | succ k =>
          have ih := units_qc (d :: r) k h1 (fun j hj => h2 (j + 1) (Nat.succ_lt_succ hj))
          rw [qc_else _ hc h9]; simp [ih.1, ih.2, signOf, h9]
def meantOf (u : List Nat) : List Nat := if u = [34] then [34, 32] else if signOf u = [34] then [34, 34] else signOf u
theorem ps_meant : ∀ (us : List (List Nat)) (k : Nat), (∀ u ∈ us, ∃ c r, u = c :: r ∧ r.length ≤ 1 ∧ (c ≠ 92 → r = [])) → (us ++ [[34]])[k]? = some [34] → (∀ j, j < k → (us ++ [[34]])[j]? ≠ some [34]) →
    ps (us.map meantOf).flatten = ((us.map signOf).take k).flatten
  | [], k, _, h1, h2 => by
    cases k with
    | zero => simp [ps]
    | succ k => simp at h1
  | u :: us, k, hs, h1, h2 => by
    obtain ⟨c, r, rfl, hr, hcr⟩ := hs u (.head _)
    cases k with
    | zero =>
      have e : c :: r = [34] := by simpa using h1
      rw [e]
      simp [meantOf, ps]
    | succ k =>
      have hne : c :: r ≠ [34] := fun e => h2 0 (Nat.zero_lt_succ _) (by rw [e]; rfl)
      have ih := ps_meant us k (fun u hu => hs u (.tail _ hu)) h1 (fun j hj => h2 (j + 1) (Nat.succ_lt_succ hj))
      simp only [List.map_cons, List.flatten_cons, List.take_succ_cons]
      rw [← ih]
      unfold meantOf
      rw [if_neg hne]
      by_cases h9 : c = 92
      · subst h9
        cases r with
        | nil => simp [signOf]
        | cons d r =>
          have : r = [] := by cases r with | nil => rfl | cons _ _ => simp at hr
          subst this
          by_cases hd4 : d = 34
          · subst hd4; simp [signOf, ps]
          · simp [signOf, hd4, ps_ne]
      · have : r = [] := hcr h9
        subst this
        have hc4 : c ≠ 34 := fun e => hne (by rw [e])
        simp [signOf, h9, hc4, ps_ne]
end Mine
end
section
open PySem PySem.W PyProof.Rows PyProof
set_option maxRecDepth 100000
set_option maxHeartbeats 16000000
set_option pp.maxSteps 8000
set_option pp.deepTerms false
namespace Mine
theorem add_to {prog : Program} {w : World} {A : Around} {E : Value → Shared → Prop} {s : Shared} {a b : Str} {l : List Nat} {t u : Tok} {Q : Value → Shared → Prop} (e : a ++ b = S l) (hz : a.length + b.length ≤ sizeLine) (h : ∀ t' k, Q (.str (S l) t') { s with toks := k }) :
    wpAny (model prog w) A (binaryOp .Add (.str a t) (.str b u)) Q E s := SBL.add (fun t' k _ => by rw [e]; exact h t' k) hz
theorem slice_eq_sn {prog : Program} {w : World} {A : Around} {E : Value → Shared → Prop} {s : Shared} {value slice : Expr} {x y : Str} {t : Tok} {h₀ : Heap} {L : Addr} {m : Loc} {news : Led} {Q : Value → Shared → Prop} {i : Int} {ui : Tok} (hF : Fr h₀ L s.heap m) (hN : News h₀ L s.heap news) (e : Txt.slice x (some i) none = y) (h : ∀ h' t' k, Fr h₀ L h' m → News h₀ L h' news → Q (.str y t') { s with heap := h', toks := k })
    (hs : subscripted slice false (.str x t) (.ref s.heap.objs.size) = operate [.ref s.heap.objs.size, .str x t] (getItem (.str x t) (.ref s.heap.objs.size)) := by with_unfolding_all rfl)
    (ht : ∀ r, letTemporaryGo value (.str x t) r = pure () := by intro _; with_unfolding_all rfl) (hsz : x.length ≤ sizeLine := by size_fits) :
    wpAny (model prog w) A (subscriptTail value slice (.str x t) (.ref s.heap.objs.size)) Q E { s with heap := s.heap.push { cls := .type "slice", data := .fields #[.int i ui, .none, .none] } } :=
  slice_strN_sn hF hN (fun h' t' k a b => e ▸ h h' t' k a b) hs ht hsz
theorem iadd_to {prog : Program} {w : World} {A : Around} {E : Value → Shared → Prop} {s : Shared} {a b : Str} {l : List Nat} {t u : Tok} {Q : Value → Shared → Prop} (e : a ++ b = S l) (hz : a.length + b.length ≤ sizeLine) (h : ∀ t' k, Q (.str (S l) t') { s with toks := k }) :
    wpAny (model prog w) A (inplaceOp .Add (.str a t) (.str b u)) Q E s := SBL.iadd (fun t' k _ => by rw [e]; exact h t' k) hz
theorem small_nat (n : Nat) (h : n ≤ 1000) : Builtin.Range.small 0 (n : Int) 1 = true := small_one (by decide) (by decide) (by (revert h; kjx_bare; omega)) (by (revert h; kjx_bare; omega))
theorem size_nat (n : Nat) : Builtin.Range.rangeSize 0 (n : Int) 1 = (n : Int) := by
  have := rangeSize_nat 0 n
  simpa using this
theorem join_tvq {prog : Program} {w : World} {A : Around} {E : Value → Shared → Prop} {s : Shared} {h₀ : Heap} {L : Addr} {news : Led} {Q : Value → Shared → Prop} {l n : Nat} {us : List (List Nat × Nat)} {q : Str} {sep : List Nat} {t : Tok} (hq : q = S sep) (N : News h₀ L s.heap news) (h1 : (l, W.listOf (tvals us).toArray n) ∈ news) (hs : sep.length ≤ 16) (hw : ((txts us).map (·.length)).sum + us.length ≤ 1048576)
    (h : ∀ t' k, Q (.str (S (joinL sep (txts us))) t') { s with toks := k }) : wpAny (model prog w) A (call (.builtin "str.join") [.str q t, .ref l]) Q E s := by
  subst hq; exact join_tv N h1 hs hw h
theorem ne_same {prog : Program} {w : World} {A : Around} {E : Value → Shared → Prop} {s : Shared} {h₀ : Heap} {L : Addr} {news : Led} {Q : Value → Shared → Prop} {l l' n n' : Nat} {a b : List (Nat × Nat)} (he : a.map (·.1) = b.map (·.1)) (N : News h₀ L s.heap news) (h1 : (l, W.listOf (vals a).toArray n) ∈ news) (h2 : (l', W.listOf (vals b).toArray n') ∈ news) (hu : A.units < cLine) (h : Q (.bool false) s) :
    wpAny (model prog w) A (compareOp .NotEq (.ref l) (.ref l')) Q E s := by
  rw [vals_tv] at h1 h2
  refine ne_tv N h1 h2 hu ?_
  rw [txts_ch, txts_ch, he]; simpa using h
theorem sum_take (ls : List (List Nat)) (k : Nat) : ((ls.take k).map (·.length)).sum ≤ (ls.map (·.length)).sum := by
  have := List.take_append_drop k ls
  rw [← this, List.map_append, List.sum_append]; simp
theorem sum_drop (ls : List (List Nat)) (k : Nat) : ((ls.drop k).map (·.length)).sum ≤ (ls.map (·.length)).sum := by
  have := List.take_append_drop k ls
  rw [← this, List.map_append, List.sum_append]; simp
theorem sum_units (l : List Nat) : ((unitsOf l).map (·.length)).sum = l.length := by
  have := congrArg List.length (units_flat l)
  rwa [List.length_flatten] at this
theorem sum_signs : ∀ us : List (List Nat), ((us.map signOf).map (·.length)).sum ≤ (us.map (·.length)).sum
  | [] => Nat.le_refl _
  | u :: r => by
    have h1 := sum_signs r
    have h2 : (signOf u).length ≤ u.length := by
      cases u with
      | nil => simp [signOf]
      | cons c r => by_cases h : c = 92 <;> simp [signOf, h]
    simp only [List.map_cons, List.sum_cons]; (revert h1 h2; kjx_bare; omega)
section
local macro_rules | `(tactic| walk_at "execs cons") => `(tactic| ((refine execs_tk ?_); (try dsimp only); (try k_fold); (try ((with_reducible rename Fr _ _ _ _ => F'); refine fr_let F' ?_; clear F'; intro mk F')); (try ((with_reducible rename News _ _ _ _ => N'); refine news_let N' ?_; clear N'; intro ld N'))))
local macro_rules | `(tactic| walk_at "execs nil") => `(tactic| (refine wpAny_execs_nil ?_))
local macro_rules | `(tactic| walk_at "call ref") => `(tactic| refine halt ?_)
local macro_rules | `(tactic| walk_at "call type:list") => `(tactic| refine halt ?_)
local macro_rules | `(tactic| walk_at "exec Assign cons ListComp") => `(tactic| refine halt ?_)
local macro_rules | `(tactic| walk_at "exec For Name Call cons nil") => `(tactic| refine halt ?_)
local macro_rules | `(tactic| walk_at "subscriptTail Name Slice str ref") => `(tactic| refine halt ?_)
local macro_rules | `(tactic| walk_at "CompEnd") => `(tactic| refine halt ?_)
local macro_rules | `(tactic| walk_at "subscriptTail Name Slice ref ref") => `(tactic| refine halt ?_)
local macro_rules | `(tactic| walk_at "call builtin:str.join") => `(tactic| refine halt ?_)
local macro_rules | `(tactic| walk_at "compareOp NotEq ref ref") => `(tactic| refine halt ?_)
local macro_rules | `(tactic| walk_at "call builtin:len") => `(tactic| refine halt ?_)
local macro_rules | `(tactic| walk_at "call type:range") => `(tactic| refine halt ?_)
local macro_rules | `(tactic| walk_at "subscriptTail Name Name ref int") => `(tactic| refine halt ?_)
local macro_rules | `(tactic| walk_at "ForEnd") => `(tactic| (dsimp only [ForEnd]))
local macro_rules | `(tactic| walk_at "inplaceOp Add str str") => `(tactic| ((refine' iadd_to ?e ?hz ?_); (case e => with_reducible assumption); (case hz => with_reducible assumption); intro _ _))
local macro_rules | `(tactic| walk_at "pyIter ref") => `(tactic| refine halt ?_)
local macro_rules | `(tactic| walk_at "binaryOp Add str str") => `(tactic| ((refine' add_to ?e ?hz ?_); (case e => assumption); (case hz => assumption); intro _ _))
theorem meant_spec (w : World) (x : List Nat) (t c qt : Nat) (oc : Obj) (cvs : Array Value) (hlen : x.length ≤ 100) (hc : 130 < c) (hoc : oc.data = .fields cvs) (hvs : cvs[1]? = some (.str lamQual qt)) :
   CodeSpec w 145 [.str (S x) t] 40 400 [(c, oc), (130, tabObj (lamTab c))] (fun s => 0 < t ∧ t < s.toks) (fun v ld' => v = .bool true ∧ ∃ c', ld' = [((130 : Nat), tabObj (lamTab c'))]) := by
  unfold CodeSpec
  k_fill
  intro loose mean mg mb dp un gd cn cs a ccd cl outer A₀ base h₀ L m s R hB hF hKX hC hN hT hk hd hu ⟨ht0, hts⟩ hret
  refine codeAny_toks (Nat.le_refl s.toks) ?_
  have hA1 : Str.ofString "\"" ++ S x = S (34 :: x) := by rw [S_34, S_app]; rfl
  have hz1 : (Str.ofString "\"").length + (S x).length ≤ sizeLine := by rw [S_34, S_len, S_len, sizeLine_eq]; simp; (revert hlen; kjx_bare; omega)
  k_dflt cell_enter
  k_steps
  rename Fr _ _ _ _ => F
  rename News _ _ _ _ => N
  rename Below _ _ _ _ => B
  rename Frag.In _ _ => KX
  rename Top _ _ _ _ _ _ => TX
  dsimp only [Halt]
  refine' list_tv ?hh F N ?hl ?_
  case hh => exact rfl
  case hl => simp only [List.length_cons]; (revert hlen; kjx_bare; omega)
  intro l n rem h1 tk1 hrem F1 N1 hb1
  clear F N
  have hcl : c < l := hb1 (c, oc) (.head _)
  obtain ⟨t0, rem, rfl, hrem2⟩ : ∃ t0 r, rem = (34, t0) :: r ∧ r.map (·.1) = x := by
    cases rem with
    | nil => simp at hrem
    | cons p r => obtain ⟨a9, b9⟩ := p; simp at hrem; exact ⟨b9, r, by rw [hrem.1], hrem.2⟩
  k_steps
  rename Fr _ _ _ _ => F
  rename News _ _ _ _ => N
  dsimp only [Halt]
  refine wpAny_call ?_
  with_unfolding_all refine' lexer_again w l (vals ((34, t0) :: rem)) n c oc cvs qt ⟨hc, hcl⟩ hoc hvs loose mean mg mb _ _ _ _ _ _ _ _ _ _ _ _ _ _ _ _ B F KX hC N TX ?hk ?hd ?hu trivial ?_
  case hk => exact rfl
  case hd => exact room_le 10 hd (by decide)
  case hu => exact room_le 102 hu (by decide)
  rintro v ld' h2 tk2 ⟨X, hX, rfl, hXl, tl, rfl⟩ hle2 F2 N2
  subst hXl
  have hX' := hX
  obtain ⟨hord, hXoc, hXvs, hXcell⟩ := hX'
  obtain ⟨o1, o2, o3, o4, o5, o6, o7, o8, o9, o10⟩ := hord
  have hown : OwnOff [((130 : Nat), tabObj (lamTab X.c))] X.adr := by
    intro p hp b hb
    rw [List.mem_singleton] at hp; subst hp
    simp only [LX.adr, List.mem_cons, List.not_mem_nil, or_false] at hb
    show @Ne Nat 130 b
    rcases hb with rfl | rfl | rfl | rfl | rfl | rfl | rfl | rfl | rfl <;> omega
  have N3 := N2
  unfold LX.led LX.dict at N3
  dsimp only [List.cons_append, List.nil_append] at N3
  have F3 := F2
  (try clear F); (try clear N); (try clear N2); (try clear F2)
  show wpAny _ _ _ _ _ _
  k_fold
  k_steps
  rename Fr _ _ _ _ => F
  rename News _ _ _ _ => N
  dsimp only [Halt]
  refine wpAny_call ?_
  have hrl : rem.length = x.length := by rw [← hrem2, List.length_map]
  with_unfolding_all refine' get_token_q w X hX [((130 : Nat), tabObj (lamTab X.c))] hown t0 rem n tl 1 ?hlen ?hln loose mean mg mb _ _ _ _ _ _ _ _ _ _ _ _ _ _ _ _ B ?F KX hC ?N TX ?hk ?hd ?hu trivial ?_
  case hlen => (revert hlen hrl; kjx_bare; omega)
  case hln => (revert hlen hrl; kjx_bare; omega)
  case F => exact F
  case N => exact N
  case hk => exact rfl
  case hd => exact room_le 21 hd (by decide)
  case hu => exact room_le 203 hu (by decide)
  rintro v ld' h3 tk3 ⟨tw, n', tl', rfl, rfl⟩ hle3 F4 N4
  (try clear F); (try clear N)
  show wpAny _ _ _ _ _ _
  k_fold
  k_steps
  rename Fr _ _ _ _ => F
  rename News _ _ _ _ => N
  dsimp only [Halt]
  refine wpAny_call ?_
  with_unfolding_all refine' units_spec w x t (X.led w.params (vals (qr rem).2) n' (1 + cnl rem - cnl (qr rem).2) tl' ++ [((130 : Nat), tabObj (lamTab X.c))]) ?hl loose mean mg mb _ _ _ _ _ _ _ _ _ _ _ _ _ _ _ _ B ?F KX hC ?N TX ?hk ?hd ?hu ?pre ?_
  case hl => (revert hlen hrl; kjx_bare; omega)
  case F => exact F
  case N => exact N
  case hk => exact rfl
  case hd => exact room_le 4 hd (by decide)
  case hu => exact room_le 23 hu (by decide)
  case pre => refine ⟨ht0, ?_⟩; dsimp only at *; omega
  rintro v ld' h5 tk5 ⟨ul, un9, us, rfl, hus, hutok, rfl, hub⟩ hle5 F5 N5
  have husl : us.length ≤ 100 := by have h9 := units_len x; rw [← hus, List.length_map] at h9; (revert hlen hrl h9; kjx_bare; omega)
  have N6 := news_sub (b := [(ul, W.listOf (tvals us).toArray un9), (X.l, W.listOf (vals (qr rem).2).toArray n'), ((130 : Nat), tabObj (lamTab X.c))]) N5 (by
    unfold LX.led
    dsimp only [List.cons_append, List.nil_append]
    kst_in)
  have F6 := F5
  (try clear F); (try clear N); (try clear N5); (try clear F5)
  show wpAny _ _ _ _ _ _
  k_fold
  k_steps
  rename Fr _ _ _ _ => F
  rename News _ _ _ _ => N
  dsimp only [Halt]
  k_dflt (refine LCg.Assign_ListComp_U (F₀ := F) (by rfl) (by with_unfolding_all rfl) (by with_unfolding_all rfl) (by decide) (by rfl) (by decide) (by rfl) (by rfl) (by rfl) ?_)
  walk1
  k_dflt (refine LCg.CompSrc.ledger (its := (tvals us).toArray) (by rfl) F N (by k_mem) (by rw [List.size_toArray, tvals_len, sizeLine_eq]; (revert husl; kjx_bare; omega)) ?_)
  intro g9
  refine comp_all (fun i ys nw => nw = _ ∧ ∃ sg : List (List Nat × Nat), ys = tvals sg ∧ txts sg = ((unitsOf x).take i).map signOf) ⟨rfl, [], rfl, rfl⟩ ?_ ?_
  · rintro i ys nw v I oI C oC D m₂ h tk E' hi hv ⟨rfl, sg, rfl, hsg⟩ hC hx F9 N9 off ne
    obtain ⟨⟨e, te⟩, hp, rfl⟩ := tvals_get (us := us) (i := i) (v := v) (by simpa using hv)
    have hup : (unitsOf x)[i]? = some e := by rw [← hus, List.getElem?_map, hp]; rfl
    obtain ⟨c9, r9, he9, hr9, hcr⟩ := units_shape x e (List.mem_of_getElem? hup)
    have e1 : Txt.slice (S e) none (some 1) = S [c9] := (slice_S_to e 1).trans (by rw [he9]; rfl)
    have e2 : Txt.slice (S e) (some 1) none = S r9 := (slice_S_from e 1).trans (by rw [he9]; rfl)
    have hsz9 : (S e).length ≤ sizeLine := by rw [S_len, he9, sizeLine_eq]; simp; (revert hr9; kjx_bare; omega)
    simp +zetaDelta only [LCg.Off3, and_true] at off
    show wpAny _ _ _ _ _ _
    k_fold
    k_steps
    refine slice_eq_ns (hsz := hsz9) (s := ⟨_, _, _, _, _⟩) F9 N9 e1 ?_
    intro h10 t10 k10 F10 N10
    k_steps
    · refine slice_eq_sn (hsz := hsz9) (s := ⟨_, _, _, _, _⟩) F10 N10 e2 ?_
      intro h11 t11 k11 F11 N11
      k_steps
      have hc := c92 (ch := c9) (by assumption)
      refine LCg.CompEnd.intro F11 N11 _ (fun p hp => hp) ?_ (Or.inr ⟨W.listOf (tvals us).toArray un9, .head _, rfl, un9, rfl⟩) ⟨rfl, sg ++ [(r9, t11)], by simp [tvals], ?_⟩
      · simp +zetaDelta only [LCg.Off3, and_true]; exact off
      · rw [txts_app, hsg, List.take_add_one, hup, List.map_append, he9, hc]; simp [txts, signOf]
    · have hc := n92 (ch := c9) (by assumption)
      refine LCg.CompEnd.intro F10 N10 _ (fun p hp => hp) ?_ (Or.inr ⟨W.listOf (tvals us).toArray un9, .head _, rfl, un9, rfl⟩) ⟨rfl, sg ++ [(e, te)], by simp [tvals], ?_⟩
      · simp +zetaDelta only [LCg.Off3, and_true]; exact off
      · rw [txts_app, hsg, List.take_add_one, hup, List.map_append, he9]; simp [txts, signOf, hc]
  · rintro ys nw ⟨rfl, sg, rfl, hsg⟩
    unfold LCg.FinA
    intro sl h6 tk6 F6 N6 off6
    simp +zetaDelta only [LCg.Off1, and_true] at off6
    have hsg : txts sg = (unitsOf x).map signOf := by
      rw [hsg, List.take_of_length_le]; rw [List.size_toArray, tvals_len]; rw [← hus, List.length_map]; exact Nat.le_refl _
    (try clear F); (try clear N)
    k_steps
    rename_i ql hq7 F N lq
    have ht6 : tk5 + 1 ≤ tk6 := by assumption
    simp only [S_34] at N
    dsimp only [Halt]
    refine wpAny_call ?_
    with_unfolding_all refine' concat_spec w ul ql un9 0 us [([34], tk6)] _ ?h1 ?h2 ?hz loose mean mg mb _ _ _ _ _ _ _ _ _ _ _ _ _ _ _ _ B ?F KX hC ?N TX ?hk ?hd ?hu trivial ?_
    case N => exact N
    case F => exact F
    case h1 => k_mem
    case h2 => exact .head _
    case hz => simp only [List.length_cons, List.length_nil]; (revert husl; kjx_bare; omega)
    case hk => exact rfl
    case hd => exact room_le 4 hd (by decide)
    case hu => exact room_le 23 hu (by decide)
    rintro v ld' h7 tk7 ⟨dl, rfl, rfl, hdl⟩ hle7 F7 N7
    dsimp only at hle7
    (try clear F); (try clear N)
    show wpAny _ _ _ _ _ _
    k_fold
    k_steps
    rename Fr _ _ _ _ => F
    rename News _ _ _ _ => N
    dsimp only [Halt]
    refine wpAny_call ?_
    have htokD : ∀ p ∈ us ++ [([34], tk6)], 0 < p.2 ∧ p.2 < tk7 := by
      intro p hp
      rcases List.mem_append.mp hp with hp | hp
      · have h9 := hutok p hp; exact ⟨h9.1, by (revert ht6 hle7 h9; kjx_bare; omega)⟩
      · rw [List.mem_singleton] at hp; subst hp; exact ⟨by dsimp only; (revert ht6; kjx_bare; omega), by dsimp only; (revert hle7; kjx_bare; omega)⟩
    with_unfolding_all refine' indexOf_spec2 w (us ++ [([34], tk6)]) dl 0 tk7 (Str.ofString "\"") _ ?h1 ?hu9 htokD ?hin S_34 loose mean mg mb _ _ _ _ _ _ _ _ _ _ _ _ _ _ _ _ B ?F KX hC ?N TX ?hk ?hd ?hu ?pre ?_
    case N => exact N
    case F => exact F
    case h1 => exact .head _
    case hu9 => rw [List.length_append]; simp only [List.length_cons, List.length_nil]; (revert husl; kjx_bare; omega)
    case hin => simp
    case hk => exact rfl
    case hd => exact room_le 4 hd (by decide)
    case hu => exact room_le 23 hu (by decide)
    case pre => exact Nat.lt_succ_self _
    rintro v ld' h8 tk8 ⟨kf, tkf, rfl, hkf, hkm, rfl⟩ hle8 F8 N8
    dsimp only at hle8
    rw [List.map_append, hus] at hkf hkm
    (try clear F); (try clear N)
    have hq1 := qr_qc rem
    rw [hrem2] at hq1
    have hq2 := units_qc x kf hkf hkm
    have hqm := ps_meant (unitsOf x) kf (units_shape x) hkf hkm
    show wpAny _ _ _ _ _ _
    k_fold
    k_steps
    have hsgw : ((txts sg).map (·.length)).sum ≤ 100 := by
      rw [hsg]; have h9 := sum_signs (unitsOf x); rw [sum_units] at h9; (revert hlen hrl h9; kjx_bare; omega)
    have hsgl : sg.length = us.length := by
      have h9 := congrArg List.length hsg
      rw [txts_len, List.length_map, ← hus, List.length_map] at h9; exact h9
    have husw : ((txts us).map (·.length)).sum ≤ 100 := by
      show ((us.map (·.1)).map (·.length)).sum ≤ 100
      rw [hus, sum_units]; (revert hlen; kjx_bare; omega)
    rename Fr _ _ _ _ => F
    rename News _ _ _ _ => N
    dsimp only [Halt]
    refine slice_tv (s := ⟨_, _, _, _, _⟩) (us := sg) (zs := sg.take kf) (n := (tvals sg).length) F N (.tail _ (.tail _ (.head _))) .none (.int _ _) (by rw [pick_to_tv, tvals_take]) (by (revert husl hsgl; kjx_bare; omega)) (fun D1 h9 F9 N9 hb9 => ?_) (by with_unfolding_all rfl) (by kmk_pure)
    (try clear F); (try clear N)
    k_steps
    rename Fr _ _ _ _ => F
    rename News _ _ _ _ => N
    dsimp only [Halt]
    refine join_tvq (us := sg.take kf) (sep := []) S_nil N (.head _) (by simp) ?_ (fun t10 k10 => ?_)
    · have h9 := sum_take (txts sg) kf
      rw [show txts (sg.take kf) = (txts sg).take kf by simp [txts, List.map_take]]
      rw [List.length_take]; (revert husl hsgw hsgl h9; kjx_bare; omega)
    rw [show joinL [] (txts (sg.take kf)) = (qr rem).1 by rw [joinL_nil_sep, hq1.1, hq2.1, ← hsg]; simp [txts, List.map_take]]
    k_steps
    · exact absurd (by assumption : (S (qr rem).1 != S (qr rem).1) = true) (by simp)
    rename Fr _ _ _ _ => F
    rename News _ _ _ _ => N
    dsimp only [Halt]
    refine slice_tv (s := ⟨_, _, _, _, _⟩) (us := us) (zs := us.drop (kf + 1)) (n := un9) F N (by k_mem) (.int _ _) .none (by rw [show ((kf : Int) + 1) = ((kf + 1 : Nat) : Int) from rfl, pick_from_tv, tvals_drop]) (by (revert husl hsgl; kjx_bare; omega)) (fun D2 h11 F11 N11 hb11 => ?_) (by with_unfolding_all rfl) (by kmk_pure)
    (try clear F); (try clear N)
    k_steps
    rename Fr _ _ _ _ => F
    rename News _ _ _ _ => N
    dsimp only [Halt]
    refine join_tvq (us := us.drop (kf + 1)) (sep := []) S_nil N (.head _) (by simp) ?_ (fun t12 k12 => ?_)
    · have h9 := sum_drop (txts us) (kf + 1)
      rw [show txts (us.drop (kf + 1)) = (txts us).drop (kf + 1) by simp [txts, List.map_drop]]
      rw [List.length_drop]; (revert husl hsgl husw h9; kjx_bare; omega)
    rw [show joinL [] (txts (us.drop (kf + 1))) = (qr rem).2.map (·.1) by rw [joinL_nil_sep, hq1.2, hq2.2, ← hus]; simp [txts, List.map_drop]]
    k_steps
    rename Fr _ _ _ _ => F
    rename News _ _ _ _ => N
    dsimp only [Halt]
    have hql : (qr rem).2.length ≤ 100 := by
      have h9 := congrArg List.length hq1.2
      rw [hq2.2, List.length_map, List.length_flatten] at h9
      have h8 : (List.map List.length (List.drop (kf + 1) (unitsOf x))).sum ≤ _ := sum_drop (unitsOf x) (kf + 1)
      rw [sum_units] at h8; (revert hlen hrl h9 h8; kjx_bare; omega)
    refine' list_tv ?hh F N ?hl ?_
    case hh => exact rfl
    case hl => rw [List.length_map]; (revert hql; kjx_bare; omega)
    intro l2 n2 rem2 h13 tk13 hrem9 F13 N13 hb13
    (try clear F); (try clear N)
    k_steps
    rename Fr _ _ _ _ => F
    rename News _ _ _ _ => N
    dsimp only [Halt]
    refine ne_same hrem9.symm N (by k_mem) (.head _) (by k_units) ?_
    k_steps
    dsimp only [Halt]
    refine wpAny_For ?_
    k_steps
    rename Fr _ _ _ _ => F
    rename News _ _ _ _ => N
    dsimp only [Halt]
    refine len_list (isList_of (a := (tvals us).toArray) (n := un9) N (by k_mem)) (by rw [List.size_toArray, tvals_len]; (revert husl hsgl; kjx_bare; omega)) ?_
    rw [show (tvals us).toArray.size = us.length by rw [List.size_toArray, tvals_len]]
    k_steps
    rename Fr _ _ _ _ => F
    rename News _ _ _ _ => N
    dsimp only [Halt]
    refine range1_rows F N (fun h14 tk14 t1 t2 t3 hr14 F14 N14 hk14 => ?_)
    k_steps
    rename Fr _ _ _ _ => F
    rename News _ _ _ _ => N
    dsimp only [Halt]
    refine wpAny_pyIter_range hr14 (small_nat us.length (by (revert husl hsgl; kjx_bare; omega))) ?_
    have hLs := F.ns.lt
    have e0 := ktu_new F (Nat.le_refl _)
    have hlt := fun (p : Addr × Obj) hp => Heap.lt_size (N p hp).1
    rw [size_nat]
    have hit9 : (h14.push (rngObj 0 (us.length : Int))).get? h14.objs.size = some (rngObj 0 (us.length : Int)) := Heap.get?_push_size _ rfl
    have F15 := F.push { cls := .type "range_iterator", data := .fields #[rawInt 0, rawInt (us.length : Int), rawInt 1] }
    have N15 := N.pushKeep { cls := .type "range_iterator", data := .fields #[rawInt 0, rawInt (us.length : Int), rawInt 1] }
    with_unfolding_all refine' for_rng (σ := List Nat × Nat) _ (fun c => [(Str.ofString "meant", .str (S c.1) c.2)]) [] (fun i c _ => c.1 = (((unitsOf x).take i).map meantOf).flatten ∧ c.1.length ≤ 2 * i) ([], _) ?hh ?hx ?hpl ?hL F15 N15 hit9 e0 ?hiL ?hoff ?hk ?hp ?turn ?done ?hR ?hEE
    case hR => exact fun _ _ h => h
    case hEE => passes_own
    case hh => exact rfl
    case hx => exact rfl
    case hpl => exact rfl
    case hL => exact rfl
    case hiL => exact Nat.ne_of_gt hLs
    case hoff => exact fun p hp => Nat.ne_of_lt (hlt p hp)
    case hk => simp only [S_nil] at F15 ⊢; kst_all
    case hp => exact ⟨rfl, Nat.zero_le _⟩
    case turn =>
      rintro ⟨d, td⟩ i u h tk tk' t hi ⟨hd9, hdl⟩ hle9 ht9 F16 N16
      dsimp only [kstB] at F16 hd9 hdl
      (try clear F); (try clear N)
      have hil : i < us.length := hi
      obtain ⟨⟨e, te⟩, hp⟩ : ∃ p, us[i]? = some p := ⟨_, List.getElem?_eq_getElem hil⟩
      have hup : (unitsOf x)[i]? = some e := by rw [← hus, List.getElem?_map, hp]; rfl
      obtain ⟨⟨e2, te2⟩, hp2⟩ : ∃ p, sg[i]? = some p := ⟨_, List.getElem?_eq_getElem (by (revert hsgl hi; kjx_bare; omega))⟩
      have he2 : e2 = signOf e := by
        have h9 : (txts sg)[i]? = some e2 := by unfold txts; rw [List.getElem?_map, hp2]; rfl
        rw [hsg, List.getElem?_map, hup] at h9
        exact (Option.some.inj h9).symm
      subst he2
      obtain ⟨c9, r9, he9, hr9, hcr9⟩ := units_shape x e (List.mem_of_getElem? hup)
      have hsl9 : (signOf e).length ≤ 2 := by
        rw [he9]
        by_cases h : c9 = 92 <;> simp [signOf, h] <;> (revert hr9; kjx_bare; omega)
      have hI1 : S d ++ Str.ofString "\" " = S (d ++ [34, 32]) := by rw [show Str.ofString "\" " = S [34, 32] by decide +kernel, S_app]
      have hI2 : S d ++ Str.ofString "\"\"" = S (d ++ [34, 34]) := by rw [show Str.ofString "\"\"" = S [34, 34] by decide +kernel, S_app]
      have hI3 : S d ++ S (signOf e) = S (d ++ signOf e) := S_app _ _
      have hJ1 : (S d).length + (Str.ofString "\" ").length ≤ sizeLine := by rw [show Str.ofString "\" " = S [34, 32] by decide +kernel, S_len, S_len, sizeLine_eq]; simp; (revert husl hsgl hi hdl; kjx_bare; omega)
      have hJ2 : (S d).length + (Str.ofString "\"\"").length ≤ sizeLine := by rw [show Str.ofString "\"\"" = S [34, 34] by decide +kernel, S_len, S_len, sizeLine_eq]; simp; (revert husl hsgl hi hdl; kjx_bare; omega)
      have hJ3 : (S d).length + (S (signOf e)).length ≤ sizeLine := by rw [S_len, S_len, sizeLine_eq]; (revert husl hsgl hi hdl hsl9; kjx_bare; omega)
      have hx1 : (tvals us).toArray[((i : Int)).toNat]? = some (.str (S e) te) := by simp [tvals, hp]
      have hx2 : (tvals sg).toArray[((i : Int)).toNat]? = some (.str (S (signOf e)) te2) := by simp [tvals, hp2]
      have hst9 : ∀ m9 : List Nat, meantOf e = m9 → d ++ m9 = (((unitsOf x).take (i + 1)).map meantOf).flatten := by
        rintro m9 rfl; rw [List.take_add_one, hup, hd9]; simp
      show wpAny _ _ _ _ _ _
      k_fold
      k_steps
      rename News _ _ _ _ => N
      dsimp only [Halt]
      refine item_list (isList_of (a := (tvals us).toArray) (n := un9) N (by k_mem)) (by (kjx_bare; omega)) (by (revert husl hsgl hi; kjx_bare; omega)) hx1 ?_
      k_steps
      · have hce : e = [34] := S_inj (beq_iff_eq.mp (show (S e == S [34]) = true by rw [← S_34]; assumption))
        exact nextF (d ++ [34, 32], _) (by assumption) (by assumption) (fun _ h => h) (by kst_all) (by intro z h1 h2 _; have h9 := h2 _ (.head _); dsimp only at h9; simp +zetaDelta [h1, h9]) ⟨hst9 _ (by rw [hce]; rfl), by dsimp only; rw [List.length_append]; simp only [List.length_cons, List.length_nil]; (revert hdl; kjx_bare; omega)⟩
      rename News _ _ _ _ => N2
      have hce : e ≠ [34] := by
        intro h9
        have h8 : (S e == Str.ofString "\"") = false := by assumption
        rw [h9, S_34] at h8; simp at h8
      dsimp only [Halt]
      refine item_list (isList_of (a := (tvals sg).toArray) (n := (tvals sg).length) N2 (.tail _ (.tail _ (.tail _ (.tail _ (.tail _ (.tail _ (.head _)))))))) (by (kjx_bare; omega)) (by (revert husl hsgl hi; kjx_bare; omega)) hx2 ?_
      k_steps
      · have hce2 : signOf e = [34] := S_inj (beq_iff_eq.mp (show (S (signOf e) == S [34]) = true by rw [← S_34]; assumption))
        exact nextF (d ++ [34, 34], _) (by assumption) (by assumption) (fun _ h => h) (by kst_all) (by intro z h1 h2 _; have h9 := h2 _ (.head _); dsimp only at h9; simp +zetaDelta [h1, h9]) ⟨hst9 _ (by unfold meantOf; rw [if_neg hce, if_pos hce2]), by dsimp only; rw [List.length_append]; simp only [List.length_cons, List.length_nil]; (revert hdl; kjx_bare; omega)⟩
      rename News _ _ _ _ => N3
      have hce2 : signOf e ≠ [34] := by
        intro h9
        have h8 : (S (signOf e) == Str.ofString "\"") = false := by assumption
        rw [h9, S_34] at h8; simp at h8
      dsimp only [Halt]
      refine item_list (isList_of (a := (tvals sg).toArray) (n := (tvals sg).length) N3 (.tail _ (.tail _ (.tail _ (.tail _ (.tail _ (.tail _ (.head _)))))))) (by (kjx_bare; omega)) (by (revert husl hsgl hi; kjx_bare; omega)) hx2 ?_
      k_steps
      exact nextF (d ++ signOf e, _) (by assumption) (by assumption) (fun _ h => h) (by kst_all) (by intro z h1 h2 _; have h9 := h2 _ (.head _); dsimp only at h9; simp +zetaDelta [h1, h9]) ⟨hst9 _ (by unfold meantOf; rw [if_neg hce, if_neg hce2]), by dsimp only; rw [List.length_append]; (revert hdl hsl9; kjx_bare; omega)⟩
    case done =>
      rintro ⟨d, td⟩ u h tk ⟨hd9, hdl⟩ hle9 F16 N16
      dsimp only [kstB] at F16 hd9 hdl
      (try clear F); (try clear N)
      rw [List.take_of_length_le (by rw [← hus, List.length_map]; exact Nat.le_refl _)] at hd9
      subst hd9
      have hA3 : Str.ofString "257 \"" ++ S ((unitsOf x).map meantOf).flatten = S (50 :: 53 :: 55 :: 32 :: 34 :: ((unitsOf x).map meantOf).flatten) := by rw [show Str.ofString "257 \"" = S [50, 53, 55, 32, 34] by decide +kernel, S_app]; rfl
      have hz3 : (Str.ofString "257 \"").length + (S ((unitsOf x).map meantOf).flatten).length ≤ sizeLine := by rw [show Str.ofString "257 \"" = S [50, 53, 55, 32, 34] by decide +kernel, S_len, S_len, sizeLine_eq]; simp only [List.length_cons, List.length_nil]; (revert husl hsgl hdl; kjx_bare; omega)
      dsimp only
      intro _
      k_steps
      rename Fr _ _ _ _ => F
      rename News _ _ _ _ => N
      dsimp only [Halt]
      with_unfolding_all refine' parse257_spec w ((unitsOf x).map meantOf).flatten _ _ rfl ?hx loose mean mg mb _ _ _ _ _ _ _ _ _ _ _ _ _ _ _ _ _ _ B ?F KX ?N TX ?hk ?hd ?hu trivial ?_
      case hx => rw [S_len]; simp only [List.length_cons]; (revert husl hsgl hdl; kjx_bare; omega)
      case F => exact F
      case N => exact N
      case hk => exact rfl
      case hd => exact room_le 2 hd (by decide)
      case hu => exact room_le 11 hu (by decide)
      rintro v h20 tk20 ⟨t20, rfl⟩ hle20 F20 N20
      rw [hqm, ← hq2.1, ← hq1.1]
      (try clear F); (try clear N)
      show wpAny _ _ _ _ _ _
      k_fold
      k_steps
      rename News h₀ L _ _ => kN
      rename Fr h₀ L _ m => kF
      exact hret _ [((130 : Nat), tabObj (lamTab X.c))] _ _ ⟨by simp, X.c, rfl⟩ (by first | assumption | (dsimp only at *; omega)) kF (news_sub kN (by kst_in))
end
end Mine
end
section
open PySem PySem.W PyProof.Rows PyProof
set_option maxRecDepth 100000
namespace Mine
open StrLaws (dbl dbl_append)
/-- the words that the lexer reads of the pieces, and the pieces behind them -/
def ev : List (List Nat) → List (List Nat) × List (List Nat)
  | [] => ([], [])
  | [p] => ([p], [])
  | p :: q :: r => if q = [] ∧ r ≠ [] then (p :: (ev r).1, (ev r).2) else ([p], q :: r)
theorem ev_go (p : List Nat) (r : List (List Nat)) (h : r ≠ []) : ev (p :: [] :: r) = (p :: (ev r).1, (ev r).2) := by simp [ev, h]
theorem ev_stop (p q : List Nat) (r : List (List Nat)) (h : ¬ (q = [] ∧ r ≠ [])) : ev (p :: q :: r) = ([p], q :: r) := by simp only [ev, if_neg h]
theorem joinL_two (p q : List Nat) (r : List (List Nat)) : joinL [34] (p :: q :: r) = p ++ 34 :: joinL [34] (q :: r) := by simp [joinL]
theorem ps_free : ∀ (p r : List Nat), 34 ∉ p → ps (p ++ r) = p ++ ps r
  | [], _, _ => rfl
  | c :: p, r, h => by
    have hc : c ≠ 34 := fun e => h (by simp [e])
    show ps (c :: (p ++ r)) = _
    rw [ps_ne hc, ps_free p r (fun hm => h (.tail _ hm))]; rfl
theorem ps_ev : ∀ pl : List (List Nat), (∀ p ∈ pl, 34 ∉ p) → ps (joinL [34] pl) = joinL [34] (ev pl).1
  | [], _ => by simp [joinL, ps, ev]
  | [p], h => by
    have := ps_free p [] (h p (.head _))
    simp only [List.append_nil] at this
    simp [joinL, ev, this, ps]
  | p :: q :: r, h => by
    rw [joinL_two, ps_free p _ (h p (.head _))]
    by_cases hq : q = [] ∧ r ≠ []
    · obtain ⟨rfl, hr⟩ := hq
      rw [ev_go _ _ hr]
      cases r with
      | nil => exact absurd rfl hr
      | cons a b =>
        have ih := ps_ev (a :: b) (fun x hx => h x (.tail _ (.tail _ hx)))
        rw [joinL_two]
        show p ++ ps (34 :: 34 :: joinL [34] (a :: b)) = _
        rw [ps_qq, ih]
        have hne : (ev (a :: b)).1 ≠ [] := by
          cases b with
          | nil => simp [ev]
          | cons _ _ => unfold ev; split <;> simp
        cases hc : (ev (a :: b)).1 with
        | nil => exact absurd hc hne
        | cons x y => rw [joinL_two]
    · rw [ev_stop _ _ _ hq]
      show p ++ ps (34 :: joinL [34] (q :: r)) = p
      have : ps (34 :: joinL [34] (q :: r)) = [] := by
        cases q with
        | nil =>
          have hr : r = [] := by
            cases r with
            | nil => rfl
            | cons a b => exact absurd ⟨rfl, by simp⟩ hq
          subst hr; simp [joinL, ps]
        | cons c q =>
          have hc : c ≠ 34 := fun e => h (c :: q) (.tail _ (.head _)) (by simp [e])
          have : ∃ z, joinL [34] ((c :: q) :: r) = c :: z := by
            cases r with
            | nil => exact ⟨q, rfl⟩
            | cons a b => exact ⟨_, joinL_two _ _ _⟩
          obtain ⟨z, hz⟩ := this
          rw [hz, ps_q hc]
      rw [this, List.append_nil]
theorem ev_free : ∀ pl : List (List Nat), (∀ p ∈ pl, 34 ∉ p) → ∀ p ∈ (ev pl).1, 34 ∉ p
  | [], _, p, hp => by simp [ev] at hp
  | [q], h, p, hp => by simp [ev] at hp; subst hp; exact h _ (.head _)
  | p :: q :: r, h, x, hx => by
    by_cases hq : q = [] ∧ r ≠ []
    · obtain ⟨rfl, hr⟩ := hq
      rw [ev_go _ _ hr] at hx
      rcases List.mem_cons.mp hx with rfl | hx
      · exact h _ (.head _)
      · exact ev_free r (fun y hy => h y (.tail _ (.tail _ hy))) x hx
    · rw [ev_stop _ _ _ hq] at hx
      simp at hx; subst hx; exact h _ (.head _)
theorem ev_ne : ∀ pl : List (List Nat), pl ≠ [] → (ev pl).1 ≠ []
  | [], h => absurd rfl h
  | [p], _ => by simp [ev]
  | p :: q :: r, _ => by
    by_cases hq : q = [] ∧ r ≠ []
    · obtain ⟨rfl, hr⟩ := hq; rw [ev_go _ _ hr]; simp
    · rw [ev_stop _ _ _ hq]; simp
theorem count_free : ∀ p : List Nat, 34 ∉ p → p.count 34 = 0 := fun p h => List.count_eq_zero.mpr h
theorem count_join : ∀ ws : List (List Nat), ws ≠ [] → (∀ p ∈ ws, 34 ∉ p) → (joinL [34] ws).count 34 + 1 = ws.length
  | [], h, _ => absurd rfl h
  | [p], _, h => by simp [joinL, count_free p (h p (.head _))]
  | p :: q :: r, _, h => by
    have ih := count_join (q :: r) (by simp) (fun x hx => h x (.tail _ hx))
    rw [joinL_two, List.count_append, count_free p (h p (.head _)), List.count_cons]
    simp only [List.length_cons] at ih ⊢
    simp; (revert ih; kjx_bare; omega)
/-- the lexer on doubled escapes reads one piece -/
theorem qc_dbl : ∀ (p r : List Nat), 34 ∉ p → qc (dbl 92 p ++ 34 :: r) = (p, r)
  | [], r, _ => by show qc (34 :: r) = _; rw [qc_34]
  | c :: p, r, h => by
    have hc : c ≠ 34 := fun e => h (by simp [e])
    have ih := qc_dbl p r (fun hm => h (.tail _ hm))
    by_cases h9 : c = 92
    · subst h9
      show qc (92 :: 92 :: (dbl 92 p ++ 34 :: r)) = _
      rw [qc_92, ih]
    · have : dbl 92 (c :: p) = c :: dbl 92 p := by simp [dbl, h9]
      rw [this]
      show qc (c :: (dbl 92 p ++ 34 :: r)) = _
      rw [qc_else _ hc h9, ih]
theorem qc_dbl0 : ∀ (p : List Nat), 34 ∉ p → qc (dbl 92 p) = (p, [])
  | [], _ => rfl
  | c :: p, h => by
    have hc : c ≠ 34 := fun e => h (by simp [e])
    have ih := qc_dbl0 p (fun hm => h (.tail _ hm))
    by_cases h9 : c = 92
    · subst h9
      show qc (92 :: 92 :: (dbl 92 p)) = _
      rw [qc_92, ih]
    · have : dbl 92 (c :: p) = c :: dbl 92 p := by simp [dbl, h9]
      rw [this, qc_else _ hc h9, ih]
theorem dbl_34 (r : List Nat) : dbl 92 (34 :: r) = 34 :: dbl 92 r := by simp [dbl]
/-- what is left for the lexer when it has read i words of the pieces -/
def stA (pl : List (List Nat)) : List Nat := dbl 92 (joinL [34] pl)
theorem qc_step (p q : List Nat) (r : List (List Nat)) (h : 34 ∉ p) : qc (stA (p :: q :: r)) = (p, stA (q :: r)) := by
  unfold stA
  rw [joinL_two, dbl_append, dbl_34, qc_dbl p _ h]
theorem qc_last (p : List Nat) (h : 34 ∉ p) : qc (stA [p]) = (p, []) := by
  show qc (dbl 92 p) = _
  exact qc_dbl0 p h
theorem stA_go (r : List (List Nat)) (h : r ≠ []) : stA ([] :: r) = 34 :: stA r := by
  cases r with
  | nil => exact absurd rfl h
  | cons a b => unfold stA; rw [joinL_two]; show dbl 92 (34 :: _) = _; rw [dbl_34]
/-- the words one after the other: with j words to come, the stream is 34 :: stA of the pieces that are left -/
theorem ev_cases (pl : List (List Nat)) (hne : pl ≠ []) (hf : ∀ p ∈ pl, 34 ∉ p) :
    ∃ p, (∃ r, r ≠ [] ∧ pl = p :: [] :: r ∧ (ev pl) = (p :: (ev r).1, (ev r).2) ∧ qc (stA pl) = (p, 34 :: stA r)) ∨ ((ev pl).1 = [p] ∧ (∃ r, pl = p :: r ∧ (ev pl).2 = r ∧ qc (stA pl) = (p, stA r))) := by
  match pl, hne, hf with
  | [p], _, hf => exact ⟨p, .inr ⟨rfl, [], rfl, rfl, by rw [qc_last p (hf p (.head _))]; rfl⟩⟩
  | p :: q :: r, _, hf =>
    by_cases hq : q = [] ∧ r ≠ []
    · obtain ⟨rfl, hr⟩ := hq
      exact ⟨p, .inl ⟨r, hr, rfl, ev_go _ _ hr, by rw [qc_step _ _ _ (hf p (.head _)), stA_go _ hr]⟩⟩
    · exact ⟨p, .inr ⟨by rw [ev_stop _ _ _ hq], q :: r, rfl, by rw [ev_stop _ _ _ hq], qc_step _ _ _ (hf p (.head _))⟩⟩
theorem cutL_all : ∀ (l p : List Nat), p ∈ cutL l → 34 ∉ p
  | [], p, h => by simp [cutL] at h; subst h; simp
  | c :: l, p, h => by
    have ih := cutL_all l
    unfold cutL at h
    split at h
    · rcases List.mem_cons.mp h with rfl | h
      · simp
      · exact ih p h
    · rename_i hc
      split at h
      · simp at h; subst h; simp; exact fun e => hc e.symm
      · rename_i a b hab
        rcases List.mem_cons.mp h with rfl | h
        · have := ih a (by rw [hab]; exact .head _)
          simp only [List.mem_cons, not_or]; exact ⟨fun e => hc e.symm, this⟩
        · exact ih p (by rw [hab]; exact .tail _ h)
theorem join_cut : ∀ l : List Nat, joinL [34] (cutL l) = l
  | [] => rfl
  | c :: l => by
    have ih := join_cut l
    unfold cutL
    split
    · rename_i hc
      subst hc
      cases h : cutL l with
      | nil => exact absurd h (cutL_ne l)
      | cons a b => rw [joinL_two, ← h, ih]; rfl
    · cases h : cutL l with
      | nil => exact absurd h (cutL_ne l)
      | cons a b =>
        rw [h] at ih
        show joinL [34] ((c :: a) :: b) = _
        cases b with
        | nil => show c :: a = _; rw [← ih]; rfl
        | cons d e => rw [joinL_two] at ih ⊢; rw [← ih]; rfl
theorem count_dbl : ∀ l : List Nat, (dbl 92 l).count 10 = l.count 10
  | [] => rfl
  | c :: l => by
    have ih := count_dbl l
    by_cases h : c = 92
    · subst h; show (92 :: 92 :: dbl 92 l).count 10 = _; simp [ih]
    · rw [show dbl 92 (c :: l) = c :: dbl 92 l by simp [dbl, h], List.count_cons, List.count_cons, ih]
theorem cnl_count : ∀ rem : List (Nat × Nat), cnl rem = ((rem.map (·.1)).count 10 : Nat)
  | [] => rfl
  | (c, t) :: r => by
    rw [cnl_cons, cnl_count r]
    rw [List.map_cons, List.count_cons]
    unfold nl
    by_cases h : c = 10 <;> simp [h] <;> (kjx_bare; omega)
end Mine
end
section
open PySem PySem.W PyProof.Rows PyProof
set_option maxRecDepth 100000
namespace Mine
/-- every second piece, i of them -/
def evens (pl : List (List Nat)) (i : Nat) : List (List Nat) := (List.range i).map fun k => pl.getD (2 * k) []
theorem evens_succ (pl : List (List Nat)) (i : Nat) : evens pl (i + 1) = evens pl i ++ [pl.getD (2 * i) []] := by
  unfold evens; rw [List.range_succ, List.map_append]; rfl
theorem drop_cons2 (pl : List (List Nat)) (j : Nat) (h : j < pl.length) : pl.drop j = pl.getD j [] :: pl.drop (j + 1) := by
  rw [List.drop_eq_getElem_cons h, List.getD_eq_getElem?_getD, List.getElem?_eq_getElem h]; rfl
theorem ev_turn (pl : List (List Nat)) (i : Nat) (h1 : 2 * i + 2 < pl.length) (h2 : (pl.drop (2 * i + 1)).take 1 = [[]]) :
    ev (pl.drop (2 * i)) = (pl.getD (2 * i) [] :: (ev (pl.drop (2 * (i + 1)))).1, (ev (pl.drop (2 * (i + 1)))).2) := by
  rw [drop_cons2 pl (2 * i) (by (revert h1; kjx_bare; omega)), drop_cons2 pl (2 * i + 1) (by (revert h1; kjx_bare; omega))]
  rw [drop_cons2 pl (2 * i + 1) (by (revert h1; kjx_bare; omega))] at h2
  have h3 : pl.getD (2 * i + 1) [] = [] := by simpa using h2
  rw [h3, show 2 * i + 1 + 1 = 2 * (i + 1) by (kjx_bare; omega)]
  refine ev_go _ _ ?_
  intro h
  have h9 := congrArg List.length h
  rw [List.length_drop] at h9
  simp at h9; (revert h1 h9; kjx_bare; omega)
theorem ev_end (pl : List (List Nat)) (i : Nat) (h1 : 2 * i < pl.length) (h2 : ¬ ((pl.drop (2 * i + 1)).take 1 = [[]] ∧ 2 * i + 2 < pl.length)) :
    ev (pl.drop (2 * i)) = ([pl.getD (2 * i) []], pl.drop (2 * i + 1)) := by
  rw [drop_cons2 pl (2 * i) h1]
  by_cases h3 : 2 * i + 1 < pl.length
  · rw [drop_cons2 pl (2 * i + 1) h3] at h2 ⊢
    refine ev_stop _ _ _ ?_
    rintro ⟨h4, h5⟩
    refine h2 ⟨by rw [h4]; rfl, ?_⟩
    have h6 := List.length_pos_iff.mpr h5
    rw [List.length_drop] at h6
    (revert h3 h6; kjx_bare; omega)
  · rw [List.drop_of_length_le (by (revert h1 h3; kjx_bare; omega))]; rfl
/-- what holds between the turns of the while -/
def EvInv (pl : List (List Nat)) (i : Nat) : Prop := 2 * i < pl.length ∧ (ev pl).1 = evens pl i ++ (ev (pl.drop (2 * i))).1 ∧ (ev pl).2 = (ev (pl.drop (2 * i))).2
theorem evinv_start (pl : List (List Nat)) (h : pl ≠ []) : EvInv pl 0 := ⟨List.length_pos_iff.mpr h, by simp [evens], by simp⟩
theorem evinv_turn {pl : List (List Nat)} {i : Nat} (h : EvInv pl i) (h1 : 2 * i + 2 < pl.length) (h2 : (pl.drop (2 * i + 1)).take 1 = [[]]) : EvInv pl (i + 1) := by
  obtain ⟨h3, h4, h5⟩ := h
  have h6 := ev_turn pl i h1 h2
  refine ⟨by (revert h1; kjx_bare; omega), ?_, ?_⟩
  · rw [h4, h6, evens_succ, List.append_assoc]; rfl
  · rw [h5, h6]
theorem evinv_end {pl : List (List Nat)} {i : Nat} (h : EvInv pl i) (h2 : ¬ ((pl.drop (2 * i + 1)).take 1 = [[]] ∧ 2 * i + 2 < pl.length)) : (ev pl).1 = evens pl (i + 1) ∧ (ev pl).2 = pl.drop (2 * i + 1) := by
  obtain ⟨h3, h4, h5⟩ := h
  have h6 := ev_end pl i h3 h2
  refine ⟨?_, ?_⟩
  · rw [h4, h6, evens_succ]
  · rw [h5, h6]
theorem joinL_len : ∀ ls : List (List Nat), (joinL [34] ls).length ≤ (ls.map (·.length)).sum + ls.length
  | [] => by simp [joinL]
  | [p] => by simp [joinL]
  | p :: q :: r => by
    have ih := joinL_len (q :: r)
    rw [joinL_two, List.length_append]
    simp only [List.length_cons, List.map_cons, List.sum_cons] at ih ⊢
    (revert ih; kjx_bare; omega)
theorem sum_cut : ∀ l : List Nat, ((cutL l).map (·.length)).sum + (cutL l).length = l.length + 1
  | [] => rfl
  | c :: l => by
    have ih := sum_cut l
    unfold cutL
    split
    · simp only [List.map_cons, List.sum_cons, List.length_cons, List.length_nil]; (revert ih; kjx_bare; omega)
    · cases h : cutL l with
      | nil => exact absurd h (cutL_ne l)
      | cons a b =>
        rw [h] at ih
        simp only [List.map_cons, List.sum_cons, List.length_cons] at ih ⊢; (revert ih; kjx_bare; omega)
theorem cut_len (l : List Nat) : (cutL l).length ≤ l.length + 1 := by have := sum_cut l; (revert this; kjx_bare; omega)
theorem evens_len (pl : List (List Nat)) (i : Nat) : (evens pl i).length = i := by simp [evens]
end Mine
end
section
open PySem PySem.W PyProof.Rows PyProof
set_option maxRecDepth 100000
set_option maxHeartbeats 8000000
namespace Mine
section
variable {prog : Program} {w : World} {A : Around} {E : Value → Shared → Prop} {s : Shared} {h₀ : Heap} {L : Addr} {m : Str → Option Value} {env : Env}
theorem rangeC_walks {I : Addr} (hh : A.handled = none) (a c : Int) (n : Nat) : Walks prog w A I [I] [I] n (fun i v => ∃ t, v = .int (a + (i : Int) * c) t) (fun i h => IsRangeIter h I (a + (i : Nat) * c) ((n : Int) - (i : Nat)) c) := Walks.range hh I a c n
theorem rangeC_st {I : Addr} {a c : Int} {n : Nat} : ∀ i (h h' : Heap) (o : Obj) (nw : List (Addr × Obj)), IsRangeIter h I (a + (i : Nat) * c) ((n : Int) - (i : Nat)) c → h.get? I = some o → h'.get? I = some o → (∀ b o, h₀.get? b = some o → h'.get? b = some o) → News h₀ L h' nw → True → IsRangeIter h' I (a + (i : Nat) * c) ((n : Int) - (i : Nat)) c :=
  fun i h h' o nw st e e' _ _ _ => by
    have st' : h.get? I = some _ := st
    show h'.get? I = some _
    rw [e', ← e]; exact st'
def SrcC (prog : Program) (w : World) (A : Around) (h₀ : Heap) (L : Addr) (m : Str → Option Value) (env : Env) (elt : Expr) (x : Str) (scope : Scope) (cl : List (Str × Addr)) (Fin : Shared → List Value → List (Addr × Obj) → Prop) (xv : Value) (s₁ : Shared) : Prop :=
  ∃ r a b c t u v n news, xv = .ref r ∧ A.handled = none ∧ Fr h₀ L s₁.heap m ∧ News h₀ L s₁.heap news ∧ IsRange s₁.heap r a b c t u v ∧ Builtin.Range.small a b c = true ∧ Builtin.Range.rangeSize a b c = ((n : Nat) : Int) ∧ n ≤ sizeLine ∧
    ∀ s₂ : Shared, (∃ h, s₂ = { s₁ with heap := h }) → LCg.CompRest prog w A h₀ L m env elt x scope cl s₂ (fun _ => True) (fun i v => ∃ t, v = .int (a + (i : Int) * c) t) (Fin s₂) n 0 [] news
theorem SrcC.range {elt : Expr} {x : Str} {scope : Scope} {cl : List (Str × Addr)} {Fin : Shared → List Value → List (Addr × Obj) → Prop} {r : Addr} {a b c : Int} {t u v : Tok} {n : Nat} {news : List (Addr × Obj)} {s₁ : Shared}
    (hh : A.handled = none) (F : Fr h₀ L s₁.heap m) (N : News h₀ L s₁.heap news) (hr : IsRange s₁.heap r a b c t u v) (hsm : Builtin.Range.small a b c = true) (hn : Builtin.Range.rangeSize a b c = ((n : Nat) : Int)) (hsz : n ≤ sizeLine)
    (h : ∀ g, LCg.CompRest prog w A h₀ L m env elt x scope cl { s₁ with heap := g } (fun _ => True) (fun i v => ∃ t, v = .int (a + (i : Int) * c) t) (Fin { s₁ with heap := g }) n 0 [] news) :
    SrcC prog w A h₀ L m env elt x scope cl Fin (.ref r) s₁ := ⟨r, a, b, c, t, u, v, n, news, rfl, hh, F, N, hr, hsm, hn, hsz, fun _ ⟨g, e⟩ => e ▸ h g⟩
/-- a comprehension over a range of any step -/
theorem ListComp_C {elt iter : Expr} {x : Str} {px : Pos} {scope : Scope} {cl : List (Str × Addr)} {pos : Pos} {Q : Value → Shared → Prop} (_F₀ : Fr h₀ L s.heap m)
    (hclos : closureFor scope env = pure cl) (hcell : ∀ y ∈ scope.names, y.2 ≠ .cell) (hkind : scope.kind = .function)
    (hnames : ∀ y ∈ scope.names, y.2 = .local → scope.names.lookup y.1 = some .local) (hx : scope.names.lookup x = some .local)
    (h : wpAny (model prog w) A (eval iter env) (SrcC prog w A h₀ L m env elt x scope cl (fun s₂ => LCg.FinE h₀ L m s₂ Q)) E s)
    (hs : ∀ x, foldedSetIterable iter env x = pure x := by intro _; rfl) :
    wpAny (model prog w) A (eval (.ListComp elt [⟨.Name x px, iter, [], 0⟩] scope pos) env) Q E s := by
  rw [eval_ListComp]
  refine wpAny_comprehension_free (use := none) rfl hs hclos hkind hnames (wpAny_mono h (fun xv s₁ h₁ => ?_) fun _ _ e => e)
  obtain ⟨r, a, b, c, t, u, v, n, news, rfl, hh, F, N, hr, hsm, hn, hsz, R⟩ := h₁
  refine wpAny_pyIter_range hr hsm ?_
  refine LCg.block_U (rangeC_walks hh a c n) hsz (fun i h st => ⟨_, st⟩) rangeC_st hcell hkind hx (by show IsRangeIter _ _ _ _ _; rw [hn]; simpa using Heap.get?_push_size _ rfl) (fun b hb => ?_)
    (F.keeps fun _ _ e => Heap.get?_push_of_some _ e) (N.grown fun _ _ e => Heap.get?_push_of_some _ e) (Nat.ne_of_lt F.ns.lt) (next_is_new F) (fun p hp => Nat.ne_of_lt (Heap.lt_size (N p hp).1)) trivial (R _ ⟨_, rfl⟩) ?_
  · rw [List.mem_singleton.mp hb]
    show s₁.heap.objs.size < (s₁.heap.push _).objs.size
    rw [Heap.size_push]; exact Nat.lt_succ_self _
  · intro D C h tk m' ys news' F' N' o1 hn hC₀ hD₀ hCL hDL hCD offC fin
    refine ⟨m', hn, fun h'' hs'' => fin D h'' tk (F'.change hs'' hCL hC₀) (fun p hp => ?_) o1⟩
    refine ⟨hs''.extBut _ _ ?_ (N' p hp).1, (N' p hp).2⟩
    rcases List.mem_cons.mp hp with rfl | hp
    · exact Ne.symm hCD
    · exact offC p hp
theorem size_two (i : Nat) : Builtin.Range.rangeSize 0 (2 * (i : Int) + 1) 2 = ((i + 1 : Nat) : Int) := by
  unfold Builtin.Range.rangeSize
  simp only [show (2 : Int) > 0 by decide, if_true]
  rw [if_pos (by (kjx_bare; omega))]
  (kjx_bare; omega)
theorem fits_small (x : Int) (h1 : 0 ≤ x) (h2 : x ≤ 5000) : Builtin.Range.rangeFitsLong x = true := by
  unfold Builtin.Range.rangeFitsLong
  simp only [Bool.and_eq_true, decide_eq_true_eq]
  (revert h1 h2; kjx_bare; omega)
theorem small_two (i : Nat) (h : i ≤ 1000) : Builtin.Range.small 0 (2 * (i : Int) + 1) 2 = true := by
  unfold Builtin.Range.small
  rw [size_two, fits_small 0 (by (kjx_bare; omega)) (by (kjx_bare; omega)), fits_small _ (by (revert h; kjx_bare; omega)) (by (revert h; kjx_bare; omega)), fits_small 2 (by (kjx_bare; omega)) (by (kjx_bare; omega)), fits_small _ (by (revert h; kjx_bare; omega)) (by (revert h; kjx_bare; omega)), if_pos (by decide), fits_small _ (by (revert h; kjx_bare; omega)) (by (revert h; kjx_bare; omega))]
  cases (((i + 1 : Nat) : Int) == 0) <;> rfl
end
end Mine
end
section
open PySem PySem.W PyProof.Rows PyProof
set_option maxRecDepth 100000
set_option maxHeartbeats 8000000
namespace Mine
section
variable {prog : Program} {w : World} {A : Around} {E : Value → Shared → Prop} {Q : Flow → Shared → Prop} {s : Shared} {env : Env} {h₀ : Heap} {L : Addr}
def LedDone (h₀ : Heap) (L : Addr) (s : Shared) (ld : Led) (mm : Loc) (D : Prop) (s₂ : Shared) : Prop :=
  ∃ (h' : Heap) (tk' : Nat) (news' : Led), s₂ = { s with heap := h', toks := tk' } ∧ Fr h₀ L h' mm ∧ News h₀ L h' news' ∧ (∀ p ∈ ld, p ∈ news') ∧ D
theorem LedDone.intro {h₀ : Heap} {L : Addr} {s : Shared} {ld : Led} {mm : Loc} {D : Prop} {h' : Heap} {tk' : Nat} {news' : Led} (F : Fr h₀ L h' mm) (N : News h₀ L h' news') (hl : ∀ p ∈ ld, p ∈ news') (hd : D) :
    LedDone h₀ L s ld mm D { s with heap := h', toks := tk' } := ⟨h', tk', news', rfl, F, N, hl, hd⟩
/-- a while over one ledger, its end told once -/
theorem while_led {σ : Type} {test : Expr} {body : List Stmt} {pos : Pos} {m₀ : Loc} (ld : Led) (ps : σ → List (Str × Value)) (stored : List Str) (P D : σ → Prop) (μ : σ → Nat) (c₀ : σ)
    (F : Fr h₀ L s.heap m₀) (N : News h₀ L s.heap ld) (hk : ∀ p ∈ ps c₀, m₀ p.1 = some p.2) (hp : P c₀)
    (turn : ∀ (c : σ) (u : Loc) h tk, P c → s.toks ≤ tk → Fr h₀ L h (kstB (fun z => if stored.contains z then u z else m₀ z) (ps c)) → News h₀ L h ld →
      wpAny (model prog w) A (isTrue test env (eval test env)) (fun b s₂ => tk ≤ s₂.toks →
        if b = true then wpAny (model prog w) A (execs body env) (fun f s₃ => tk ≤ s₃.toks → LocEnd h₀ L s (fun _ => ld) ps stored m₀ (fun c _ => P c) μ Q c f s₃) E s₂
        else LedDone h₀ L s ld (kstB (fun z => if stored.contains z then u z else m₀ z) (ps c)) (D c) s₂) E { s with heap := h, toks := tk })
    (done : ∀ (c : σ) (u : Loc) h tk, D c → s.toks ≤ tk → Fr h₀ L h (kstB (fun z => if stored.contains z then u z else m₀ z) (ps c)) → News h₀ L h ld → Q .next { s with heap := h, toks := tk })
    (hE : PassesOwn (model prog w) A env E := by passes_own) :
    wpAny (model prog w) A (exec (.While test body [] pos) env) Q E s := by
  refine while_loc (fun _ => ld) ps stored (fun c _ => P c) μ c₀ F N hk hp (fun c u h tk hP hle F' N' => ?_) hE
  refine wpAny_mono (turn c u h tk hP hle F' N') (fun b s₂ hb hle2 => ?_) fun _ _ x => x
  have hb := hb hle2
  cases b with
  | true => simpa using hb
  | false =>
    simp only [Bool.false_eq_true, if_false] at hb ⊢
    obtain ⟨h', tk', nw, rfl, F9, N9, hl, hd⟩ := hb
    exact done c u h' tk' hd (Nat.le_trans hle hle2) F9 (fun p hp => N9 p (hl p hp))
end
end Mine
end
section
open PySem PySem.W PyProof.Rows PyProof
set_option maxRecDepth 100000
set_option maxHeartbeats 8000000
set_option pp.maxSteps 8000
set_option pp.deepTerms false
namespace Mine
theorem led_new3 {w : World} {h₀ h : Heap} {L : Addr} {pb x dx f c pb1 st dst cell l k1 k2 k3 k4 tw j1 j2 j3 j4 j5 tj tw1 tl qt n : Nat} {oc oCell p1 p2 : Obj} {p3 : Obj} {a1 a2 a3 : Nat} {vs' : Array Value} {vs : List Value} {ct nm : Value}
    (kN : News h₀ L h [(pb, W.listOf #[] 0), (x, instObj 91 dx), (dx, dictOf [⟨PyData.keyHash w.params (Str.ofString "lineno"), .str (Str.ofString "lineno") k1, .int 1 tl⟩, ⟨PyData.keyHash w.params (Str.ofString "instream"), .str (Str.ofString "instream") k2, .ref st⟩,
   ⟨PyData.keyHash w.params (Str.ofString "whitespace"), .str (Str.ofString "whitespace") k3, .str (Str.ofString "\n\t\x0d ") tw⟩, ⟨PyData.keyHash w.params (Str.ofString "pushback"), .str (Str.ofString "pushback") k4, .ref pb⟩] 4),
     (f, kla_obj (Str.ofString "<lambda>") lamQual lamArgs lamBody lamScope [(Str.ofString "left", cell)] nm c ct), (c, oc), (pb1, W.listOf #[] 0), (st, instObj 91 dst),
     (dst, dictOf [⟨PyData.keyHash w.params (Str.ofString "lineno"), .str (Str.ofString "lineno") j1, .int 1 tj⟩, ⟨PyData.keyHash w.params (Str.ofString "instream"), .str (Str.ofString "instream") j2, .none⟩,
   ⟨PyData.keyHash w.params (Str.ofString "whitespace"), .str (Str.ofString "whitespace") j3, .str (Str.ofString "\n\t\x0d ") tw1⟩, ⟨PyData.keyHash w.params (Str.ofString "pushback"), .str (Str.ofString "pushback") j4, .ref pb1⟩,
   ⟨PyData.keyHash w.params (Str.ofString "read"), .str (Str.ofString "read") j5, .ref f⟩] 5), (cell, oCell), (l, W.listOf vs.toArray n), (130, tabObj (lamTab c)), (a1, p1), (a2, p2), (a3, p3)])
    (ord : 130 < l ∧ l < cell ∧ cell < dst ∧ dst < st ∧ st < pb1 ∧ pb1 < f ∧ ((pb1 < c ∧ c < f) ∨ (130 < c ∧ c < l)) ∧ f < dx ∧ dx < x ∧ x < pb)
    (hoc : oc.data = .fields vs') (hvs : vs'[1]? = some (.str lamQual qt)) (hcell : oCell.data = .cell (some (.ref l))) :
    ∃ X : LX, X.Ok ∧ X.x = x ∧ X.l = l ∧ X.c = c ∧ X.oc = oc ∧ ∃ tl, News h₀ L h (X.led w.params vs n 1 tl ++ [(130, tabObj (lamTab X.c)), (a1, p1), (a2, p2), (a3, p3)]) :=
  ⟨⟨x, dx, pb, st, dst, pb1, f, c, cell, l, k1, k2, k3, k4, tw, j1, j2, j3, j4, j5, tj, tw1, oc, oCell, vs', qt, ct, nm⟩, ⟨ord, hoc, hvs, hcell⟩, rfl, rfl, rfl, rfl, tl, news_sub kN (by
    dsimp only [LX.led, LX.dict, LX.sdict, List.cons_append, List.nil_append]; kst_in)⟩
section
local macro_rules | `(tactic| walk_at "call ref") => `(tactic| refine halt ?_)
theorem lexer_new3 (w : World) (l : Nat) (vs : List Value) (n a1 a2 a3 : Nat) (p1 p2 p3 : Obj) (hl : 130 < a3 ∧ a3 < a2 ∧ a2 < a1 ∧ a1 < l) :
  CodeSpec w 135 [.ref l] 9 99 [(l, { cls := .type "list", data := .seq vs.toArray n }), (130, tabObj #[]), (a1, p1), (a2, p2), (a3, p3)] (fun _ => True)
    (fun v ld' => ∃ X : LX, X.Ok ∧ v = .ref X.x ∧ X.l = l ∧ X.l < X.c ∧ ∃ tl, ld' = X.led w.params vs n 1 tl ++ [(130, tabObj (lamTab X.c)), (a1, p1), (a2, p2), (a3, p3)]) := by
  unfold CodeSpec
  k_fill
  intro loose mean mg mb dp un gd cn cs a ccd cl outer A₀ base h₀ L m s R hB hF hX hC hN hT hk hd hu _ hret
  refine codeAny_toks (Nat.le_refl s.toks) ?_
  k_dflt (refine' code_defC ?k1 ?k2 ?k3 ?k4 ?k5 ?kA ?kF ?kK ?k6 ?k7 ?k8 ?k9 ?kB ?kD ?_ ?c2 ?c3 ?c4; (case kA => exact rfl); (case kF => exact rfl); (case kK => assumption); (case k1 => k_asm); (case k2 => k_asm); (case k3 => k_asm); (case k4 => k_asm); (case k5 => k_asm); (case k6 => k_is); (case k7 => k_is); (case k8 => k_room); (case k9 => first | exact BindsTo.of_eq rfl | exact binds_K (by k_in) rfl (by k_is) rfl rfl rfl | fail "k_enter: no rule for these arguments"); (case kB => exact rfl); (case kD => decide +kernel); (case c2 => exact rfl); (case c3 => exact rfl); (case c4 => exact rfl); k_whole; intro g' L' h' tk' cells' FG' F' N' Y' B' X' T' l1; (try k_lt l1); k_cells Y'; (try simp only [List.cons_append, List.nil_append] at N'); (try dsimp only); (try k_lift B'); (try k_fold))
  (with_reducible rename Fr _ _ _ _ => F0); refine fr_let F0 ?_; clear F0; intro mk0 F0
  k_steps
  rename Fr _ _ _ _ => F
  rename News _ _ _ _ => N
  rename Below _ _ _ _ => B
  rename Frag.In _ _ => KX
  rename Top _ _ _ _ _ _ => TX
  dsimp only [Halt]
  with_unfolding_all refine' new_lex w .none _ loose mean mg mb _ _ _ _ _ _ _ _ _ _ _ _ _ _ _ _ _ B F KX N TX ?hk ?hd ?hu ?_
  case hk => exact rfl
  case hd => exact room_le 6 hd (by decide)
  case hu => exact room_le 63 hu (by decide)
  intro x1 dx1 pb1 k1 k2 k3 k4 tw1 tl1 h1 tk1 F1 N1 hb1 hx1 hp1 hle1
  k_lt hb1
  k_lt2 hx1
  k_lt2 hp1
  unfold lexDict at N1
  (try clear F); (try clear N)
  show wpAny _ _ _ _ _ _
  k_fold
  k_steps
  rename Fr _ _ _ _ => F
  rename News _ _ _ _ => N
  dsimp only [Halt]
  with_unfolding_all refine' new_lex w (.ref x1) _ loose mean mg mb _ _ _ _ _ _ _ _ _ _ _ _ _ _ _ _ _ B F KX N TX ?hk ?hd ?hu ?_
  case hk => exact rfl
  case hd => exact room_le 6 hd (by decide)
  case hu => exact room_le 63 hu (by decide)
  intro x2 dx2 pb2 j1 j2 j3 j4 tw2 tl2 h2 tk2 F2 N2 hb2 hx2 hp2 hle2
  k_lt hb2
  k_lt2 hx2
  k_lt2 hp2
  unfold lexDict at N2
  (try clear F); (try clear N)
  k_steps
  rename News h₀ L _ _ => kN
  rename Fr h₀ L _ m => kF
  with_unfolding_all obtain ⟨X, hX1, hx, hxl, hxc, hxo, tl, N⟩ := led_new3 (w := w) (vs := vs) (l := l) kN (by omega) (by assumption) (by assumption) (by assumption)
  have hlc : X.l < X.c := by rw [hxl, hxc]; omega
  subst hx hxl
  exact hret _ _ _ _ ⟨X, hX1, rfl, rfl, hlc, tl, rfl⟩ (by assumption) kF N
end
end Mine
end
section
open PySem PySem.W PyProof.Rows PyProof
set_option maxRecDepth 100000
set_option maxHeartbeats 16000000
set_option pp.maxSteps 8000
set_option pp.deepTerms false
namespace Mine
section
local macro_rules | `(tactic| k_ne) => `(tactic| (refine neN ?_; (try dsimp only); first | assumption | (refine Ne.symm ?_; assumption) | omega))
local macro_rules | `(tactic| walk_at "execs cons") => `(tactic| ((refine execs_tk ?_); (try dsimp only); (try k_fold); (try ((with_reducible rename Fr _ _ _ _ => F'); refine fr_let F' ?_; clear F'; intro mk F')); (try ((with_reducible rename News _ _ _ _ => N'); refine news_let N' ?_; clear N'; intro ld N'))))
local macro_rules | `(tactic| walk_at "execs nil") => `(tactic| (refine wpAny_execs_nil ?_))
local macro_rules | `(tactic| walk_at "call ref") => `(tactic| refine halt ?_)
local macro_rules | `(tactic| walk_at "call type:list") => `(tactic| refine halt ?_)
local macro_rules | `(tactic| walk_at "exec Assign cons ListComp") => `(tactic| refine halt ?_)
local macro_rules | `(tactic| walk_at "exec For Name Call cons nil") => `(tactic| refine halt ?_)
local macro_rules | `(tactic| walk_at "subscriptTail Name Slice str ref") => `(tactic| refine halt ?_)
local macro_rules | `(tactic| walk_at "CompEnd") => `(tactic| refine halt ?_)
local macro_rules | `(tactic| walk_at "subscriptTail Name Slice ref ref") => `(tactic| refine halt ?_)
local macro_rules | `(tactic| walk_at "call builtin:str.join") => `(tactic| refine halt ?_)
local macro_rules | `(tactic| walk_at "compareOp NotEq ref ref") => `(tactic| refine halt ?_)
local macro_rules | `(tactic| walk_at "call builtin:len") => `(tactic| refine halt ?_)
local macro_rules | `(tactic| walk_at "call type:range") => `(tactic| refine halt ?_)
local macro_rules | `(tactic| walk_at "subscriptTail Name Name ref int") => `(tactic| refine halt ?_)
local macro_rules | `(tactic| walk_at "ForEnd") => `(tactic| (dsimp only [ForEnd]))
local macro_rules | `(tactic| walk_at "inplaceOp Add str str") => `(tactic| ((refine' iadd_to ?e ?hz ?_); (case e => with_reducible assumption); (case hz => with_reducible assumption); intro _ _))
local macro_rules | `(tactic| walk_at "call builtin:str.replace") => `(tactic| refine halt ?_)
local macro_rules | `(tactic| walk_at "call builtin:str.split") => `(tactic| refine halt ?_)
local macro_rules | `(tactic| walk_at "exec While BoolOp cons nil") => `(tactic| refine halt ?_)
local macro_rules | `(tactic| walk_at "compareOp Eq ref ref") => `(tactic| refine halt ?_)
local macro_rules | `(tactic| walk_at "LocEnd") => `(tactic| (dsimp only [LocEnd]))
local macro_rules | `(tactic| walk_at "LedDone") => `(tactic| refine halt ?_)
local macro_rules | `(tactic| walk_at "eval ListComp") => `(tactic| refine halt ?_)
local macro_rules | `(tactic| walk_at "pyIter ref") => `(tactic| refine halt ?_)
local macro_rules | `(tactic| walk_at "binaryOp Add str str") => `(tactic| ((refine' add_to ?e ?hz ?_); (case e => assumption); (case hz => assumption); intro _ _))
theorem dbl_len : ∀ l : List Nat, (StrLaws.dbl 92 l).length ≤ 2 * l.length
  | [] => Nat.le_refl _
  | c :: r => by
    have h1 := dbl_len r
    by_cases h : c = 92
    · subst h; show (92 :: 92 :: StrLaws.dbl 92 r).length ≤ _; simp only [List.length_cons]; omega
    · rw [show StrLaws.dbl 92 (c :: r) = c :: StrLaws.dbl 92 r by simp [StrLaws.dbl, h]]; simp only [List.length_cons]; omega
theorem split5 {rem : List (Nat × Nat)} {y : List Nat} (h : rem.map (·.1) = 50 :: 53 :: 55 :: 32 :: y) : ∃ t1 t2 t3 t4 r, rem = (50, t1) :: (53, t2) :: (55, t3) :: (32, t4) :: r ∧ r.map (·.1) = y := by
  match rem, h with
  | (a, t1) :: (b, t2) :: (c, t3) :: (d, t4) :: r, h =>
    simp only [List.map_cons, List.cons.injEq] at h
    obtain ⟨rfl, rfl, rfl, rfl, h⟩ := h
    exact ⟨t1, t2, t3, t4, r, rfl, h⟩
theorem adr_ge {X : LX} (hX : X.Ok) (hc : X.l < X.c) : ∀ b ∈ X.adr, X.l ≤ b := by
  obtain ⟨o1, o2, o3, o4, o5, o6, o7, o8, o9, o10⟩ := hX.ord
  have e1 := Nat.lt_trans o2 o3
  have e2 := Nat.lt_trans e1 o4
  have e3 := Nat.lt_trans (Nat.lt_trans e2 o5) o6
  have e4 := Nat.lt_trans e3 o8
  have e5 := Nat.lt_trans e4 o9
  intro b hb
  simp only [LX.adr, List.mem_cons, List.not_mem_nil, or_false] at hb
  rcases hb with rfl | rfl | rfl | rfl | rfl | rfl | rfl | rfl | rfl
  · exact Nat.le_refl _
  · exact Nat.le_of_lt e4
  · exact Nat.le_of_lt e5
  · exact Nat.le_of_lt (Nat.lt_trans e5 o10)
  · exact Nat.le_of_lt e2
  · exact Nat.le_of_lt e1
  · exact Nat.le_of_lt e3
  · exact Nat.le_of_lt hc
  · exact Nat.le_of_lt o2
theorem adr_off {X : LX} (hX : X.Ok) (hc : X.l < X.c) {a : Nat} (ha : @LT.lt Nat _ a X.l) : @Ne Nat X.l a ∧ @Ne Nat X.dx a ∧ @Ne Nat X.x a ∧ @Ne Nat X.pb a ∧ @Ne Nat X.st a ∧ @Ne Nat X.dst a ∧ @Ne Nat X.f a ∧ @Ne Nat X.c a ∧ @Ne Nat X.cell a := by
  have h9 : ∀ b ∈ X.adr, b ≠ a := fun b hb => Nat.ne_of_gt (Nat.lt_of_lt_of_le ha (adr_ge hX hc b hb))
  simp only [LX.adr, List.forall_mem_cons] at h9
  obtain ⟨a1, a2, a3, a4, a5, a6, a7, a8, a9, _⟩ := h9
  exact ⟨a1, a2, a3, a4, a5, a6, a7, a8, a9⟩
theorem own3_off {X : LX} (hX : X.Ok) {a1 a2 a3 : Nat} {p0 p1 p2 p3 : Obj} (h : 130 < a3 ∧ a3 < a2 ∧ a2 < a1 ∧ a1 < X.l) (hc : X.l < X.c) : OwnOff [((130 : Nat), p0), (a1, p1), (a2, p2), (a3, p3)] X.adr := by
  obtain ⟨h1, h2, h3, h4⟩ := h
  intro p hp b hb
  have h9 := adr_ge hX hc b hb
  simp only [List.mem_cons, List.not_mem_nil, or_false] at hp
  rcases hp with rfl | rfl | rfl | rfl
  · exact Nat.ne_of_lt (Nat.lt_of_lt_of_le (Nat.lt_trans (Nat.lt_trans (Nat.lt_trans h1 h2) h3) h4) h9)
  · exact Nat.ne_of_lt (Nat.lt_of_lt_of_le h4 h9)
  · exact Nat.ne_of_lt (Nat.lt_of_lt_of_le (Nat.lt_trans h3 h4) h9)
  · exact Nat.ne_of_lt (Nat.lt_of_lt_of_le (Nat.lt_trans h2 (Nat.lt_trans h3 h4)) h9)
theorem countOf_spec2 (w : World) (l : List Nat) (c : Nat) (tx ty : Nat) (q : Str) (hx : (S l).length ≤ 1000) (hq : q = S [c]) :
   Pure w 109 1 8 [.str (S l) tx, .str q ty] (fun s => 0 < ty ∧ ty < s.toks) (fun v => ∃ t, v = .int (l.count c : Nat) t) := by subst hq; exact countOf_spec w l c tx ty hx
theorem ps_len : ∀ l : List Nat, (ps l).length ≤ l.length
  | [] => Nat.le_refl _
  | [c] => by unfold ps; split <;> simp
  | c :: d :: r => by
    have h1 := ps_len r
    have h2 := ps_len (d :: r)
    unfold ps
    split
    · split
      · simp only [List.length_cons]; omega
      · simp
    · simp only [List.length_cons] at h2 ⊢; omega
theorem qr_suf : ∀ rem : List (Nat × Nat), ∃ p, rem = p ++ (qr rem).2
  | [] => ⟨[], rfl⟩
  | [c] => by
    by_cases h : c.1 = 34 ∨ c.1 = 92
    · exact ⟨[c], by simp [qr, h]⟩
    · exact ⟨[c], by simp [qr, h]⟩
  | (c, t) :: (d, u) :: r => by
    obtain ⟨p1, h1⟩ := qr_suf r
    obtain ⟨p2, h2⟩ := qr_suf ((d, u) :: r)
    by_cases hc : c = 34
    · subst hc; rw [qr_34]; exact ⟨[(34, t)], rfl⟩
    · by_cases h9 : c = 92
      · subst h9; rw [qr_92]; exact ⟨(92, t) :: (d, u) :: p1, by show _ = (92, t) :: (d, u) :: (p1 ++ (qr r).2); rw [← h1]⟩
      · rw [qr_else _ _ hc h9]; exact ⟨(c, t) :: p2, by show _ = (c, t) :: (p2 ++ (qr ((d, u) :: r)).2); rw [← h2]⟩
theorem cnl_app (a b : List (Nat × Nat)) : cnl (a ++ b) = cnl a + cnl b := by simp [cnl]
theorem news_rot {h₀ h : Heap} {L : Addr} {ld own : Led} {a b c : Addr × Obj} (N : News h₀ L h (a :: b :: c :: (ld ++ own))) : News h₀ L h (ld ++ a :: b :: c :: own) := news_sub N (by
  intro p hp
  rcases List.mem_append.mp hp with hp | hp
  · exact .tail _ (.tail _ (.tail _ (List.mem_append_left _ hp)))
  · rcases List.mem_cons.mp hp with rfl | hp
    · exact .head _
    · rcases List.mem_cons.mp hp with rfl | hp
      · exact .tail _ (.head _)
      · rcases List.mem_cons.mp hp with rfl | hp
        · exact .tail _ (.tail _ (.head _))
        · exact .tail _ (.tail _ (.tail _ (List.mem_append_right _ hp))))
theorem news_tor {h₀ h : Heap} {L : Addr} {ld own : Led} {a b c : Addr × Obj} (N : News h₀ L h (ld ++ a :: b :: c :: own)) : News h₀ L h (a :: b :: c :: (ld ++ own)) := news_sub N (by
  intro p hp
  rcases List.mem_cons.mp hp with rfl | hp
  · exact List.mem_append_right _ (.head _)
  · rcases List.mem_cons.mp hp with rfl | hp
    · exact List.mem_append_right _ (.tail _ (.head _))
    · rcases List.mem_cons.mp hp with rfl | hp
      · exact List.mem_append_right _ (.tail _ (.tail _ (.head _)))
      · rcases List.mem_append.mp hp with hp | hp
        · exact List.mem_append_left _ hp
        · exact List.mem_append_right _ (.tail _ (.tail _ (.tail _ hp))))
theorem led_adr {P : Params} {X : LX} {left : List Value} {n tl b : Nat} {ln : Int} (hb : b ∈ X.adr) : ∃ o, (b, o) ∈ X.led P left n ln tl := by
  simp only [LX.adr, List.mem_cons, List.not_mem_nil, or_false] at hb
  unfold LX.led
  rcases hb with rfl | rfl | rfl | rfl | rfl | rfl | rfl | rfl | rfl <;> exact ⟨_, by k_mem⟩
theorem off_comp {P : Params} {X : LX} {left : List Value} {n tl I C D : Nat} {ln : Int} {own : Led} {oI oC oD : Obj} (off : LCg.Off3 I C D (X.led P left n ln tl ++ own)) (hown : OwnOff own X.adr) : OwnOff ((I, oI) :: (C, oC) :: (D, oD) :: own) X.adr := by
  intro p hp b hb
  obtain ⟨o, ho⟩ := led_adr (P := P) (left := left) (n := n) (tl := tl) (ln := ln) hb
  have h9 := off.mem _ (List.mem_append_left _ ho)
  rcases List.mem_cons.mp hp with rfl | hp
  · exact Ne.symm h9.1
  · rcases List.mem_cons.mp hp with rfl | hp
    · exact Ne.symm h9.2.1
    · rcases List.mem_cons.mp hp with rfl | hp
      · exact Ne.symm h9.2.2
      · exact hown p hp b hb
theorem off_led {P : Params} {X : LX} {left left' : List Value} {n n' tl tl' I C D : Nat} {ln ln' : Int} {own : Led} (off : LCg.Off3 I C D (X.led P left n ln tl ++ own)) : LCg.Off3 I C D (X.led P left' n' ln' tl' ++ own) := off
theorem eq_tvb {prog : Program} {w : World} {A : Around} {E : Value → Shared → Prop} {s : Shared} {h₀ : Heap} {L : Addr} {news : Led} {Q : Value → Shared → Prop} {l l' n n' : Nat} {a b : List (List Nat × Nat)} (bb : Bool) (hbb : (txts a == txts b) = bb) (N : News h₀ L s.heap news) (h1 : (l, W.listOf (tvals a).toArray n) ∈ news) (h2 : (l', W.listOf (tvals b).toArray n') ∈ news) (hu : A.units < cLine) (h : Q (.bool bb) s) :
    wpAny (model prog w) A (compareOp .Eq (.ref l) (.ref l')) Q E s := by subst hbb; exact eq_tv N h1 h2 hu h
theorem ne_tvs {prog : Program} {w : World} {A : Around} {E : Value → Shared → Prop} {s : Shared} {h₀ : Heap} {L : Addr} {news : Led} {Q : Value → Shared → Prop} {l l' n n' : Nat} {a b : List (List Nat × Nat)} (he : txts a = txts b) (N : News h₀ L s.heap news) (h1 : (l, W.listOf (tvals a).toArray n) ∈ news) (h2 : (l', W.listOf (tvals b).toArray n') ∈ news) (hu : A.units < cLine) (h : Q (.bool false) s) :
    wpAny (model prog w) A (compareOp .NotEq (.ref l) (.ref l')) Q E s := ne_tv N h1 h2 hu (by rw [he]; simpa using h)
theorem sum_le_join : ∀ ls : List (List Nat), (ls.map (·.length)).sum ≤ (joinL [34] ls).length
  | [] => Nat.zero_le _
  | [p] => by simp [joinL]
  | p :: q :: r => by
    have ih := sum_le_join (q :: r)
    rw [joinL_two, List.length_append]
    simp only [List.length_cons, List.map_cons, List.sum_cons] at ih ⊢
    omega
theorem S_10 : Str.ofString "\n" = S [10] := by decide +kernel
theorem cut_spec (w : World) (x : List Nat) (t d9 : Nat) (oD : Obj) (hd9 : 130 < d9) (hlen : x.length ≤ 100) :
   CodeSpec w 140 [.str (S x) t] 40 400 [((130 : Nat), tabObj #[]), (d9, oD)] (fun s => 0 < s.toks)
     (fun v ld' => v = .bool true ∧ ∃ (c qt : Nat) (oc : Obj) (cvs : Array Value), 130 < c ∧ oc.data = .fields cvs ∧ cvs[1]? = some (.str lamQual qt) ∧ ld' = [(c, oc), (130, tabObj (lamTab c)), (d9, oD)]) := by
  unfold CodeSpec
  k_fill
  intro loose mean mg mb dp un gd cn cs a ccd cl outer A₀ base h₀ L m s R hB hF hX hC hN hT hk hd hu ht0 hret
  refine codeAny_toks (Nat.le_refl s.toks) ?_
  have hA1 : Str.ofString "257 \"" ++ S x = S (50 :: 53 :: 55 :: 32 :: 34 :: x) := by rw [show Str.ofString "257 \"" = S [50, 53, 55, 32, 34] by decide +kernel, S_app]; rfl
  have hz1 : (Str.ofString "257 \"").length + (S x).length ≤ sizeLine := by rw [show Str.ofString "257 \"" = S [50, 53, 55, 32, 34] by decide +kernel, S_len, S_len, sizeLine_eq]; simp only [List.length_cons, List.length_nil]; omega
  k_dflt (refine' code_defC ?k1 ?k2 ?k3 ?k4 ?k5 ?kA ?kF ?kK ?k6 ?k7 ?k8 ?k9 ?kB ?kD ?_ ?c2 ?c3 ?c4; (case kA => exact rfl); (case kF => exact rfl); (case kK => assumption); (case k1 => k_asm); (case k2 => k_asm); (case k3 => k_asm); (case k4 => k_asm); (case k5 => k_asm); (case k6 => k_is); (case k7 => k_is); (case k8 => k_room); (case k9 => first | exact BindsTo.of_eq rfl | exact binds_K (by k_in) rfl (by k_is) rfl rfl rfl | fail "k_enter: no rule for these arguments"); (case kB => exact rfl); (case kD => decide +kernel); (case c2 => exact rfl); (case c3 => exact rfl); (case c4 => exact rfl); k_whole; intro g' L' h' tk' cells' FG' F' N' Y' B' X' T' l1; (try k_lt l1); k_cells Y'; (try simp only [List.cons_append, List.nil_append] at N'); (try dsimp only); (try k_lift B'); (try k_fold))
  (with_reducible rename Fr _ _ _ _ => F0); refine fr_let F0 ?_; clear F0; intro mk0 F0
  k_steps
  have hdl := dbl_len x
  have hA2 : Str.ofString "257 \"" ++ S (StrLaws.dbl 92 x) = S (50 :: 53 :: 55 :: 32 :: 34 :: StrLaws.dbl 92 x) := by rw [show Str.ofString "257 \"" = S [50, 53, 55, 32, 34] by decide +kernel, S_app]; rfl
  have hz2 : (Str.ofString "257 \"").length + (S (StrLaws.dbl 92 x)).length ≤ sizeLine := by rw [show Str.ofString "257 \"" = S [50, 53, 55, 32, 34] by decide +kernel, S_len, S_len, sizeLine_eq]; simp only [List.length_cons, List.length_nil]; omega
  rename_i q1 q2 d1 d2 _ _ _ _ _ _
  rename Fr _ _ _ _ => F
  rename News _ _ _ _ => N
  rename Below _ _ _ _ => B
  rename Frag.In _ _ => KX
  rename Top _ _ _ _ _ _ => TX
  dsimp only [Halt]
  with_unfolding_all refine' parse257_spec w x _ _ rfl ?hx loose mean mg mb _ _ _ _ _ _ _ _ _ _ _ _ _ _ _ _ _ _ B ?F KX ?N TX ?hk ?hd ?hu trivial ?_
  case hx => rw [S_len]; simp only [List.length_cons]; revert hlen; kjx_bare; omega
  case F => exact F
  case N => exact N
  case hk => exact rfl
  case hd => exact room_le 2 hd (by decide)
  case hu => exact room_le 11 hu (by decide)
  rintro v h1 tk1 ⟨tn, rfl⟩ hle1 F1 N1
  (try clear F); (try clear N)
  show wpAny _ _ _ _ _ _
  k_fold
  k_steps
  rename Fr _ _ _ _ => F
  rename News _ _ _ _ => N
  dsimp only [Halt]
  dsimp only at hle1
  refine SC.replaceW ?_ ?_ ?_ (by decide +kernel) (by rw [S_len]; exact Nat.le_trans hlen (by decide)) (by decide +kernel) (fun t2 k2 => ?_)
  · exact Nat.succ_ne_zero _
  · exact Nat.succ_ne_zero _
  · exact Nat.ne_of_lt (Nat.lt_succ_self _)
  rw [repl_S]
  k_steps
  rename Fr _ _ _ _ => F
  rename News _ _ _ _ => N
  dsimp only [Halt]
  refine' list_tv ?hh F N ?hl ?_
  case hh => exact rfl
  case hl => simp only [List.length_cons]; revert hdl hlen; kjx_bare; omega
  intro l n rem h3 tk3 hrem F3 N3 hb3
  (try clear F); (try clear N)
  have hla : @LT.lt Nat _ (L' + 1 + 1) l := hb3 (L' + 1 + 1, q1) (.head _)
  obtain ⟨t1, t2, t3, t4, rem, rfl, hrem2⟩ := split5 hrem
  clear hrem
  obtain ⟨t0, rem, rfl, hrem⟩ : ∃ t0 r, rem = (34, t0) :: r ∧ r.map (·.1) = StrLaws.dbl 92 x := by
    cases rem with
    | nil => simp at hrem2
    | cons p r => obtain ⟨a9, b9⟩ := p; simp only [List.map_cons, List.cons.injEq] at hrem2; exact ⟨b9, r, by rw [hrem2.1], hrem2.2⟩
  clear hrem2
  have hrl : rem.length ≤ 200 := by have h9 := congrArg List.length hrem; rw [List.length_map] at h9; revert h9 hdl hlen; kjx_bare; omega
  k_steps
  rename Fr _ _ _ _ => F
  rename News _ _ _ _ => N
  have N4 : News _ _ _ [(l, W.listOf (vals ((50, t1) :: (53, t2) :: (55, t3) :: (32, t4) :: (34, t0) :: rem)).toArray n), ((130 : Nat), tabObj #[]), (L' + 1 + 1, q1), (L' + 1, q2), (d9, oD)] := news_sub N (by kst_in)
  (try clear N)
  dsimp only [Halt]
  refine wpAny_call ?_
  with_unfolding_all refine' lexer_new3 w l (vals ((50, t1) :: (53, t2) :: (55, t3) :: (32, t4) :: (34, t0) :: rem)) n (L' + 1 + 1) (L' + 1) d9 q1 q2 oD ?ho loose mean mg mb _ _ _ _ _ _ _ _ _ _ _ _ _ _ _ _ B ?F KX hC ?N TX ?hk ?hd ?hu trivial ?_
  case ho => exact ⟨hd9, Nat.lt_succ_of_lt l1.2, Nat.lt_succ_self _, hla⟩
  case F => exact F
  case N => exact N4
  case hk => exact rfl
  case hd => exact room_le 10 hd (by decide)
  case hu => exact room_le 102 hu (by decide)
  rintro v ld' h5 tk5 ⟨X, hX, rfl, hXl, hlc, tl, rfl⟩ hle5 F5 N5
  subst hXl
  have hX' := hX
  obtain ⟨hord, hXoc, hXvs, hXcell⟩ := hX'
  obtain ⟨o1, _⟩ := hord
  have hla3 : @LT.lt Nat _ (L' + 1) X.l := Nat.lt_trans (Nat.lt_succ_self _) hla
  obtain ⟨u1, u2, u3, u4, u5, u6, u7, u8, u9⟩ := adr_off hX hlc hla
  obtain ⟨y1, y2, y3, y4, y5, y6, y7, y8, y9⟩ := adr_off hX hlc hla3
  have z1 : @Ne Nat 130 (L' + 1) := Nat.ne_of_lt (Nat.lt_succ_of_lt l1.1)
  have z2 : @Ne Nat 130 (L' + 1 + 1) := Nat.ne_of_lt (Nat.lt_succ_of_lt (Nat.lt_succ_of_lt l1.1))
  have z3 : @Ne Nat d9 (L' + 1) := Nat.ne_of_lt (Nat.lt_succ_of_lt l1.2)
  have z4 : @Ne Nat d9 (L' + 1 + 1) := Nat.ne_of_lt (Nat.lt_succ_of_lt (Nat.lt_succ_of_lt l1.2))
  have z5 : @Ne Nat (L' + 1) (L' + 1 + 1) := Nat.ne_of_lt (Nat.lt_succ_self _)
  have N6 := N5
  unfold LX.led LX.dict at N6
  dsimp only [List.cons_append, List.nil_append] at N6
  have F6 := F5
  (try clear F); (try clear N4); (try clear N5); (try clear F5); (try clear F3); (try clear N3)
  show wpAny _ _ _ _ _ _
  k_fold
  k_steps
  rename Fr _ _ _ _ => F
  rename News _ _ _ _ => N
  dsimp only [Halt]
  refine wpAny_call ?_
  have hla2 : 130 < d9 ∧ @LT.lt Nat _ d9 (L' + 1) ∧ @LT.lt Nat _ (L' + 1) (L' + 1 + 1) ∧ @LT.lt Nat _ (L' + 1 + 1) X.l := ⟨hd9, Nat.lt_succ_of_lt l1.2, Nat.lt_succ_self _, hla⟩
  with_unfolding_all refine' get_token_257 w X hX [((130 : Nat), _), (L' + 1 + 1, _), (L' + 1, _), (d9, oD)] (own3_off hX hla2 hlc) t1 t2 t3 t4 ((34, t0) :: rem) n tl 1 ?hlen ?hln loose mean mg mb _ _ _ _ _ _ _ _ _ _ _ _ _ _ _ _ B ?F KX hC ?N TX ?hk ?hd ?hu trivial ?_
  case N => exact N
  case F => exact F
  case hlen => simp only [List.length_cons]; revert hrl; kjx_bare; omega
  case hln => simp only [List.length_cons]; revert hrl; kjx_bare; omega
  case hk => exact rfl
  case hd => exact room_le 21 hd (by decide)
  case hu => exact room_le 203 hu (by decide)
  rintro v ld' h7 tk7 ⟨tw7, n7, tl7, rfl, rfl⟩ hle7 F7 N7
  (try clear F); (try clear N)
  have N8 := N7
  unfold LX.led LX.dict at N8
  dsimp only [List.cons_append, List.nil_append] at N8
  show wpAny _ _ _ _ _ _
  k_fold
  k_steps
  rename Fr _ _ _ _ => F
  rename News _ _ _ _ => N
  dsimp only [Halt]
  k_dflt (refine LCg.Assign_ListComp_U (F₀ := F) (by rfl) (by with_unfolding_all rfl) (by with_unfolding_all rfl) (by decide) (by rfl) (by decide) (by rfl) (by rfl) (by rfl) ?_)
  k_steps
  rename Fr _ _ _ _ => F
  rename News _ _ _ _ => N
  dsimp only [Halt]
  have hpl := ps_len x
  with_unfolding_all refine' countOf_spec2 w (ps x) 34 _ _ (Str.ofString "\"") ?hx S_34 loose mean mg mb _ _ _ _ _ _ _ _ _ _ _ _ _ _ _ _ _ _ B ?F KX ?N TX ?hk ?hd ?hu ?pre ?_
  case hx => rw [S_len]; exact Nat.le_trans hpl (Nat.le_trans hlen (by decide))
  case F => exact F
  case N => exact N
  case hk => exact rfl
  case hd => exact room_le 2 hd (by decide)
  case hu => exact room_le 11 hu (by decide)
  case pre => exact ⟨Nat.succ_pos _, Nat.lt_succ_self _⟩
  rintro v h9 tk9 ⟨tc, rfl⟩ hle9 F9 N9
  (try clear F); (try clear N)
  show wpAny _ _ _ _ _ _
  k_fold
  k_steps
  rename Fr _ _ _ _ => F
  rename News _ _ _ _ => N
  dsimp only [Halt]
  refine range1_rows F N (fun h10 tk10 r1 r2 r3 hr10 F10 N10 hk10 => ?_)
  have hfree := cutL_all x
  have hcnt : (ps x).count 34 + 1 = (ev (cutL x)).1.length := by
    have h9 := ps_ev (cutL x) hfree
    rw [join_cut] at h9
    rw [h9]; exact count_join _ (ev_ne _ (cutL_ne x)) (ev_free _ hfree)
  have hcl : (ps x).count 34 ≤ 100 := Nat.le_trans List.count_le_length (Nat.le_trans hpl hlen)
  k_dflt (refine LCg.CompSrc.range (n := (ev (cutL x)).1.length) (by rfl) F10 N10 hr10 ?_ ?_ ?_ ?_)
  · exact small_one (by decide) (by decide) (by revert hcl; kjx_bare; omega) (by revert hcl; kjx_bare; omega)
  · rw [← hcnt]; exact size_nat _
  · rw [← hcnt, sizeLine_eq]; revert hcl; kjx_bare; omega
  intro g9
  rename Obj => oL
  rename oL.data = _ => hoL
  refine comp_all (fun i ys nw => ∃ (ws : List (List Nat × Nat)) (rem' : List (Nat × Nat)) (n' tl' : Nat) (ln' : Int), ys = tvals ws ∧ nw = X.led w.params (vals rem') n' ln' tl' ++ [((130 : Nat), tabObj (lamTab X.c)), (L' + 1 + 1, q1), (L' + 1, oL), (d9, oD)] ∧ ln' + cnl rem' = 1 + cnl rem ∧ rem'.length ≤ 201 ∧ 0 ≤ ln' ∧ ws.length = i ∧
      ((∃ pl', pl' ≠ [] ∧ (∀ p ∈ pl', 34 ∉ p) ∧ txts ws ++ (ev pl').1 = (ev (cutL x)).1 ∧ (ev pl').2 = (ev (cutL x)).2 ∧ rem'.map (·.1) = 34 :: stA pl') ∨ (txts ws = (ev (cutL x)).1 ∧ rem'.map (·.1) = stA (ev (cutL x)).2))) ?_ ?_ ?_
  · refine ⟨[], (34, t0) :: rem, n7, tl7, 1, rfl, rfl, ?_, ?_, by decide, rfl, .inl ⟨cutL x, cutL_ne x, hfree, rfl, rfl, ?_⟩⟩
    · rw [cnl_cons]; show 1 + (0 + cnl rem) = _; kjx_bare; omega
    · simp only [List.length_cons]; revert hrl; kjx_bare; omega
    · unfold stA; rw [join_cut, List.map_cons, hrem]
  · rintro i ys nw v I oI C oC D m₂ h tk E' hi hv ⟨ws, rem', n', tl', ln', rfl, rfl, hln, hrl', hln0, hwl, hst⟩ hC9 hx F11 N11 off ne
    have hlt9 : txts ws ≠ (ev (cutL x)).1 := by intro h; have h9 := congrArg List.length h; rw [txts_len, hwl] at h9; exact Nat.ne_of_lt hi h9
    rcases hst with ⟨pl', hne', hf', hev1, hev2, hmap⟩ | ⟨h9, _⟩
    rotate_left
    · exact absurd h9 hlt9
    obtain ⟨t9, rem9, rfl, hrem9⟩ : ∃ t9 r9, rem' = (34, t9) :: r9 ∧ r9.map (·.1) = stA pl' := by
      cases rem' with
      | nil => simp at hmap
      | cons p r => obtain ⟨a9, b9⟩ := p; simp only [List.map_cons, List.cons.injEq] at hmap; exact ⟨b9, r, by rw [hmap.1], hmap.2⟩
    have N12 := N11
    unfold LX.led LX.dict at N12
    dsimp only [List.cons_append, List.nil_append] at N12
    have off2 := off
    unfold LX.led LX.dict at off2
    simp only [List.cons_append, List.nil_append, LCg.Off3, and_true] at off2
    show wpAny _ _ _ _ _ _
    k_fold
    k_steps
    rename Fr _ _ _ _ => F
    dsimp only [Halt]
    refine wpAny_call ?_
    have hc1 := cnl_le rem
    have hc2 := cnl_le rem9
    rw [cnl_cons] at hln
    have h340 : nl 34 = 0 := rfl
    simp only [List.length_cons] at hrl'
    with_unfolding_all refine' get_token_q w X hX ((I, oI) :: (C, oC) :: (D, LCg.lst (tvals ws)) :: [((130 : Nat), tabObj (lamTab X.c)), (L' + 1 + 1, q1), (L' + 1, oL), (d9, oD)]) (off_comp off (own3_off hX hla2 hlc)) t9 rem9 n' tl' ln' ?hlen ?hln loose mean mg mb _ _ _ _ _ _ _ _ _ _ _ _ _ _ _ _ B ?F KX hC ?N TX ?hk ?hd ?hu trivial ?_
    case F => exact F
    case N => exact news_rot N11
    case hlen => revert hrl'; kjx_bare; omega
    case hln => revert hln hc1 hc2 h340 hrl hrl' hln0; kjx_bare; omega
    case hk => exact rfl
    case hd => exact room_le 21 hd (by decide)
    case hu => exact room_le 203 hu (by decide)
    rintro v ld' h12 tk12 ⟨tw, n2, tl2, rfl, rfl⟩ hle12 F13 N13
    k_steps
    dsimp only [Halt]
    obtain ⟨pp, hpp⟩ := qr_suf rem9
    have hc3 := cnl_le pp
    have hc4 : cnl rem9 = cnl pp + cnl (qr rem9).2 := by rw [← cnl_app, ← hpp]
    have hc5 : rem9.length = pp.length + (qr rem9).2.length := by rw [← List.length_append, ← hpp]
    have hq1 := qr_qc rem9
    rw [hrem9] at hq1
    refine LCg.CompEnd.intro F13 (news_tor N13) _ (fun p hp => hp) (off_led off) True.intro ⟨ws ++ [((qr rem9).1, tw)], (qr rem9).2, n2, tl2, ln' + cnl rem9 - cnl (qr rem9).2, by simp [tvals], rfl, by revert hln h340; kjx_bare; omega, by revert hc5 hrl'; kjx_bare; omega, by revert hln0 hc4 hc3; kjx_bare; omega, by rw [List.length_append, hwl]; rfl, ?_⟩
    obtain ⟨p9, hcase⟩ := ev_cases pl' hne' hf'
    rcases hcase with ⟨r9, hr9, hpl9, hev9, hqc9⟩ | ⟨hev9, r9, hpl9, hev8, hqc9⟩
    · refine .inl ⟨r9, hr9, fun p hp => hf' p (by rw [hpl9]; exact .tail _ (.tail _ hp)), ?_, ?_, ?_⟩
      · rw [txts_app, ← hev1, hev9, hq1.1, hqc9]; simp [txts]
      · rw [← hev2, hev9]
      · rw [hq1.2, hqc9]
    · refine .inr ⟨?_, ?_⟩
      · rw [txts_app, ← hev1, hev9, hq1.1, hqc9]; simp [txts]
      · rw [hq1.2, hqc9, ← hev2, hev8]
  · rintro ys nw ⟨ws, rem', n', tl', ln', rfl, rfl, hln, hrl', hln0, hwl, hst⟩
    obtain ⟨hws, hleft⟩ : txts ws = (ev (cutL x)).1 ∧ rem'.map (·.1) = stA (ev (cutL x)).2 := by
      rcases hst with ⟨pl', hne', _, hev1, _, _⟩ | h
      · exfalso
        have h9 := congrArg List.length hev1
        rw [List.length_append, txts_len, hwl] at h9
        have h8 := List.length_pos_iff.mpr (ev_ne pl' hne')
        revert h9 h8; kjx_bare; omega
      · exact h
    clear hst
    unfold LCg.FinA
    intro wl h14 tk14 F14 N14 off14
    unfold LX.led at off14 N14
    simp only [List.cons_append, List.nil_append, LCg.Off1, and_true] at off14
    dsimp only [List.cons_append, List.nil_append] at N14
    have z7 : @Ne Nat (L' + 1 + 1) wl := off14.2.2.2.2.2.2.2.2.2.2.1
    replace N14 := news_sub (b := [(wl, LCg.lst (tvals ws)), (X.l, W.listOf (vals rem').toArray n'), (X.dx, dictOf (X.dict w.params ln' tl') 4), (X.x, instObj 91 X.dx), (X.c, X.oc), ((130 : Nat), tabObj (lamTab X.c)), (L' + 1 + 1, q1), (L' + 1, oL), (d9, oD)]) N14 (by kst_in)
    clear off14
    k_steps
    rename Fr _ _ _ _ => F
    rename News _ _ _ _ => N
    dsimp only [Halt]
    refine split_tv F N (Nat.le_trans hlen (by decide)) (fun pD us h15 tk15 htx F15 N15 hb15 => ?_)
    have lb15 := hb15 (L' + 1 + 1, q1) (by k_mem)
    have z6 : @Ne Nat pD (L' + 1 + 1) := Nat.ne_of_gt lb15
    (try clear F); (try clear N); (try clear F14); (try clear N14)
    k_steps
    rename Fr _ _ _ _ => F
    rename News _ _ _ _ => N
    dsimp only [Halt]
    have husl : us.length ≤ 101 := by have h9 := congrArg List.length htx; rw [txts_len] at h9; have h8 := cut_len x; revert h9 h8 hlen; kjx_bare; omega
    have husl2 : us.length = (cutL x).length := by rw [← htx, txts_len]
    refine' while_led (σ := Nat × Nat) _ (fun c => [(Str.ofString "last", .int (2 * (c.1 : Int)) c.2)]) [] (fun c => EvInv (cutL x) c.1) (fun c => 2 * c.1 < us.length ∧ (ev (cutL x)).1 = evens (cutL x) (c.1 + 1) ∧ (ev (cutL x)).2 = (cutL x).drop (2 * c.1 + 1)) (fun c => us.length - 2 * c.1) (0, _) F N ?hk ?hp ?turn ?done
    case hk => kst_all
    case hp => exact evinv_start _ (cutL_ne x)
    case turn =>
      rintro ⟨i, ti⟩ u h tk hinv hle16 F16 N16
      dsimp only [kstB] at F16 hinv ⊢
      have hi2 : 2 * i < us.length := by rw [husl2]; exact hinv.1
      (try clear F); (try clear N)
      show wpAny _ _ _ _ _ _
      k_fold
      k_steps
      rename Fr _ _ _ _ => F
      rename News _ _ _ _ => N
      dsimp only [Halt]
      refine slice_tv (s := ⟨_, _, _, _, _⟩) (us := us) (zs := (us.drop (2 * i + 1)).take 1) (n := 0) F N (.head _) (.int _ _) (.int _ _) (by rw [show (2 * (i : Int) + 1) = ((2 * i + 1 : Nat) : Int) by kjx_bare; omega, show (2 * (i : Int) + 2) = ((2 * i + 2 : Nat) : Int) by kjx_bare; omega, pick_run_tv, tvals_drop, tvals_take]; congr 3; kjx_bare; omega) (Nat.le_trans husl (by decide)) (fun D1 h17 F17 N17 hb17 => ?_) (by with_unfolding_all rfl) (by kmk_pure)
      (try clear F); (try clear N)
      k_steps
      rename Fr _ _ _ _ => F
      rename News _ _ _ _ => N
      simp only [S_nil] at N
      dsimp only [Halt]
      have hza : txts ((us.drop (2 * i + 1)).take 1) = ((cutL x).drop (2 * i + 1)).take 1 := by rw [← htx]; simp [txts, List.map_take, List.map_drop]
      by_cases hb : ((cutL x).drop (2 * i + 1)).take 1 = [[]]
      · refine eq_tvb (a := (us.drop (2 * i + 1)).take 1) (b := [([], _)]) true (by rw [hza, hb]; rfl) N (.tail _ (.head _)) (.head _) (by k_units) ?_
        k_steps
        rename Fr _ _ _ _ => F
        rename News _ _ _ _ => N
        dsimp only [Halt]
        refine len_list (isList_of (a := (tvals us).toArray) (n := 0) N (by k_mem)) (by rw [List.size_toArray, tvals_len]; revert husl; kjx_bare; omega) ?_
        rw [show (tvals us).toArray.size = us.length by rw [List.size_toArray, tvals_len]]
        k_steps
        · rename Fr _ _ _ _ => F9
          rw [show 2 * (i : Int) + 2 = 2 * ((i + 1 : Nat) : Int) by kjx_bare; omega] at F9
          rename 2 * (i : Int) + 2 < _ => hlt9
          exact nextL (i + 1, _) F9 (by assumption) (fun _ h => .tail _ (.tail _ h)) (by kst_all) (by intro z hz _; have h9 := hz _ (.head _); dsimp only at h9; simp +zetaDelta [h9]) (evinv_turn hinv (by revert hlt9 husl2; kjx_bare; omega) hb) (by dsimp only; revert hi2; kjx_bare; omega)
        · dsimp only [Halt]
          refine LedDone.intro (by assumption) (by assumption) (fun _ h => .tail _ (.tail _ h)) ⟨hi2, evinv_end hinv ?_⟩
          rintro ⟨_, h9⟩
          rename ¬ 2 * (i : Int) + 2 < _ => hlt9
          revert h9 hlt9 husl2; kjx_bare; omega
      · refine eq_tvb (a := (us.drop (2 * i + 1)).take 1) (b := [([], _)]) false (by rw [hza, Bool.eq_false_iff]; intro h9; exact hb (by simpa [txts] using h9)) N (.tail _ (.head _)) (.head _) (by k_units) ?_
        k_steps
        dsimp only [Halt]
        exact LedDone.intro (by assumption) (by assumption) (fun _ h => .tail _ (.tail _ h)) ⟨hi2, evinv_end hinv fun h9 => hb h9.1⟩
    case done =>
      rintro ⟨i, ti⟩ u h tk ⟨hi2, hev1, hev2⟩ hle16 F16 N16
      dsimp only [kstB] at F16 hi2 hev1 hev2
      (try clear F); (try clear N)
      dsimp only
      intro _
      k_steps
      rename Fr _ _ _ _ => F
      rename News _ _ _ _ => N
      dsimp only [Halt]
      k_dflt (refine ListComp_C F (by with_unfolding_all rfl) (by decide) (by rfl) (by decide) (by rfl) ?_)
      k_steps
      rename Fr _ _ _ _ => F
      rename News _ _ _ _ => N
      dsimp only [Halt]
      refine range3_rows F N (by decide) (fun h18 tk18 r1 r2 r3 hr18 F18 N18 hk18 => ?_)
      k_dflt (refine SrcC.range (n := i + 1) (by rfl) F18 N18 hr18 (small_two i (by revert hi2 husl; kjx_bare; omega)) (size_two i) (by rw [sizeLine_eq]; revert hi2 husl; kjx_bare; omega) ?_)
      intro g18
      refine comp_all (fun j ys nw => nw = _ ∧ ∃ zs : List (List Nat × Nat), ys = tvals zs ∧ txts zs = evens (cutL x) j) ⟨rfl, [], rfl, rfl⟩ ?_ ?_
      · rintro j ys nw v I oI C oC D m₂ h19 tk19 E' hj ⟨tj, rfl⟩ ⟨rfl, zs, rfl, hzs⟩ hC9 hx9 F19 N19 off ne
        (try clear F); (try clear N); (try clear F18); (try clear N18)
        simp +zetaDelta only [LCg.Off3, and_true] at off
        show wpAny _ _ _ _ _ _
        k_fold
        k_steps
        dsimp only [Halt]
        have hjl : 2 * j < us.length := by revert hj hi2; kjx_bare; omega
        obtain ⟨⟨e9, te9⟩, hp9⟩ : ∃ p, us[2 * j]? = some p := ⟨_, List.getElem?_eq_getElem hjl⟩
        have he9 : (cutL x).getD (2 * j) [] = e9 := by rw [← htx, List.getD_eq_getElem?_getD]; simp [txts, hp9]
        refine item_list (isList_of (a := (tvals us).toArray) (n := 0) N19 (.tail _ (.tail _ (.tail _ (.head _))))) (by kjx_bare; omega) (by revert hjl husl; kjx_bare; omega) (x := .str (S e9) te9) (by rw [show ((0 : Int) + (j : Int) * 2).toNat = 2 * j by kjx_bare; omega]; simp [tvals, hp9]) ?_
        k_steps
        dsimp only [Halt]
        refine LCg.CompEnd.intro F19 N19 _ (fun p hp => hp) ?_ True.intro ⟨rfl, zs ++ [(e9, te9)], by simp [tvals], by rw [txts_app, hzs, evens_succ, he9]; rfl⟩
        simp +zetaDelta only [LCg.Off3, and_true]; exact off
      · rintro ys nw ⟨rfl, zs, rfl, hzs⟩
        (try clear F); (try clear N); (try clear F18); (try clear N18)
        unfold LCg.FinE
        intro zl h20 tk20 F20 N20 off20
        simp +zetaDelta only [LCg.Off1, and_true] at off20
        k_steps
        rename Fr _ _ _ _ => F
        rename News _ _ _ _ => N
        dsimp only [Halt]
        refine ne_tvs (a := ws) (b := zs) (n := (tvals ws).length) (n' := (tvals zs).length) (by rw [hws, hzs, hev1]) N (.tail _ (.tail _ (.head _))) (.head _) (by k_units) ?_
        k_steps
        rename Fr _ _ _ _ => F
        rename News _ _ _ _ => N
        dsimp only [Halt]
        have hpe := ps_ev (cutL x) hfree
        rw [join_cut] at hpe
        refine join_tvq (us := ws) (n := (tvals ws).length) (sep := [34]) S_34 N (.tail _ (.tail _ (.head _))) (by simp) ?_ (fun t21 k21 => ?_)
        · have h9 := sum_le_join (txts ws)
          rw [hws, ← hpe] at h9
          rw [hws]; revert h9 hpl hlen hwl hcnt hcl; kjx_bare; omega
        rw [show joinL [34] (txts ws) = ps x by rw [hws, hpe]]
        k_steps
        · exact absurd (by assumption : (S (ps x) != S (ps x)) = true) (by simp)
        rename Fr _ _ _ _ => F
        rename News _ _ _ _ => N
        dsimp only [Halt]
        refine slice_tv (s := ⟨_, _, _, _, _⟩) (us := us) (zs := us.drop (2 * i + 1)) (n := 0) F N (by k_mem) (.int _ _) .none (by rw [show (2 * (i : Int) + 1) = ((2 * i + 1 : Nat) : Int) by kjx_bare; omega, pick_from_tv, tvals_drop]) (Nat.le_trans husl (by decide)) (fun D2 h22 F22 N22 hb22 => ?_) (by with_unfolding_all rfl) (by kmk_pure)
        (try clear F); (try clear N)
        k_steps
        rename Fr _ _ _ _ => F
        rename News _ _ _ _ => N
        dsimp only [Halt]
        have hzd : txts (us.drop (2 * i + 1)) = (ev (cutL x)).2 := by rw [hev2, ← htx]; simp [txts, List.map_drop]
        have hsum9 := sum_cut x
        have hlen9 : ((txts (us.drop (2 * i + 1))).map (·.length)).sum ≤ 101 := by
          have h9 := sum_drop (cutL x) (2 * i + 1)
          rw [hzd, hev2]; revert h9 hsum9 hlen; kjx_bare; omega
        refine join_tvq (us := us.drop (2 * i + 1)) (n := 0) (sep := [34]) S_34 N (.head _) (by simp) ?_ (fun t23 k23 => ?_)
        · rw [List.length_drop]; revert hlen9 husl; kjx_bare; omega
        rw [show joinL [34] (txts (us.drop (2 * i + 1))) = joinL [34] (ev (cutL x)).2 by rw [hzd]]
        have hrl9 : (joinL [34] (ev (cutL x)).2).length ≤ 202 := by
          have h9 := joinL_len (txts (us.drop (2 * i + 1)))
          rw [txts_len, List.length_drop] at h9
          rw [hzd] at h9 hlen9; revert h9 hlen9 husl; kjx_bare; omega
        have hrdl := dbl_len (joinL [34] (ev (cutL x)).2)
        k_steps
        rename Fr _ _ _ _ => F
        rename News _ _ _ _ => N
        dsimp only [Halt]
        refine SC.replaceW ?_ ?_ ?_ (by decide +kernel) (by rw [S_len]; exact Nat.le_trans hrl9 (by decide)) (by decide +kernel) (fun t24 k24 => ?_)
        · exact Nat.succ_ne_zero _
        · exact Nat.succ_ne_zero _
        · exact Nat.ne_of_lt (Nat.lt_succ_self _)
        rw [repl_S]
        k_steps
        rename Fr _ _ _ _ => F
        rename News _ _ _ _ => N
        dsimp only [Halt]
        refine' list_tv ?hh F N ?hl ?_
        case hh => exact rfl
        case hl => revert hrdl hrl9; kjx_bare; omega
        intro l2 n2 rem2 h25 tk25 hrem25 F25 N25 hb25
        (try clear F); (try clear N)
        k_steps
        rename Fr _ _ _ _ => F
        rename News _ _ _ _ => N
        dsimp only [Halt]
        refine ne_same (a := rem') (b := rem2) (n := n') (n' := n2) (by rw [hleft, hrem25]; rfl) N (by k_mem) (.head _) (by k_units) ?_
        unfold LX.dict at N
        k_steps
        rename Fr _ _ _ _ => F
        rename News _ _ _ _ => N
        dsimp only [Halt]
        have hfin : ln' = 1 + (x.count 10 : Int) - ((joinL [34] (ev (cutL x)).2).count 10 : Int) := by
          have e1 := cnl_count rem
          have e2 := cnl_count rem'
          rw [hrem, count_dbl] at e1
          rw [hleft] at e2
          unfold stA at e2
          rw [count_dbl] at e2
          revert e1 e2 hln; kjx_bare; omega
        with_unfolding_all refine' countOf_spec2 w x 10 _ _ (Str.ofString "\n") ?hx1 S_10 loose mean mg mb _ _ _ _ _ _ _ _ _ _ _ _ _ _ _ _ _ _ B ?F KX ?N TX ?hk ?hd ?hu ?pre ?_
        case hx1 => rw [S_len]; exact Nat.le_trans hlen (by decide)
        case F => exact F
        case N => exact N
        case hk => exact rfl
        case hd => exact room_le 2 hd (by decide)
        case hu => exact room_le 11 hu (by decide)
        case pre => exact ⟨Nat.succ_pos _, Nat.lt_succ_self _⟩
        rintro v h26 tk26 ⟨tc26, rfl⟩ hleh26 Fh26 Nh26
        (try clear F); (try clear N)
        show wpAny _ _ _ _ _ _
        k_fold
        k_steps
        rename Fr _ _ _ _ => F
        rename News _ _ _ _ => N
        dsimp only [Halt]
        with_unfolding_all refine' countOf_spec2 w (joinL [34] (ev (cutL x)).2) 10 _ _ (Str.ofString "\n") ?hx2 S_10 loose mean mg mb _ _ _ _ _ _ _ _ _ _ _ _ _ _ _ _ _ _ B ?F KX ?N TX ?hk ?hd ?hu ?pre ?_
        case hx2 => rw [S_len]; exact Nat.le_trans hrl9 (by decide)
        case F => exact F
        case N => exact N
        case hk => exact rfl
        case hd => exact room_le 2 hd (by decide)
        case hu => exact room_le 11 hu (by decide)
        case pre => exact ⟨Nat.succ_pos _, Nat.lt_succ_self _⟩
        rintro v h27 tk27 ⟨tc27, rfl⟩ hleh27 Fh27 Nh27
        (try clear F); (try clear N)
        show wpAny _ _ _ _ _ _
        k_fold
        k_steps
        rename News h₀ L _ _ => kN
        rename Fr h₀ L _ m => kF
        have hv9 : (ln' == 1 + (x.count 10 : Int) - ((joinL [34] (ev (cutL x)).2).count 10 : Int)) = true := by rw [beq_iff_eq]; exact hfin
        rw [hv9]
        exact hret _ [(X.c, X.oc), (130, tabObj (lamTab X.c)), (d9, oD)] _ _ ⟨rfl, X.c, X.qt, X.oc, X.vs, Nat.lt_trans o1 hlc, hXoc, hXvs, rfl⟩ (by assumption) kF (news_sub kN (by kst_in))
end
end Mine
end
section
open PySem PySem.W PyProof.Rows PyProof
set_option maxRecDepth 100000
set_option maxHeartbeats 16000000
set_option pp.maxSteps 8000
set_option pp.deepTerms false
namespace Mine
section
local macro_rules | `(tactic| walk_at "execs cons") => `(tactic| ((refine execs_tk ?_); (try dsimp only)))
local macro_rules | `(tactic| walk_at "execs nil") => `(tactic| (refine wpAny_execs_nil ?_))
local macro_rules | `(tactic| walk_at "call ref") => `(tactic| refine halt ?_)
theorem law_holds : PySem.Challenge.rw_wn0037_01.Holds := hd (by
  k_go0
  (all_goals try k_fold)
  k_steps
  rename Fr _ _ _ _ => F
  rename News _ _ _ _ => N
  dsimp only [Halt]
  rename Below _ _ _ _ => B
  rename Frag.In _ _ => KX
  rename Top topProg _ _ _ _ _ => TX
  rename IntsAre _ _ => hI
  rename CodeHd _ _ _ => hC
  rename (_ : Heap).IsList _ _ => hl9
  rename ¬ _ < _ => hlen9
  refine wpAny_call ?_
  with_unfolding_all refine' texts_spec _ _ _ _ hI ?hz _ _ _ _ _ _ _ _ _ _ _ _ _ _ _ _ _ _ _ _ B ?F KX hC ?N TX ?hk ?hd ?hu ?pre ?_
  case hz => omega
  case F => exact F
  case N => exact N
  case hk => exact rfl
  case hd => decide
  case hu => decide
  case pre => exact ⟨by assumption, Nat.succ_pos _⟩
  rintro v ld' h1 tk1 ⟨D, x0, x1, t0, t1, rfl, rfl, hD, hx0, hx1, ht1, ht2⟩ hle1 F1 N1
  (try clear F); (try clear N)
  show wpAny _ _ _ _ _ _
  k_fold
  k_steps
  rename Fr _ _ _ _ => F
  rename News _ _ _ _ => N
  dsimp only [Halt]
  refine wpAny_call ?_
  with_unfolding_all refine' cut_spec _ x0 t0 D _ hD hx0 _ _ _ _ _ _ _ _ _ _ _ _ _ _ _ _ _ _ _ _ B ?F KX hC ?N TX ?hk ?hd ?hu ?pre ?_
  case F => exact F
  case N => exact news_sub N (by kst_in)
  case hk => exact rfl
  case hd => decide
  case hu => decide
  case pre => exact Nat.succ_pos _
  rintro v ld' h3 tk3 ⟨rfl, c, qt, oc, cvs, hc, hoc, hcv, rfl⟩ hle3 F3 N3
  (try clear F); (try clear N)
  show wpAny _ _ _ _ _ _
  k_fold
  k_steps
  rename Fr _ _ _ _ => F
  rename News _ _ _ _ => N
  dsimp only [Halt]
  refine wpAny_call ?_
  with_unfolding_all refine' meant_spec _ x1 t1 c qt oc cvs hx1 hc hoc hcv _ _ _ _ _ _ _ _ _ _ _ _ _ _ _ _ _ _ _ _ B ?F KX hC ?N TX ?hk ?hd ?hu ?pre ?_
  case F => exact F
  case N => exact news_sub N (by kst_in)
  case hk => exact rfl
  case hd => decide
  case hu => decide
  case pre => exact ⟨ht1, by dsimp only at *; omega⟩
  rintro v ld' h5 tk5 ⟨rfl, c', rfl⟩ hle5 F5 N5
  (try clear F); (try clear N)
  dsimp only
  intro _
  k_steps)
end
end Mine
end
set_option maxRecDepth 100000 in
set_option maxHeartbeats 16000000 in
theorem PySem.Challenge.cw_wn0037_01_holds : PySem.Challenge.rw_wn0037_01.Holds := by
  exact Mine.law_holds
