import PyProof.Rows.All
import Wide.All
import OpenK.AllK
import Wide.FinOn
import Lean
import PySem.Challenge.RW_xg0038_01
set_option Elab.async false
section
open PySem PySem.W PyProof.Rows
namespace Mine
set_option maxRecDepth 100000 in
set_option maxHeartbeats 8000000 in
open_top hd for PySem.Challenge.rw_xg0038_01
end Mine
end
section
open PySem PySem.W PyProof.Rows
namespace Mine
/-- a text by its signs' numbers -/
noncomputable def tx (l : List Nat) : Str := ⟨l.toArray⟩
theorem tx_append (a b : List Nat) : tx a ++ tx b = tx (a ++ b) := by
  apply Str.ext'
  simp [tx, Str.cps_append]
theorem tx_length (a : List Nat) : (tx a).length = a.length := by
  simp [tx, Str.length]
theorem map1 {m : Str → Option Value} {x : Str} {vx : Value} (hx : m x = some vx) : m = fun z => if z = x then some vx else m z := by
  funext z; split
  · subst_vars; exact hx
  · rfl
theorem map2 {m : Str → Option Value} {x y : Str} {vx vy : Value} (hx : m x = some vx) (hy : m y = some vy) : m = fun z => if z = x then some vx else if z = y then some vy else m z := by
  funext z; split
  · subst_vars; exact hx
  · split
    · subst_vars; exact hy
    · rfl
noncomputable def drGo : Nat → Int → List Nat → List Nat
  | 0, _, s => s
  | n + 1, r, s => if 1 < r then drGo n (r.fdiv 2) ((if r.fmod 2 = 1 then 43 else 45) :: s) else s
noncomputable def drawnL (code : Int) : List Nat := drGo 4 (code.fmod 15 + 1) []
end Mine
namespace Mine
noncomputable def wrSign (goal worth : Int) : Nat := if worth < goal then 43 else 45
noncomputable def wrStep (goal worth step : Int) (signs : List Nat) : Int := if step < 4 ∨ wrSign goal worth ≠ (signs ++ [wrSign goal worth]).headD 0 then step.fdiv 2 else step
noncomputable def wrGo (goal : Int) : Nat → Int → Int → List Nat → Option (List Nat)
  | 0, worth, _, signs => if worth = goal then some signs else none
  | n + 1, worth, step, signs =>
    if worth = goal then some signs else
      wrGo goal n (if wrSign goal worth = 43 then worth + wrStep goal worth step signs else worth - wrStep goal worth step signs) (wrStep goal worth step signs) (signs ++ [wrSign goal worth])
noncomputable def writtenL (goal : Int) : Option (List Nat) := wrGo goal 12 0 4 []
end Mine

namespace Mine
theorem map3 {m : Str → Option Value} {x0 x1 x2 : Str} {v0 v1 v2 : Value} (h0 : m x0 = some v0) (h1 : m x1 = some v1) (h2 : m x2 = some v2) : m = fun z => if z = x0 then some v0 else if z = x1 then some v1 else if z = x2 then some v2 else m z := by
  have e := map2 h1 h2
  funext z
  by_cases e0 : z = x0
  · subst e0; rw [if_pos rfl, h0]
  · rw [if_neg e0]; exact congrFun e z
theorem map4 {m : Str → Option Value} {x0 x1 x2 x3 : Str} {v0 v1 v2 v3 : Value} (h0 : m x0 = some v0) (h1 : m x1 = some v1) (h2 : m x2 = some v2) (h3 : m x3 = some v3) : m = fun z => if z = x0 then some v0 else if z = x1 then some v1 else if z = x2 then some v2 else if z = x3 then some v3 else m z := by
  have e := map3 h1 h2 h3
  funext z
  by_cases e0 : z = x0
  · subst e0; rw [if_pos rfl, h0]
  · rw [if_neg e0]; exact congrFun e z
theorem map5 {m : Str → Option Value} {x0 x1 x2 x3 x4 : Str} {v0 v1 v2 v3 v4 : Value} (h0 : m x0 = some v0) (h1 : m x1 = some v1) (h2 : m x2 = some v2) (h3 : m x3 = some v3) (h4 : m x4 = some v4) : m = fun z => if z = x0 then some v0 else if z = x1 then some v1 else if z = x2 then some v2 else if z = x3 then some v3 else if z = x4 then some v4 else m z := by
  have e := map4 h1 h2 h3 h4
  funext z
  by_cases e0 : z = x0
  · subst e0; rw [if_pos rfl, h0]
  · rw [if_neg e0]; exact congrFun e z
theorem map6 {m : Str → Option Value} {x0 x1 x2 x3 x4 x5 : Str} {v0 v1 v2 v3 v4 v5 : Value} (h0 : m x0 = some v0) (h1 : m x1 = some v1) (h2 : m x2 = some v2) (h3 : m x3 = some v3) (h4 : m x4 = some v4) (h5 : m x5 = some v5) : m = fun z => if z = x0 then some v0 else if z = x1 then some v1 else if z = x2 then some v2 else if z = x3 then some v3 else if z = x4 then some v4 else if z = x5 then some v5 else m z := by
  have e := map5 h1 h2 h3 h4 h5
  funext z
  by_cases e0 : z = x0
  · subst e0; rw [if_pos rfl, h0]
  · rw [if_neg e0]; exact congrFun e z
theorem map7 {m : Str → Option Value} {x0 x1 x2 x3 x4 x5 x6 : Str} {v0 v1 v2 v3 v4 v5 v6 : Value} (h0 : m x0 = some v0) (h1 : m x1 = some v1) (h2 : m x2 = some v2) (h3 : m x3 = some v3) (h4 : m x4 = some v4) (h5 : m x5 = some v5) (h6 : m x6 = some v6) : m = fun z => if z = x0 then some v0 else if z = x1 then some v1 else if z = x2 then some v2 else if z = x3 then some v3 else if z = x4 then some v4 else if z = x5 then some v5 else if z = x6 then some v6 else m z := by
  have e := map6 h1 h2 h3 h4 h5 h6
  funext z
  by_cases e0 : z = x0
  · subst e0; rw [if_pos rfl, h0]
  · rw [if_neg e0]; exact congrFun e z
end Mine
namespace Mine
section
variable {prog : Program} {w : World} {A : Around} {E : Value → Shared → Prop} {s : Shared} {Q : Value → Shared → Prop}
theorem add_tx {x y : Str} {a b : List Nat} {t u : Tok} (ex : x = tx a) (ey : y = tx b) (hz : a.length + b.length ≤ 1000) (h : ∀ t' tk, Q (.str (tx (a ++ b)) t') { s with toks := tk }) :
    wpAny (model prog w) A (binaryOp .Add (.str x t) (.str y u)) Q E s := by
  subst ex ey
  refine add_str (fun t' tk => ?_) (by rw [tx_length, tx_length, sizeLine_eq]; omega)
  rw [tx_append]; exact h t' tk
end
theorem lit_plus : Str.ofString "+" = tx [43] := by decide +kernel
theorem lit_minus : Str.ofString "-" = tx [45] := by decide +kernel
theorem lit_comma : Str.ofString "," = tx [44] := by decide +kernel
end Mine
namespace Mine
theorem item_tx_eq {l : List Nat} {i : Int} (h0 : 0 ≤ i) (h1 : i < (l.length : Int)) : Txt.item (tx l) i = tx [l.getD i.toNat 0] := by
  rw [item_meets ⟨h0, by rw [tx_length]; exact h1⟩]
  simp [tx]
section
variable {prog : Program} {w : World} {A : Around} {E : Value → Shared → Prop} {s : Shared} {Q : Value → Shared → Prop}
theorem item_tx {value slice : PySem.Expr} {x : Str} {l : List Nat} {i : Int} {t u : Tok} (ex : x = tx l) (h0 : 0 ≤ i) (h1 : i < (l.length : Int)) (hz : l.length ≤ 1000) (h : Q (.str (tx [l.getD i.toNat 0]) s.toks) { s with toks := s.toks + 1 })
    (hs : subscripted slice false (.str x t) (.int i u) = operate [.str x t, .int i u] (getItem (.str x t) (.int i u)) := by with_unfolding_all rfl)
    (ht : ∀ r, letTemporaryGo value (.str x t) r = pure () := by intro _; with_unfolding_all rfl) :
    wpAny (model prog w) A (subscriptTail value slice (.str x t) (.int i u)) Q E s := by
  subst ex
  exact KXi.item (n := l.length) (tx_length l) (by omega) h1 (by omega) (fun _ => by rw [item_tx_eq h0 h1]; exact h) hs ht
end
end Mine
namespace Mine
theorem tx_inj {a b : List Nat} : tx a = tx b ↔ a = b := by
  constructor
  · intro h; have := congrArg (fun x : Str => x.cps.toList) h; simpa [tx] using this
  · intro h; rw [h]
theorem tx_bne (a b : List Nat) : (tx a != tx b) = !(a == b) := by
  by_cases h : a = b
  · subst h; simp
  · have h1 : (a == b) = false := beq_eq_false_iff_ne.mpr h
    have h2 : (tx a == tx b) = false := beq_eq_false_iff_ne.mpr fun e => h (tx_inj.mp e)
    rw [bne, h1, h2]
theorem wr_ne {signs : List Nat} {c : Nat} {b : Bool} {S : Str} (eS : S = tx [c]) (h : (S != tx [(signs ++ [c]).getD (Int.toNat 0) 0]) = b) : (b = true ↔ c ≠ (signs ++ [c]).headD 0) := by
  have e : (signs ++ [c]).getD (Int.toNat 0) 0 = (signs ++ [c]).headD 0 := by cases signs <;> rfl
  rw [eS, tx_bne, e] at h
  subst h
  simp
theorem wr_next {goal worth step : Int} {n : Nat} {signs : List Nat} {c : Nat} {wo st : Int} (hne : worth ≠ goal) (hc : wrSign goal worth = c) (hs : wrStep goal worth step signs = st) (hw : (if c = 43 then worth + st else worth - st) = wo) :
    wrGo goal (n + 1) worth step signs = wrGo goal n wo st (signs ++ [c]) := by
  subst hc hs hw
  conv => lhs; unfold wrGo
  rw [if_neg hne]
theorem wrStep_half {goal worth step : Int} {signs : List Nat} {c : Nat} (hc : wrSign goal worth = c) (h : step < 4 ∨ c ≠ (signs ++ [c]).headD 0) : wrStep goal worth step signs = step.fdiv 2 := by
  subst hc; unfold wrStep; rw [if_pos h]
theorem wrStep_same {goal worth step : Int} {signs : List Nat} {c : Nat} (hc : wrSign goal worth = c) (h : ¬ step < 4) (h' : ¬ c ≠ (signs ++ [c]).headD 0) : wrStep goal worth step signs = step := by
  subst hc; unfold wrStep; rw [if_neg (fun x => x.elim h h')]
theorem wrGo_zero {goal worth step : Int} {n : Nat} {signs l : List Nat} (hne : worth ≠ goal) (h : wrGo goal n worth step signs = some l) : ∃ k, n = k + 1 := by
  cases n with
  | zero => unfold wrGo at h; rw [if_neg hne] at h; cases h
  | succ k => exact ⟨k, rfl⟩
theorem wrGo_done {goal worth step : Int} {n : Nat} {signs l : List Nat} (he : worth = goal) (h : wrGo goal n worth step signs = some l) : signs = l := by
  cases n <;> (unfold wrGo at h; rw [if_pos he] at h; exact Option.some.inj h)
end Mine
namespace Mine
noncomputable def kd (c : Nat) : Int := if c = 43 then 14 else if c = 45 then 15 else 12
theorem tx_ascii {l : List Nat} (hl : ∀ c ∈ l, c = 43 ∨ c = 45 ∨ c = 44) : (tx l).cps.all (· < 128) = true := by
  simp only [tx, List.all_toArray, List.all_eq_true, decide_eq_true_eq]
  intro c hc; rcases hl c hc with h | h | h <;> subst h <;> decide
theorem tx_at {l : List Nat} {i c : Nat} (h : (tx l).cps[i]? = some c) : l[i]? = some c := by simpa [tx] using h
theorem intsAre_snoc {n : Int} {t : Tok} : ∀ {vs : List Value} {ns : List Int}, IntsAre vs ns → IntsAre (vs ++ [.int n t]) (ns ++ [n])
  | _, _, .nil => .cons n t .nil
  | _, _, .cons a u r => .cons a u (intsAre_snoc r)
end Mine
namespace Mine
section
variable {prog : Program} {w : World} {A : Around} {E : Value → Shared → Prop} {s : Shared} {Q : Value → Shared → Prop}
theorem len_tx {l : List Nat} {t : Tok} (hz : l.length ≤ 1000) (h : Q (.int (l.length : Int) (s.toks + 1)) { s with toks := s.toks + 1 + 1 }) : wpAny (model prog w) A (call (.builtin "len") [.str (tx l) t]) Q E s := by
  refine len_str (by rw [tx_length]; omega) ?_
  rw [tx_length]; exact h
end
end Mine
end
section
open PySem PySem.W PyProof.Rows
namespace Mine
theorem fillc (w : World) : hd.heap_39 w.params = hd.heap_39 w.params ∧ PySem.Challenge.rw_xg0038_01 = PySem.Challenge.rw_xg0038_01 := by
  k_fill
  exact ⟨rfl, rfl⟩
set_option maxRecDepth 100000
set_option maxHeartbeats 8000000
theorem use_of {w : World} {s₀ : Shared} {mg mb : Str → Option Value} {f : Addr} {vs : List Value} {R : Tok → Value} {news : List (Addr × Obj)} {dp un : Nat} {gd : Option (List Code)} {cn : Str} {cs : Scope} {a : Addr} {ccd : Value} {cl : List (Str × Addr)} {outer : List Env} {A₀ : Around} {base h₀ : Heap} {L : Addr} {m : Str → Option Value} {s : Shared} {Q E : Value → Shared → Prop}
    (c : CbClaim PySem.Challenge.rw_xg0038_01.row.prog w (hd.heap_39 w.params) hd.view_39 (looseW hd.view_39 [Str.ofString "EXACT_TOKEN_TYPES"]) (ExcName.means s₀.heap) mg mb f news [] True vs R)
    (B : Below A₀ base outer h₀) (F : Fr h₀ L s.heap m) (X : (hd.heap_39 w.params).In h₀) (N : News h₀ L s.heap news) (T : Top hd.view_39 (looseW hd.view_39 [Str.ofString "EXACT_TOKEN_TYPES"]) (ExcName.means s₀.heap) mg mb h₀) (hk : cs.kind = .function)
    (hd1 : dp + 1 < recursionLimit) (hu : un + 8 < cLine) (h : ∀ t h' tk', Fr h₀ L h' m → News h₀ L h' news → Q (R t) { s with heap := h', toks := tk' }) :
    wpAny (model PySem.Challenge.rw_xg0038_01.row.prog w) (ktrTop dp un gd cn cs L a ccd cl outer) (call (.ref f) vs) Q E s := by
  dsimp only [CbClaim, CbLists, CbRet] at c
  exact c _ _ _ _ _ _ _ _ _ _ _ _ _ _ _ _ _ B F X N T hk trivial hd1 hu h
theorem add_ok (w : World) (s₀ : Shared) (mg mb : Str → Option Value) (news : List (Addr × Obj)) (x y : Int) (t u : Tok) :
   CbClaim PySem.Challenge.rw_xg0038_01.row.prog w (hd.heap_39 w.params) hd.view_39 (looseW hd.view_39 [Str.ofString "EXACT_TOKEN_TYPES"]) (ExcName.means s₀.heap) mg mb 35 news [] True [.int x t, .int y u] (fun t => .int (x + y) t) := by
  dsimp only [CbClaim, CbLists, CbRet]
  intros
  rename_i hret
  refine wpAny_call ?_
  k_dflt cell_enter
  repeat' walk1
  exact hret _ _ _ (by assumption) (by assumption)
theorem sub_ok (w : World) (s₀ : Shared) (mg mb : Str → Option Value) (news : List (Addr × Obj)) (x y : Int) (t u : Tok) :
   CbClaim PySem.Challenge.rw_xg0038_01.row.prog w (hd.heap_39 w.params) hd.view_39 (looseW hd.view_39 [Str.ofString "EXACT_TOKEN_TYPES"]) (ExcName.means s₀.heap) mg mb 56 news [] True [.int x t, .int y u] (fun t => .int (x - y) t) := by
  dsimp only [CbClaim, CbLists, CbRet]
  intros
  rename_i hret
  refine wpAny_call ?_
  k_dflt cell_enter
  repeat' walk1
  exact hret _ _ _ (by assumption) (by assumption)
theorem neg_ok (w : World) (s₀ : Shared) (mg mb : Str → Option Value) (news : List (Addr × Obj)) (x : Int) (t : Tok) :
   CbClaim PySem.Challenge.rw_xg0038_01.row.prog w (hd.heap_39 w.params) hd.view_39 (looseW hd.view_39 [Str.ofString "EXACT_TOKEN_TYPES"]) (ExcName.means s₀.heap) mg mb 42 news [] True [.int x t] (fun t => .int (-x) t) := by
  dsimp only [CbClaim, CbLists, CbRet]
  intros
  rename_i hret
  refine wpAny_call ?_
  k_dflt cell_enter
  repeat' walk1
  exact hret _ _ _ (by assumption) (by assumption)
theorem gt_ok (w : World) (s₀ : Shared) (mg mb : Str → Option Value) (news : List (Addr × Obj)) (x y : Int) (t u : Tok) :
   CbClaim PySem.Challenge.rw_xg0038_01.row.prog w (hd.heap_39 w.params) hd.view_39 (looseW hd.view_39 [Str.ofString "EXACT_TOKEN_TYPES"]) (ExcName.means s₀.heap) mg mb 28 news [] True [.int x t, .int y u] (fun t => .bool (decide (y < x))) := by
  dsimp only [CbClaim, CbLists, CbRet]
  intros
  rename_i hret
  refine wpAny_call ?_
  k_dflt cell_enter
  repeat' walk1
  exact hret 0 _ _ (by assumption) (by assumption)
theorem lt_ok (w : World) (s₀ : Shared) (mg mb : Str → Option Value) (news : List (Addr × Obj)) (x y : Int) (t u : Tok) :
   CbClaim PySem.Challenge.rw_xg0038_01.row.prog w (hd.heap_39 w.params) hd.view_39 (looseW hd.view_39 [Str.ofString "EXACT_TOKEN_TYPES"]) (ExcName.means s₀.heap) mg mb 21 news [] True [.int x t, .int y u] (fun t => .bool (decide (x < y))) := by
  dsimp only [CbClaim, CbLists, CbRet]
  intros
  rename_i hret
  refine wpAny_call ?_
  k_dflt cell_enter
  repeat' walk1
  exact hret 0 _ _ (by assumption) (by assumption)
theorem shr_ok (w : World) (s₀ : Shared) (mg mb : Str → Option Value) (news : List (Addr × Obj)) (x : Int) (t u : Tok) :
   CbClaim PySem.Challenge.rw_xg0038_01.row.prog w (hd.heap_39 w.params) hd.view_39 (looseW hd.view_39 [Str.ofString "EXACT_TOKEN_TYPES"]) (ExcName.means s₀.heap) mg mb 49 news [] True [.int x t, .int 1 u] (fun t => .int (x.fdiv (2 ^ Int.toNat 1)) t) := by
  dsimp only [CbClaim, CbLists, CbRet]
  intros
  rename_i hret
  refine wpAny_call ?_
  k_dflt cell_enter
  repeat' walk1
  exact hret _ _ _ (by assumption) (by assumption)
theorem eof_ok (w : World) (s₀ : Shared) (mg mb : Str → Option Value) (news : List (Addr × Obj)) (x : Int) (t : Tok) :
   CbClaim PySem.Challenge.rw_xg0038_01.row.prog w (hd.heap_39 w.params) hd.view_39 (looseW hd.view_39 [Str.ofString "EXACT_TOKEN_TYPES"]) (ExcName.means s₀.heap) mg mb 80 news [] True [.int x t] (fun t => .bool (decide (x = 0))) := by
  dsimp only [CbClaim, CbLists, CbRet]
  intros
  rename_i hret
  refine wpAny_call ?_
  k_dflt cell_enter
  repeat' walk1
  exact hret 0 _ _ (by assumption) (by assumption)
theorem coll_ok (w : World) (s₀ : Shared) (mg mb : Str → Option Value) (news : List (Addr × Obj)) (a b : List Nat) (t u : Tok) :
   CbClaim PySem.Challenge.rw_xg0038_01.row.prog w (hd.heap_39 w.params) hd.view_39 (looseW hd.view_39 [Str.ofString "EXACT_TOKEN_TYPES"]) (ExcName.means s₀.heap) mg mb 63 news [] True [.str (tx a) t, .str (tx b) u] (fun t => .int (b2i (decide ((tx b).cps.toList < (tx a).cps.toList)) - b2i (decide ((tx a).cps.toList < (tx b).cps.toList))) t) := by
  dsimp only [CbClaim, CbLists, CbRet]
  intros
  rename_i hret
  refine wpAny_call ?_
  k_dflt cell_enter
  repeat' walk1
  exact hret _ _ _ (by assumption) (by assumption)
end Mine
end
section
open PySem PySem.W PyProof.Rows
namespace Mine
theorem fill (w : World) : hd.heap_39 w.params = hd.heap_39 w.params ∧ PySem.Challenge.rw_xg0038_01 = PySem.Challenge.rw_xg0038_01 := by
  k_fill
  exact ⟨rfl, rfl⟩
theorem fm2 (r : Int) : r.fmod 2 = 0 ∨ r.fmod 2 = 1 := by
  rw [Int.fmod_eq_emod_of_nonneg _ (by decide)]; omega
theorem item_sign (r : Int) : Txt.item (Str.ofString "-+") (r.fmod 2) = tx [if r.fmod 2 = 1 then 43 else 45] := by
  rcases fm2 r with h | h <;> rw [h] <;> decide +kernel
theorem fd2 (r : Int) : r.fdiv 2 = r / 2 := Int.fdiv_eq_ediv_of_nonneg _ (by decide)
inductive DrJ (code : Int) (news : List (Addr × Obj)) (n : Nat) (m₁ : Str → Option Value) (news₁ : List (Addr × Obj)) : Prop
  | mk (h0 : news₁ = news) (rest : Int) (signs : List Nat) (t1 t2 : Tok) (k : Nat) (h1 : m₁ (Str.ofString "rest") = some (.int rest t1)) (h2 : m₁ (Str.ofString "signs") = some (.str (tx signs) t2)) (h3 : n = rest.toNat) (h4 : 1 ≤ rest) (h5 : rest < 2 ^ k)
    (h6 : signs.length + k ≤ 4) (h7 : drGo k rest signs = drawnL code) : DrJ code news n m₁ news₁
set_option maxRecDepth 100000
set_option maxHeartbeats 8000000
theorem drawn_ok (w : World) (s₀ : Shared) (mg mb : Str → Option Value) (news : List (Addr × Obj)) (code : Int) (t : Tok) :
   CbClaim PySem.Challenge.rw_xg0038_01.row.prog w (hd.heap_39 w.params) hd.view_39 (looseW hd.view_39 [Str.ofString "EXACT_TOKEN_TYPES"]) (ExcName.means s₀.heap) mg mb 87 news [] True [.int code t] (fun t => .str (tx (drawnL code)) t) := by
  dsimp only [CbClaim, CbLists, CbRet]
  intros
  rename_i hret
  refine wpAny_call ?_
  k_dflt cell_enter
  repeat' (first | ((fail_if_success (with_reducible show wpAny _ _ (exec (Stmt.While _ _ _ _) _) _ _ _)); walk1))
  rename_i N'
  rename Fr _ _ _ _ => F'
  have hf : code.fmod 15 = code % 15 := Int.fmod_eq_emod_of_nonneg _ (by decide)
  refine While_inv (DrJ code news) (n₀ := (code.fmod 15 + 1).toNat) F' N' ⟨rfl, code.fmod 15 + 1, [], _, _, 4, by with_unfolding_all rfl, by with_unfolding_all rfl, rfl, by omega, by omega, by decide, rfl⟩ ?_ (by first | passes_own | with_unfolding_all passes_own)
  intro n m₁ news₁ h₁ tk₁ F₁ N₁ J₁
  obtain ⟨rfl, rest, signs, t1, t2, k, hr, hs, hn, h1, hk, hlen, hD⟩ := J₁
  rw [map2 hr hs] at F₁
  clear F' N'
  have hadd : ∀ {A : Around} {E : Value → Shared → Prop} {Q : Value → Shared → Prop} {s : Shared} {t u : Tok}, (∀ t' tk, Q (.str (tx ((if rest.fmod 2 = 1 then 43 else 45) :: signs)) t') { s with toks := tk }) →
      wpAny (model PySem.Challenge.rw_xg0038_01.row.prog w) A (binaryOp .Add (.str (Txt.item (Str.ofString "-+") (rest.fmod 2)) t) (.str (tx signs) u)) Q E s := by
    intro A E Q s t u h
    rw [item_sign]
    refine add_str (fun t' tk => ?_) (by rw [tx_length, tx_length, sizeLine_eq]; simp only [List.length_singleton]; omega)
    rw [tx_append]; exact h t' tk
  repeat' (first | ((with_reducible show wpAny _ _ (binaryOp Operator.Add (Value.str _ _) (Value.str _ _)) _ _ _); refine hadd ?_; intro _ _) | walk1)
  · have hlt : 1 < rest := by assumption
    cases k with
    | zero => exfalso; simp at hk; omega
    | succ k =>
      refine WhileStep.intro (n' := (rest.fdiv 2).toNat) (by assumption) (by assumption) ?_ ⟨rfl, rest.fdiv 2, _, _, _, k, by with_unfolding_all rfl, by with_unfolding_all rfl, rfl, ?_, ?_, ?_, ?_⟩
      · rw [fd2]; omega
      · rw [fd2]; omega
      · rw [fd2]; rw [Int.pow_succ] at hk; omega
      · simp only [List.length_cons]; omega
      · rw [← hD]; conv => rhs; unfold drGo
        rw [if_pos hlt]
  · have hlt : ¬ 1 < rest := by assumption
    have e : signs = drawnL code := by
      rw [← hD]
      cases k with
      | zero => rfl
      | succ k => unfold drGo; rw [if_neg hlt]
    rw [e]
    exact hret _ _ _ (by assumption) (by assumption)
end Mine
end
section
open PySem PySem.W PyProof.Rows
namespace Mine
theorem fill2 (w : World) : hd.heap_39 w.params = hd.heap_39 w.params ∧ PySem.Challenge.rw_xg0038_01 = PySem.Challenge.rw_xg0038_01 := by
  k_fill
  exact ⟨rfl, rfl⟩
inductive WrJ (goal : Int) (l : List Nat) (news : List (Addr × Obj)) (n : Nat) (m₁ : Str → Option Value) (news₁ : List (Addr × Obj)) : Prop
  | mk (h0 : news₁ = news) (worth step : Int) (signs : List Nat) (t0 t1 t2 t3 : Tok) (h1 : m₁ (Str.ofString "goal") = some (.int goal t0)) (h2 : m₁ (Str.ofString "worth") = some (.int worth t1)) (h3 : m₁ (Str.ofString "step") = some (.int step t2))
    (h4 : m₁ (Str.ofString "signs") = some (.str (tx signs) t3)) (h5 : signs.length + n ≤ 12) (h6 : wrGo goal n worth step signs = some l) : WrJ goal l news n m₁ news₁
set_option maxRecDepth 100000
set_option maxHeartbeats 8000000
theorem written_ok (w : World) (s₀ : Shared) (mg mb : Str → Option Value) (news : List (Addr × Obj)) (goal : Int) (t : Tok) (l : List Nat) (hl : writtenL goal = some l) :
   CbClaim PySem.Challenge.rw_xg0038_01.row.prog w (hd.heap_39 w.params) hd.view_39 (looseW hd.view_39 [Str.ofString "EXACT_TOKEN_TYPES"]) (ExcName.means s₀.heap) mg mb 94 news [] True [.int goal t] (fun t => .str (tx l) t) := by
  dsimp only [CbClaim, CbLists, CbRet]
  intros
  rename_i hret
  refine wpAny_call ?_
  k_dflt cell_enter
  repeat' (first | ((fail_if_success (with_reducible show wpAny _ _ (exec (Stmt.While _ _ _ _) _) _ _ _)); walk1))
  rename_i N'
  rename Fr _ _ _ _ => F'
  refine While_inv (WrJ goal l news) (n₀ := 12) F' N' ⟨rfl, 0, 4, [], _, _, _, _, by with_unfolding_all rfl, by with_unfolding_all rfl, by with_unfolding_all rfl, by with_unfolding_all rfl, by decide, hl⟩ ?_ (by first | passes_own | with_unfolding_all passes_own)
  intro n m₁ news₁ h₁ tk₁ F₁ N₁ J₁
  obtain ⟨rfl, worth, step, signs, t0, t1, t2, t3, hg, hw, hs, hs2, hlen, hD⟩ := J₁
  rw [map4 hg hw hs hs2] at F₁
  clear F' N'
  repeat' (first
    | ((with_reducible show wpAny _ _ (binaryOp Operator.Add (Value.str (tx _) _) (Value.str (Str.ofString "+") _)) _ _ _); refine add_tx rfl lit_plus (by simp only [List.length_cons, List.length_nil]; omega) ?_; intro _ _)
    | ((with_reducible show wpAny _ _ (binaryOp Operator.Add (Value.str (tx _) _) (Value.str (Str.ofString "-") _)) _ _ _); refine add_tx rfl lit_minus (by simp only [List.length_cons, List.length_nil]; omega) ?_; intro _ _)
    | ((with_reducible show wpAny _ _ (subscriptTail _ _ (Value.str (tx _) _) (Value.int _ _)) _ _ _); refine item_tx rfl (by decide) (by simp only [List.length_append, List.length_cons, List.length_nil]; omega) (by simp only [List.length_append, List.length_cons, List.length_nil]; omega) ?_)
    | walk1)
  all_goals first
    | (have he : worth = goal := by assumption
       rw [wrGo_done he hD]
       exact hret _ _ _ (by assumption) (by assumption))
    | skip
  all_goals (
    have hne : worth ≠ goal := by assumption
    obtain ⟨k, rfl⟩ := wrGo_zero hne hD
    refine WhileStep.intro (n' := k) (by assumption) (by assumption) (Nat.lt_succ_self _) ⟨rfl, _, _, _, _, _, _, _, by with_unfolding_all rfl, by with_unfolding_all rfl, by with_unfolding_all rfl, by with_unfolding_all rfl, by simp only [List.length_append, List.length_cons, List.length_nil]; omega, ?_⟩
    rw [← hD]; symm)
  · have hc : wrSign goal worth = 43 := if_pos (by assumption)
    exact wr_next hne hc (wrStep_half hc (.inl (by assumption))) (if_pos rfl)
  · have hc : wrSign goal worth = 43 := if_pos (by assumption)
    exact wr_next hne hc (wrStep_half hc (.inr ((wr_ne lit_plus (by assumption)).mp rfl))) (if_pos rfl)
  · have hc : wrSign goal worth = 43 := if_pos (by assumption)
    exact wr_next hne hc (wrStep_same hc (by assumption) (fun x => absurd ((wr_ne lit_plus (by assumption)).mpr x) (by decide))) (if_pos rfl)
  · have hc : wrSign goal worth = 45 := if_neg (by assumption)
    exact wr_next hne hc (wrStep_half hc (.inl (by assumption))) (if_neg (by decide))
  · have hc : wrSign goal worth = 45 := if_neg (by assumption)
    exact wr_next hne hc (wrStep_half hc (.inr ((wr_ne lit_minus (by assumption)).mp rfl))) (if_neg (by decide))
  · have hc : wrSign goal worth = 45 := if_neg (by assumption)
    exact wr_next hne hc (wrStep_same hc (by assumption) (fun x => absurd ((wr_ne lit_minus (by assumption)).mpr x) (by decide))) (if_neg (by decide))
end Mine
end
section
open PySem PySem.W PyProof.Rows PySem.Calls PySem.Spec
namespace Mine
noncomputable def FtOk (h₀ : Heap) (L I : Addr) (oI : Obj) (J : (Str → Option Value) → List (Addr × Obj) → Prop) (s₁ s₂ : Shared) : Prop :=
  ∃ h' tk m' nx', s₂ = { s₁ with heap := h', toks := tk } ∧ Fr h₀ L h' m' ∧ News h₀ L h' ((I, oI) :: nx') ∧ (∀ p ∈ nx', p.1 ≠ I) ∧ J m' nx'
noncomputable def FtPost (h₀ : Heap) (L I : Addr) (oI : Obj) (J : (Str → Option Value) → List (Addr × Obj) → Prop) (s₁ : Shared) (Q : Flow → Shared → Prop) (f : Flow) (s₂ : Shared) : Prop :=
  match f with
  | .ret v => Q (.ret v) s₂
  | .brk => Q .next s₂
  | _ => FtOk h₀ L I oI J s₁ s₂
/-- the turn's end: what is kept is among what is known; nothing kept is the iterator -/
theorem FtOk.intro {h₀ h' : Heap} {L I : Addr} {oI : Obj} {J : (Str → Option Value) → List (Addr × Obj) → Prop} {s₁ : Shared} {tk : Nat} {m' : Str → Option Value} {all : List (Addr × Obj)} (F : Fr h₀ L h' m') (N : News h₀ L h' all)
    (nx' : List (Addr × Obj)) (hI : (I, oI) ∈ all) (sub : ∀ p ∈ nx', p ∈ all) (off : ∀ p ∈ nx', p.1 ≠ I ∨ p.2.cls ≠ oI.cls) (j : J m' nx') : FtOk h₀ L I oI J s₁ { s₁ with heap := h', toks := tk } := by
  refine ⟨h', tk, m', nx', rfl, F, fun p hp => ?_, fun p hp e => ?_, j⟩
  · rcases List.mem_cons.mp hp with rfl | hp
    · exact N _ hI
    · exact N _ (sub p hp)
  · rcases off p hp with h | h
    · exact h e
    · have h1 := (N _ (sub p hp)).1
      have h2 := (N _ hI).1
      rw [e] at h1
      exact h (congrArg Obj.cls (Option.some.inj (h1.symm.trans h2)))
theorem FtOk.introV {h₀ h' : Heap} {L I : Addr} {oI : Obj} {J J' : (Str → Option Value) → List (Addr × Obj) → Prop} (hv : ∀ m nx, J m nx → J' m nx) {s₁ : Shared} {tk : Nat} {m' : Str → Option Value} {all : List (Addr × Obj)} (F : Fr h₀ L h' m') (N : News h₀ L h' all)
    (nx' : List (Addr × Obj)) (hI : (I, oI) ∈ all) (sub : ∀ p ∈ nx', p ∈ all) (off : ∀ p ∈ nx', p.1 ≠ I ∨ p.2.cls ≠ oI.cls) (j : J m' nx') {Q : Flow → Shared → Prop} : FtPost h₀ L I oI J' s₁ Q .next { s₁ with heap := h', toks := tk } :=
  show FtOk h₀ L I oI J' s₁ { s₁ with heap := h', toks := tk } from
  FtOk.intro F N nx' hI sub off (hv _ _ j)
section
variable {prog : Program} {w : World} {A : Around} {s : Shared} {env : Env} {h₀ : Heap}
theorem for_gen {target : PySem.Expr} {body : List Stmt} {Q : Flow → Shared → Prop} {I : Addr} {cI : Value} {n : Nat} {P : Nat → Value → Prop} {St : Nat → Heap → Prop} {fp : List Addr} {m₀ : Str → Option Value} {nx₀ : List (Addr × Obj)}
    (S : List (Addr × Obj) → Prop) (W : Walks prog w A I fp [I] n P St)
    (hIo : ∀ i h, St i h → ∃ o, h.get? I = some o ∧ o.cls = cI)
    (hSt : ∀ i h h' o nx, St i h → h.get? I = some o → h'.get? I = some o → (∀ b o, h₀.get? b = some o → h'.get? b = some o) → News h₀ env.locals h' nx → S nx → St i h')
    (hgo : ∀ i v (s : Shared) (Q : Unit → Shared → Prop), St i s.heap → Q () s → wpAny (model prog w) A (letOwnedTupleGo target (.ref I) v) Q (fun _ _ => False) s)
    (hIL : env.locals ≠ I) (hI0 : h₀.get? I = none) (F : Fr h₀ env.locals s.heap m₀) (N : News h₀ env.locals s.heap nx₀) (off : ∀ p ∈ nx₀, p.1 ≠ I) (hst : St 0 s.heap)
    (J : Nat → (Str → Option Value) → List (Addr × Obj) → Prop) (hS : ∀ i m nx, J i m nx → S nx) (hJ : J 0 m₀ nx₀)
    (turn : ∀ i v m nx h tk oI, i < n → P i v → J i m nx → Fr h₀ env.locals h m → News h₀ env.locals h ((I, oI) :: nx) → (∀ p ∈ nx, p.1 ≠ I) → oI.cls = cI →
      wpAny (model prog w) A (assign target env v) (fun _ s' => wpAny (model prog w) A (execs body env) (FtPost h₀ env.locals I oI (J (i + 1)) { s with heap := h, toks := tk } Q) (fun _ _ => False) s') (fun _ _ => False) { s with heap := h, toks := tk })
    (done : ∀ m nx h tk, J n m nx → Fr h₀ env.locals h m → News h₀ env.locals h nx → Q .next { s with heap := h, toks := tk }) :
    codeAny (model prog w) A (.forLoop target (.ref I) body [] env) (fun r s' => match r with | .ok f => Q f s' | .error e => cameBackBy (model prog w) A env (fun _ _ => False) e s') s := by
  refine codeAny_forLoop_any
    (fun k s' => ∃ h' tk m' nx' i, s' = { s with heap := h', toks := tk } ∧ St i h' ∧ Fr h₀ env.locals h' m' ∧ News h₀ env.locals h' nx' ∧ (∀ p ∈ nx', p.1 ≠ I) ∧ J i m' nx' ∧ i ≤ n ∧ k = n + 1 - i) ?_ (n + 1)
    ⟨s.heap, s.toks, m₀, nx₀, 0, rfl, hst, F, N, off, hJ, Nat.zero_le _, rfl⟩
  rintro k s' ⟨h', tk, m', nx', i, rfl, hst', F', N', off', hJ', hi, rfl⟩
  have next : ∀ h₁ : Heap, (∀ b o, b ∉ [I] → h'.get? b = some o → h₁.get? b = some o) → Fr h₀ env.locals h₁ m' ∧ News h₀ env.locals h₁ nx' := fun h₁ hk₁ =>
    ⟨LCg.fr_but F' hk₁ hIL hI0, LCg.news_but N' hk₁ off'⟩
  by_cases hlt : i < n
  · refine W.item i _ _ _ hlt hst' fun v h₁ tk₁ hP hst₁ hk₁ => ?_
    obtain ⟨F₁, N₁⟩ := next h₁ hk₁
    refine wpAny_noRaise (hgo (i + 1) v _ _ hst₁ ?_)
    obtain ⟨oI, heI, hcI⟩ := hIo _ _ hst₁
    have NI : News h₀ env.locals h₁ ((I, oI) :: nx') := fun p hp => by
      rcases List.mem_cons.mp hp with rfl | hp
      · exact ⟨heI, Ne.symm hIL, hI0⟩
      · exact N₁ p hp
    refine wpAny_noRaise (wpAny_mono (turn i v m' nx' h₁ tk₁ oI hlt hP hJ' F₁ NI off' hcI) (fun _ s₂ h₂ => wpAny_noRaise (wpAny_mono h₂ (fun f s₃ h₃ => ?_) fun _ _ e => e)) fun _ _ e => e)
    have fin : FtOk h₀ env.locals I oI (J (i + 1)) { s with heap := h₁, toks := tk₁ } s₃ → ∃ m, m < n + 1 - i ∧ ∃ h' tk m' nx' i, s₃ = { s with heap := h', toks := tk } ∧ St i h' ∧ Fr h₀ env.locals h' m' ∧ News h₀ env.locals h' nx' ∧ (∀ p ∈ nx', p.1 ≠ I) ∧ J i m' nx' ∧ i ≤ n ∧ m = n + 1 - i := by
      rintro ⟨h₄, tk₄, m₄, nx₄, rfl, F₄, N₄, off₄, J₄⟩
      have N₄' : News h₀ env.locals h₄ nx₄ := fun p hp => N₄ p (List.mem_cons_of_mem _ hp)
      exact ⟨n + 1 - (i + 1), by omega, h₄, tk₄, m₄, nx₄, i + 1, rfl, hSt _ _ _ _ _ hst₁ heI (N₄ (I, oI) List.mem_cons_self).1 F₄.keep N₄' (hS _ _ _ J₄), F₄, N₄', off₄, J₄, hlt, rfl⟩
    cases f with
    | ret v => exact h₃
    | brk => exact h₃
    | cont => exact fin h₃
    | next => exact fin h₃
  · have hin : i = n := by omega
    subst hin
    refine W.done _ _ _ hst' fun h₁ tk₁ hk₁ => wpAny_execs_nil ?_
    obtain ⟨F₁, N₁⟩ := next h₁ hk₁
    exact done m' nx' h₁ tk₁ hJ' F₁ N₁
noncomputable def ForSrc (prog : Program) (w : World) (A : Around) (env : Env) (target : PySem.Expr) (body : List Stmt) (Q : Flow → Shared → Prop) (xv : Value) (s₁ : Shared) : Prop :=
  wpAny (model prog w) A (pyIter xv) (fun it s₂ => codeAny (model prog w) A (.forLoop target it body [] env) (fun r s' => match r with | .ok f => Q f s' | .error e => cameBackBy (model prog w) A env (fun _ _ => False) e s') s₂) (fun _ _ => False) s₁
theorem For_src {target iter : PySem.Expr} {body : List Stmt} {pos : Pos} {Q : Flow → Shared → Prop}
    (h : wpAny (model prog w) A (eval iter env) (ForSrc prog w A env target body Q) (fun _ _ => False) s)
    (hs : ∀ x, foldedSetIterable iter env x = pure x := by intro _; rfl) :
    wpAny (model prog w) A (exec (.For target iter body [] pos) env) Q (fun _ _ => False) s := wpAny_For h hs
theorem go_name {x : Str} {px : Pos} {it : Value} {v : Value} {s : Shared} {Q : Unit → Shared → Prop} (h : Q () s) : wpAny (model prog w) A (letOwnedTupleGo (.Name x px) it v) Q (fun _ _ => False) s := wpAny_pure h
/-- a for over a list that stands in the base or on the ledger -/
theorem ForSrc.list {target : PySem.Expr} {body : List Stmt} {Q : Flow → Shared → Prop} {l : Addr} {its : Array Value} {m₀ : Str → Option Value} {nx₀ : List (Addr × Obj)}
    (hh : A.handled = none)
    (hgo : ∀ i I v (s : Shared) (Q : Unit → Shared → Prop), s.heap.IsListIter I l i → Q () s → wpAny (model prog w) A (letOwnedTupleGo target (.ref I) v) Q (fun _ _ => False) s)
    (F : Fr h₀ env.locals s.heap m₀) (N : News h₀ env.locals s.heap nx₀)
    (J : Nat → (Str → Option Value) → List (Addr × Obj) → Prop) (hS : ∀ i m nx, J i m nx → LCg.SrcAt h₀ l its nx) (hJ : J 0 m₀ nx₀)
    (turn : ∀ i v m nx h tk I oI, its[i]? = some v → J i m nx → Fr h₀ env.locals h m → News h₀ env.locals h ((I, oI) :: nx) → (∀ p ∈ nx, p.1 ≠ I) → oI.cls = .type "list_iterator" →
      wpAny (model prog w) A (assign target env v) (fun _ s' => wpAny (model prog w) A (execs body env) (FtPost h₀ env.locals I oI (J (i + 1)) { s with heap := h, toks := tk } Q) (fun _ _ => False) s') (fun _ _ => False) { s with heap := h, toks := tk })
    (done : ∀ m nx h tk, J its.size m nx → Fr h₀ env.locals h m → News h₀ env.locals h nx → Q .next { s with heap := h, toks := tk }) :
    ForSrc prog w A env target body Q (.ref l) s := by
  have hl : s.heap.IsList l its := (hS _ _ _ hJ).list F.keep N
  have hlt : l < s.heap.objs.size := by obtain ⟨_, e, _⟩ := hl; exact Heap.lt_size e
  refine wpAny_pyIter_list hl ?_
  have up : ∀ b o, s.heap.get? b = some o → (s.heap.push { cls := .type "list_iterator", data := .fields #[.ref l, .int 0 0] }).get? b = some o := fun b o e => Heap.get?_push_of_some _ e
  exact for_gen (LCg.SrcAt h₀ l its) (Walks.list hh s.heap.objs.size l (Nat.ne_of_lt hlt) its) (fun i h st => by obtain ⟨o, e, c, _⟩ := st.1; exact ⟨o, e, c⟩) LCg.list_st
    (fun i v s Q st q => hgo i _ v s Q st.1 q) (Nat.ne_of_lt F.ns.lt) (next_is_new F) (F.keeps up) (N.grown up) (fun p hp => Nat.ne_of_lt (Heap.lt_size (N p hp).1))
    ⟨⟨_, Heap.get?_push_size _ rfl, rfl, rfl⟩, hl.push _⟩ J hS hJ (fun i v m nx h tk oI _ hP hJ' => turn i v m nx h tk _ oI hP hJ') done
theorem ForSrc.range {target : PySem.Expr} {body : List Stmt} {Q : Flow → Shared → Prop} {r : Addr} {a b : Int} {t u v : Tok} {n : Nat} {m₀ : Str → Option Value} {nx₀ : List (Addr × Obj)}
    (hh : A.handled = none) (hr : IsRange s.heap r a b 1 t u v) (hsm : Builtin.Range.small a b 1 = true) (hn : Builtin.Range.rangeSize a b 1 = ((n : Nat) : Int))
    (hgo : ∀ I v (s : Shared) (Q : Unit → Shared → Prop), Q () s → wpAny (model prog w) A (letOwnedTupleGo target (.ref I) v) Q (fun _ _ => False) s)
    (F : Fr h₀ env.locals s.heap m₀) (N : News h₀ env.locals s.heap nx₀)
    (J : Nat → (Str → Option Value) → List (Addr × Obj) → Prop) (hJ : J 0 m₀ nx₀)
    (turn : ∀ (i : Nat) t m nx h tk I oI, i < n → J i m nx → Fr h₀ env.locals h m → News h₀ env.locals h ((I, oI) :: nx) → (∀ p ∈ nx, p.1 ≠ I) → oI.cls = .type "range_iterator" →
      wpAny (model prog w) A (assign target env (.int (a + (i : Int)) t)) (fun _ s' => wpAny (model prog w) A (execs body env) (FtPost h₀ env.locals I oI (J (i + 1)) { s with heap := h, toks := tk } Q) (fun _ _ => False) s') (fun _ _ => False) { s with heap := h, toks := tk })
    (done : ∀ m nx h tk, J n m nx → Fr h₀ env.locals h m → News h₀ env.locals h nx → Q .next { s with heap := h, toks := tk }) :
    ForSrc prog w A env target body Q (.ref r) s := by
  refine wpAny_pyIter_range hr hsm ?_
  exact for_gen (fun _ => True) (LCg.range_walks hh a n) (fun i h st => ⟨_, st, rfl⟩) LCg.range_st (fun i v s Q _ q => hgo _ v s Q q) (Nat.ne_of_lt F.ns.lt) (next_is_new F)
    (F.keeps fun _ _ e => Heap.get?_push_of_some _ e) (N.grown fun _ _ e => Heap.get?_push_of_some _ e) (fun p hp => Nat.ne_of_lt (Heap.lt_size (N p hp).1)) (by show IsRangeIter _ _ _ _ _; rw [hn]; simpa using Heap.get?_push_size _ rfl)
    J (fun _ _ _ _ => trivial) hJ (fun i v m nx h tk oI hi hP hJ' => by obtain ⟨t, rfl⟩ := hP; exact turn i t m nx h tk _ oI hi hJ') done
/-- the same, the turn for every next invariant and every continuation: so a turn's walk does not carry them -/
theorem ForSrc.rangeV {target : PySem.Expr} {body : List Stmt} {Q : Flow → Shared → Prop} {r : Addr} {a b : Int} {t u v : Tok} {n : Nat} {m₀ : Str → Option Value} {nx₀ : List (Addr × Obj)}
    (hh : A.handled = none) (hr : IsRange s.heap r a b 1 t u v) (hsm : Builtin.Range.small a b 1 = true) (hn : Builtin.Range.rangeSize a b 1 = ((n : Nat) : Int))
    (hgo : ∀ I v (s : Shared) (Q : Unit → Shared → Prop), Q () s → wpAny (model prog w) A (letOwnedTupleGo target (.ref I) v) Q (fun _ _ => False) s)
    (F : Fr h₀ env.locals s.heap m₀) (N : News h₀ env.locals s.heap nx₀)
    (J : Nat → (Str → Option Value) → List (Addr × Obj) → Prop) (hJ : J 0 m₀ nx₀)
    (turn : ∀ (J' : (Str → Option Value) → List (Addr × Obj) → Prop) (Q' : Flow → Shared → Prop) gg dd oo (i : Nat) t m nx h tk I oI, (∀ m nx, J (i + 1) m nx → J' m nx) → (∀ v s', Q (.ret v) s' → Q' (.ret v) s') → (∀ h tk, ({ s with heap := h, toks := tk } : Shared) = { heap := h, gens := gg, drawn := dd, toks := tk, os := oo }) →
      i < n → J i m nx → Fr h₀ env.locals h m → News h₀ env.locals h ((I, oI) :: nx) → (∀ p ∈ nx, p.1 ≠ I) → oI.cls = .type "range_iterator" →
      wpAny (model prog w) A (assign target env (.int (a + (i : Int)) t)) (fun _ s' => wpAny (model prog w) A (execs body env) (FtPost h₀ env.locals I oI J' { heap := h, gens := gg, drawn := dd, toks := tk, os := oo } Q') (fun _ _ => False) s') (fun _ _ => False) { heap := h, gens := gg, drawn := dd, toks := tk, os := oo })
    (done : ∀ m nx h tk, J n m nx → Fr h₀ env.locals h m → News h₀ env.locals h nx → Q .next { s with heap := h, toks := tk }) :
    ForSrc prog w A env target body Q (.ref r) s :=
  ForSrc.range hh hr hsm hn hgo F N J hJ (fun i t m nx h tk I oI hi hj F N off hc => turn (J (i + 1)) Q s.gens s.drawn s.os i t m nx h tk I oI (fun _ _ x => x) (fun _ _ x => x) (fun _ _ => rfl) hi hj F N off hc) done
theorem ForSrc.listV {target : PySem.Expr} {body : List Stmt} {Q : Flow → Shared → Prop} {l : Addr} {its : Array Value} {m₀ : Str → Option Value} {nx₀ : List (Addr × Obj)}
    (hh : A.handled = none)
    (hgo : ∀ i I v (s : Shared) (Q : Unit → Shared → Prop), s.heap.IsListIter I l i → Q () s → wpAny (model prog w) A (letOwnedTupleGo target (.ref I) v) Q (fun _ _ => False) s)
    (F : Fr h₀ env.locals s.heap m₀) (N : News h₀ env.locals s.heap nx₀)
    (J : Nat → (Str → Option Value) → List (Addr × Obj) → Prop) (hS : ∀ i m nx, J i m nx → LCg.SrcAt h₀ l its nx) (hJ : J 0 m₀ nx₀)
    (turn : ∀ (J' : (Str → Option Value) → List (Addr × Obj) → Prop) (Q' : Flow → Shared → Prop) gg dd oo i v m nx h tk I oI, (∀ m nx, J (i + 1) m nx → J' m nx) → (∀ v s', Q (.ret v) s' → Q' (.ret v) s') → (∀ h tk, ({ s with heap := h, toks := tk } : Shared) = { heap := h, gens := gg, drawn := dd, toks := tk, os := oo }) →
      its[i]? = some v → J i m nx → Fr h₀ env.locals h m → News h₀ env.locals h ((I, oI) :: nx) → (∀ p ∈ nx, p.1 ≠ I) → oI.cls = .type "list_iterator" →
      wpAny (model prog w) A (assign target env v) (fun _ s' => wpAny (model prog w) A (execs body env) (FtPost h₀ env.locals I oI J' { heap := h, gens := gg, drawn := dd, toks := tk, os := oo } Q') (fun _ _ => False) s') (fun _ _ => False) { heap := h, gens := gg, drawn := dd, toks := tk, os := oo })
    (done : ∀ m nx h tk, J its.size m nx → Fr h₀ env.locals h m → News h₀ env.locals h nx → Q .next { s with heap := h, toks := tk }) :
    ForSrc prog w A env target body Q (.ref l) s :=
  ForSrc.list hh hgo F N J hS hJ (fun i v m nx h tk I oI hv hj F N off hc => turn (J (i + 1)) Q s.gens s.drawn s.os i v m nx h tk I oI (fun _ _ x => x) (fun _ _ x => x) (fun _ _ => rfl) hv hj F N off hc) done
end
end Mine
end
section
open PySem PySem.W PyProof.Rows PySem.Calls PySem.Spec PyProof.Rows.LCg
namespace Mine
noncomputable def CompOk (h₀ : Heap) (L : Addr) (m : Str → Option Value) (I : Addr) (oI : Obj) (C : Addr) (oC : Obj) (D : Addr) (oD : Obj) (J : List (Addr × Obj) → Prop) (s₁ s₂ : Shared) : Prop :=
  ∃ h' tk nx', s₂ = { s₁ with heap := h', toks := tk } ∧ Fr h₀ L h' m ∧ News h₀ L h' ((I, oI) :: (C, oC) :: (D, oD) :: nx') ∧ Off3 I C D nx' ∧ J nx'
theorem CompOk.intro {h₀ h' : Heap} {L : Addr} {m : Str → Option Value} {I C D : Addr} {oI oC oD : Obj} {J : List (Addr × Obj) → Prop} {s₁ : Shared} {tk : Nat} {all : List (Addr × Obj)} (F : Fr h₀ L h' m) (N : News h₀ L h' all)
    (nx' : List (Addr × Obj)) (hI : (I, oI) ∈ all) (hC : (C, oC) ∈ all) (hD : (D, oD) ∈ all) (sub : ∀ p ∈ nx', p ∈ all) (off : Off3 I C D nx') (j : J nx') : CompOk h₀ L m I oI C oC D oD J s₁ { s₁ with heap := h', toks := tk } := by
  refine ⟨h', tk, nx', rfl, F, fun p hp => ?_, off, j⟩
  rcases List.mem_cons.mp hp with rfl | hp
  · exact N _ hI
  rcases List.mem_cons.mp hp with rfl | hp
  · exact N _ hC
  rcases List.mem_cons.mp hp with rfl | hp
  · exact N _ hD
  · exact N _ (sub p hp)
noncomputable abbrev FF : Value → Shared → Prop := fun _ _ => False
noncomputable abbrev compTests' (ifs : List PySem.Expr) (env : Env) : Sem Bool := forIn ifs true fun c r => if r = true then do let ok ← isTrue c env (eval c env); pure (ForInStep.yield ok) else pure (ForInStep.yield r)
section
variable {prog : Program} {w : World} {A : Around} {s : Shared} {env : Env} {h₀ : Heap} {L : Addr} {m : Str → Option Value}
theorem cg_loop {elt target iter : PySem.Expr} {ifs : List PySem.Expr} {scope : Scope} {pos : Pos} {it acc : Value} {env : Env} {R : Result → Shared → Prop} (I : Nat → Shared → Prop)
    (turn : ∀ n s, I n s → wpAny (model prog w) A (pyNext it) (fun r s₁ => match r with
      | none => R (.ok .next) s₁
      | some v => wpAny (model prog w) A (letOwnedTupleGo target it v) (fun _ s₀ => wpAny (model prog w) A (assign target env v) (fun _ s₂ =>
          wpAny (model prog w) A (compTests' ifs env) (fun ok s₃ =>
            if ok = true then wpAny (model prog w) A (eval elt env) (fun x s₄ => wpAny (model prog w) A (call (.builtin "list.append") [acc, x]) (fun _ s₅ => ∃ m, m < n ∧ I m s₅) FF s₄) FF s₃
            else ∃ m, m < n ∧ I m s₃) FF s₂) FF s₀) FF s₁) FF s)
    (n : Nat) (h : I n s) : codeAny (model prog w) A (.compLoop (.ListComp elt [⟨target, iter, ifs, 0⟩] scope pos) 0 it acc env) R s := by
  refine codeAny_loop rfl I (fun n s hI => ?_) n h
  show wpAny _ A ((compTurn (.ListComp elt [⟨target, iter, ifs, 0⟩] scope pos) 0 it acc env).onRaise (fun x => do noteFrame x env; theTreesLotGoes x)) _ _ s
  refine wpAny_noted ?_
  rw [compTurn_list]
  refine wpAny_bind (wpAny_standAt (wpAny_bind (wpAny_noRaise (wpAny_mono (turn n s hI) (fun r s₁ h₁ => ?_) fun _ _ h' => h'))))
  cases r with
  | none => exact wpAny_pure h₁
  | some v =>
    refine wpAny_bind (wpAny_noRaise (wpAny_mono h₁ (fun _ s₀ h₀' => ?_) fun _ _ h' => h'))
    refine wpAny_bind (wpAny_noRaise (wpAny_mono h₀' (fun _ s₂ h₂ => wpAny_bind (wpAny_noRaise (wpAny_mono h₂ (fun ok s₃ h₃ => ?_) fun _ _ h' => h'))) fun _ _ h' => h'))
    cases ok with
    | false =>
      simp only [Bool.false_eq_true, if_false] at h₃ ⊢
      exact wpAny_bind (wpAny_pure (wpAny_pure ⟨rfl, h₃⟩))
    | true =>
      simp only [if_true] at h₃ ⊢
      exact wpAny_bind (wpAny_bind (wpAny_noRaise (wpAny_mono h₃ (fun x s₄ h₄ => wpAny_bind (wpAny_noRaise (wpAny_mono h₄ (fun _ s₅ h₅ => wpAny_pure (wpAny_pure ⟨rfl, h₅⟩)) fun _ _ h' => h'))) fun _ _ h' => h')))

theorem comp_block {elt target iter : PySem.Expr} {ifs : List PySem.Expr} {scope : Scope} {cl : List (Str × Addr)} {pos : Pos} {s₂ : Shared} {I : Addr} {fp : List Addr} {n : Nat} {P : Nat → Value → Prop} {St : Nat → Heap → Prop}
    {S : List (Addr × Obj) → Prop} {nx₀ : List (Addr × Obj)} {RR : Value → Addr → Result → Shared → Prop}
    (W : Walks prog w A I fp [I] n P St) (hsz : n ≤ sizeLine) (hIo : ∀ i h, St i h → ∃ o, h.get? I = some o)
    (hSt : ∀ i h h' o nw, St i h → h.get? I = some o → h'.get? I = some o → (∀ b o, h₀.get? b = some o → h'.get? b = some o) → News h₀ L h' nw → S nw → St i h')
    (hgo : ∀ i v (s : Shared) (Q : Unit → Shared → Prop), St i s.heap → Q () s → wpAny (model prog w) A (letOwnedTupleGo target (.ref I) v) Q FF s)
    (hcell : ∀ y ∈ scope.names, y.2 ≠ .cell) (hkind : scope.kind = .function) (hst : St 0 s₂.heap) (hfp : ∀ b ∈ fp, b < s₂.heap.objs.size)
    (B : Nat → Value → (Str → Option Value) → Prop)
    (J : Nat → List Value → List (Addr × Obj) → Prop) (hS : ∀ i ys nx, J i ys nx → S nx) (hJ : J 0 [] nx₀)
    (hasg : ∀ i v ys nx (s : Shared) C mC (Q : Unit → Shared → Prop), i < n → P i v → J i ys nx → (∀ b o, h₀.get? b = some o → s.heap.get? b = some o) → News h₀ L s.heap nx → s.heap.Ns C mC →
      (∀ h' tk mC', h'.Ns C mC' → B i v mC' → (∀ b o, b ≠ C → s.heap.get? b = some o → h'.get? b = some o) → Q () { s with heap := h', toks := tk }) → wpAny (model prog w) A (assign target (compEnvC scope cl C env) v) Q FF s)
    (F : Fr h₀ L s₂.heap m) (N : News h₀ L s₂.heap nx₀) (hIL : L ≠ I) (hI₀ : h₀.get? I = none) (off : ∀ p ∈ nx₀, p.1 ≠ I)
    (turn : ∀ i v ys nx h tk oI C oC D mC, i < n → P i v → J i ys nx → ys.length ≤ i → B i v mC → NsObj oC mC → Fr h₀ L h m → News h₀ L h ((I, oI) :: (C, oC) :: (D, lst ys) :: nx) → Off3 I C D nx → ((@Ne Nat I C) ∧ (@Ne Nat I D) ∧ (@Ne Nat C D)) →
      wpAny (model prog w) A (compTests' ifs (compEnvC scope cl C env)) (fun ok s₃ =>
        if ok = true then wpAny (model prog w) A (eval elt (compEnvC scope cl C env)) (fun y s₄ => CompOk h₀ L m I oI C oC D (lst ys) (J (i + 1) (ys ++ [y])) { s₂ with heap := h, toks := tk } s₄) FF s₃
        else CompOk h₀ L m I oI C oC D (lst ys) (J (i + 1) ys) { s₂ with heap := h, toks := tk } s₃) FF { s₂ with heap := h, toks := tk })
    (hRR : ∀ D C h tk m' ys nx', Fr h₀ L h m → News h₀ L h ((D, lst ys) :: nx') → Off1 D nx' → h.Ns C m' → h₀.get? C = none → h₀.get? D = none → C ≠ L → D ≠ L → C ≠ D → (∀ p ∈ nx', p.1 ≠ C) → J n ys nx' → ys.length ≤ n → RR (.ref D) C (.ok .next) { s₂ with heap := h, toks := tk }) :
    wpAny (model prog w) A (newList []) (fun acc s₃ => wpAny (model prog w) A (newFunctionEnv scope env.globals cl [] env.qual none .none (some env)) (fun cenv s₄ =>
      codeAny (model prog w) A (.compStart (.ListComp elt [⟨target, iter, ifs, 0⟩] scope pos) 0 (.ref I) acc { cenv with scope := relabel scope env }) (RR acc cenv.locals) s₄) FF s₃) FF s₂ := by
  refine wpAny_newObj_type (wpAny_newFunctionEnv hcell (by intro y hy; simp at hy) (fun h₁ hns₁ hsb₁ => ?_) hkind)
  dsimp only at hns₁ hsb₁ ⊢
  generalize hH2 : s₂.heap.push { cls := .type "list", dict := none, data := .seq ([] : List Value).toArray } = H2 at hns₁ hsb₁ ⊢
  have hC : H2.objs.size = s₂.heap.objs.size + 1 := by rw [← hH2, Heap.size_push]
  have hDC : s₂.heap.objs.size ≠ H2.objs.size := by rw [hC]; exact Nat.ne_of_lt (Nat.lt_succ_self _)
  have below : ∀ b, b < s₂.heap.objs.size → b ≠ H2.objs.size ∧ b ≠ s₂.heap.objs.size := fun b hb => ⟨by rw [hC]; exact Nat.ne_of_lt (Nat.lt_succ_of_lt hb), Nat.ne_of_lt hb⟩
  have hDf : s₂.heap.objs.size ∉ fp := fun hm => Nat.lt_irrefl _ (hfp _ hm)
  have hCf : H2.objs.size ∉ fp := fun hm => by have := hfp _ hm; rw [hC] at this; exact Nat.lt_irrefl _ (Nat.lt_of_succ_lt this)
  have hIf : I ∈ fp := W.sub I (List.mem_singleton.mpr rfl)
  have hIlt : I < s₂.heap.objs.size := hfp I hIf
  have old : ∀ b o, s₂.heap.get? b = some o → h₁.get? b = some o := fun b o e => hsb₁.extBut b o (below b (Heap.lt_size e)).1 (Heap.get?_push_of_some _ (hH2 ▸ Heap.get?_push_of_some _ e))
  have hacc : h₁.get? s₂.heap.objs.size = some (lst []) := hsb₁.extBut _ _ hDC (Heap.get?_push_of_some _ (hH2 ▸ Heap.get?_push_size _ rfl))
  have hst₁ : St 0 h₁ := W.frame _ _ _ hst fun b _ o e => old b o e
  have fresh : ∀ a, s₂.heap.objs.size ≤ a → s₂.heap.get? a = none := fun a ha => by
    cases e : s₂.heap.get? a with
    | none => rfl
    | some o' => exact absurd (Heap.lt_size e) (Nat.not_lt.mpr ha)
  have fresh₀ : ∀ a, s₂.heap.objs.size ≤ a → h₀.get? a = none := fun a ha => by
    cases e : h₀.get? a with
    | none => rfl
    | some o' => have := F.keep a o' e; rw [fresh a ha] at this; cases this
  have hD₀ : h₀.get? s₂.heap.objs.size = none := fresh₀ _ (Nat.le_refl _)
  have hC₀ : h₀.get? H2.objs.size = none := fresh₀ _ (by rw [hC]; exact Nat.le_succ _)
  have hLlt : L < s₂.heap.objs.size := F.ns.lt
  have hDL : s₂.heap.objs.size ≠ L := Ne.symm (below L hLlt).2
  have hCL : H2.objs.size ≠ L := Ne.symm (below L hLlt).1
  have hCI : I ≠ H2.objs.size := (below I hIlt).1
  have hDI : I ≠ s₂.heap.objs.size := (below I hIlt).2
  have off₀ : Off3 I H2.objs.size s₂.heap.objs.size nx₀ := Off3.of fun p hp => ⟨off p hp, (below _ (Heap.lt_size (N p hp).1)).1, (below _ (Heap.lt_size (N p hp).1)).2⟩
  have loop : ∀ s₃ : Shared, s₃ = { s₂ with heap := h₁, toks := s₂.toks + ([] : List (Str × Value)).length } →
      codeAny (model prog w) A (.compLoop (.ListComp elt [⟨target, iter, ifs, 0⟩] scope pos) 0 (.ref I) (.ref s₂.heap.objs.size) (compEnvC scope cl H2.objs.size env))
        (RR (.ref s₂.heap.objs.size) H2.objs.size) s₃ := by
    rintro s₃ rfl
    refine cg_loop
      (fun k s' => ∃ h' tk i ys m' nx', s' = { s₂ with heap := h', toks := tk } ∧ i ≤ n ∧ k = n + 1 - i ∧ ys.length ≤ i ∧ St i h' ∧ Fr h₀ L h' m ∧ h'.Ns H2.objs.size m' ∧ News h₀ L h' ((s₂.heap.objs.size, lst ys) :: nx') ∧
        Off3 I H2.objs.size s₂.heap.objs.size nx' ∧ J i ys nx') ?_ (n + 1)
      ⟨h₁, _, 0, [], _, nx₀, rfl, Nat.zero_le _, rfl, Nat.le_refl _, hst₁, F.keeps old, hns₁, fun p hp => ?_, off₀, hJ⟩
    · rintro k s' ⟨h', tk, i, ys, m', nx', rfl, hi, rfl, hyl, hst', F', hn', N', off', hJ'⟩
      have off3 := off'.mem
      by_cases hlt : i < n
      · refine W.item i _ _ _ hlt hst' fun v h₂ tk₂ hPv hst₂ hk₂ => ?_
        refine hgo (i + 1) v _ _ hst₂ ?_
        have N₂ : News h₀ L h₂ ((s₂.heap.objs.size, lst ys) :: nx') := news_but N' hk₂ fun p hp => by
          rcases List.mem_cons.mp hp with rfl | hp
          · exact Ne.symm hDI
          · exact (off3 p hp).1
        have F₂ : Fr h₀ L h₂ m := fr_but F' hk₂ hIL hI₀
        refine hasg i v ys nx' _ _ _ _ hlt hPv hJ' F₂.keep (fun p hp => N₂ p (List.mem_cons_of_mem _ hp)) (hn'.at' fun o e => hk₂ _ o (by simpa using Ne.symm hCI) e) fun h₃ tk₃ mC hn₃ hB hs₃ => ?_
        have hst₃ : St (i + 1) h₃ := W.frame _ _ _ hst₂ fun b hb o e => hs₃ b o (fun q => hCf (by have q' : b = H2.objs.size := q; rw [← q']; exact hb)) e
        obtain ⟨oI, heI⟩ := hIo _ _ hst₃
        obtain ⟨oC, heC, hoC⟩ := ns_obj hn₃
        have F₃ : Fr h₀ L h₃ m := ⟨F₂.ns.at' fun o e => hs₃ _ o (Ne.symm hCL) e, fun b o e => hs₃ b o (fun q => by
          have q' : b = H2.objs.size := q
          rw [q', hC₀] at e; cases e) (F₂.keep b o e), F₂.above⟩
        have N₃ : News h₀ L h₃ ((I, oI) :: (H2.objs.size, oC) :: (s₂.heap.objs.size, lst ys) :: nx') := fun p hp => by
          rcases List.mem_cons.mp hp with rfl | hp
          · exact ⟨heI, Ne.symm hIL, hI₀⟩
          · rcases List.mem_cons.mp hp with rfl | hp
            · exact ⟨heC, hCL, hC₀⟩
            · have z := N₂ p hp
              refine ⟨hs₃ _ _ ?_ z.1, z.2⟩
              rcases List.mem_cons.mp hp with rfl | hp
              · exact hDC
              · exact (off3 p hp).2.1
        refine wpAny_mono (turn i v ys nx' h₃ tk₃ oI H2.objs.size oC s₂.heap.objs.size mC hlt hPv hJ' hyl hB hoC F₃ N₃ off' ⟨hCI, hDI, Ne.symm hDC⟩) (fun ok s₄ h₄ => ?_) fun _ _ e => e
        cases ok with
        | false =>
          simp only [Bool.false_eq_true, if_false] at h₄ ⊢
          obtain ⟨h₄, tk₄, nx₄, rfl, F₄, N₄, off₄, hJ₄⟩ := h₄
          have N₄' : News h₀ L h₄ nx₄ := fun p hp => N₄ p (List.mem_cons_of_mem _ (List.mem_cons_of_mem _ (List.mem_cons_of_mem _ hp)))
          have hst₄ : St (i + 1) h₄ := hSt _ _ _ _ _ hst₃ heI (N₄ (I, oI) List.mem_cons_self).1 F₄.keep N₄' (hS _ _ _ hJ₄)
          exact ⟨n + 1 - (i + 1), by omega, h₄, tk₄, i + 1, ys, mC, nx₄, rfl, hlt, rfl, Nat.le_succ_of_le hyl, hst₄, F₄, hoC.ns (N₄ (H2.objs.size, oC) (List.mem_cons_of_mem _ List.mem_cons_self)).1,
            fun p hp => N₄ p (List.mem_cons_of_mem _ (List.mem_cons_of_mem _ hp)), off₄, hJ₄⟩
        | true =>
          simp only [if_true] at h₄ ⊢
          refine wpAny_mono h₄ (fun y s₅ h₅ => ?_) fun _ _ e => e
          obtain ⟨h₄, tk₄, nx₄, rfl, F₄, N₄, off₄, hJ₄⟩ := h₅
          have zI := (N₄ (I, oI) List.mem_cons_self).1
          have zC := (N₄ (H2.objs.size, oC) (List.mem_cons_of_mem _ List.mem_cons_self)).1
          have zD := (N₄ (s₂.heap.objs.size, lst ys) (List.mem_cons_of_mem _ (List.mem_cons_of_mem _ List.mem_cons_self))).1
          have N₄' : News h₀ L h₄ nx₄ := fun p hp => N₄ p (List.mem_cons_of_mem _ (List.mem_cons_of_mem _ (List.mem_cons_of_mem _ hp)))
          have hst₄ : St (i + 1) h₄ := hSt _ _ _ _ _ hst₃ heI zI F₄.keep N₄' (hS _ _ _ hJ₄)
          refine append_at (hsz := by show ys.toArray.size ≤ sizeLine; rw [List.size_toArray]; exact Nat.le_trans (Nat.le_trans hyl hi) hsz) zD fun h₅ hs₅ hD₅ => ?_
          have off4 := off₄.mem
          refine ⟨n + 1 - (i + 1), by omega, h₅, tk₄, i + 1, ys ++ [y], mC, nx₄, rfl, hlt, rfl, by rw [List.length_append, List.length_singleton]; omega, W.frame _ _ _ hst₄ fun b hb o e => hs₅.extBut b o (fun q => hDf (q ▸ hb)) e, F₄.change hs₅ hDL hD₀,
            (hoC.ns zC).sameBut hs₅ (Ne.symm hDC), fun p hp => ?_, off₄, hJ₄⟩
          rcases List.mem_cons.mp hp with rfl | hp
          · exact ⟨hD₅.trans (congrArg some (lst_snoc ys y)), hDL, hD₀⟩
          · exact ⟨hs₅.extBut _ _ (off4 p hp).2.2 (N₄' p hp).1, (N₄' p hp).2⟩
      · obtain rfl : i = n := Nat.le_antisymm hi (Nat.not_lt.mp hlt)
        refine W.done _ _ _ hst' fun h₂ tk₂ hk₂ => ?_
        exact hRR _ _ h₂ tk₂ _ ys nx' (fr_but F' hk₂ hIL hI₀) (news_but N' hk₂ fun p hp => by
          rcases List.mem_cons.mp hp with rfl | hp
          · exact Ne.symm hDI
          · exact (off3 p hp).1) off'.one (hn'.at' fun o e => hk₂ _ o (by simpa using Ne.symm hCI) e) hC₀ hD₀ hCL hDL (Ne.symm hDC) (fun p hp => (off3 p hp).2.1) hJ' hyl
    · rcases List.mem_cons.mp hp with rfl | hp
      · exact ⟨hacc, hDL, hD₀⟩
      · exact ⟨old _ _ (N p hp).1, (N p hp).2⟩
  exact codeAny_compStart_list (loop _ rfl) (W.self 0 _ _ _ hst₁ (loop _ rfl))

/-- what a comprehension asks of its iterable's value -/
noncomputable def CSrc (prog : Program) (w : World) (A : Around) (h₀ : Heap) (L : Addr) (m : Str → Option Value) (env : Env) (elt target iter : PySem.Expr) (ifs : List PySem.Expr) (scope : Scope) (cl : List (Str × Addr)) (pos : Pos)
    (Fin : Shared → List Value → List (Addr × Obj) → Prop) (xv : Value) (s₁ : Shared) : Prop :=
  ∀ RR : Value → Addr → Result → Shared → Prop,
    (∀ g D C h tk m' ys nx', Fr h₀ L h m → News h₀ L h ((D, lst ys) :: nx') → Off1 D nx' → h.Ns C m' → h₀.get? C = none → h₀.get? D = none → C ≠ L → D ≠ L → C ≠ D → (∀ p ∈ nx', p.1 ≠ C) → Fin { s₁ with heap := g } ys nx' → RR (.ref D) C (.ok .next) { s₁ with heap := h, toks := tk }) →
    wpAny (model prog w) A (pyIter xv) (fun it s₂ => wpAny (model prog w) A (newList []) (fun acc s₃ => wpAny (model prog w) A (newFunctionEnv scope env.globals cl [] env.qual none .none (some env)) (fun cenv s₄ =>
      codeAny (model prog w) A (.compStart (.ListComp elt [⟨target, iter, ifs, 0⟩] scope pos) 0 it acc { cenv with scope := relabel scope env }) (RR acc cenv.locals) s₄) FF s₃) FF s₂) FF s₁
/-- the turn of a comprehension -/
noncomputable def CTurn (prog : Program) (w : World) (A : Around) (h₀ : Heap) (L : Addr) (m : Str → Option Value) (env : Env) (elt : PySem.Expr) (ifs : List PySem.Expr) (scope : Scope) (cl : List (Str × Addr)) (s₁ : Shared)
    (i : Nat) (ys : List Value) (nx : List (Addr × Obj)) (Bnd : (Str → Option Value) → Prop) (J : Nat → List Value → List (Addr × Obj) → Prop) : Prop :=
  ∀ g h tk I oI C oC D mC, Bnd mC → NsObj oC mC → Fr h₀ L h m → News h₀ L h ((I, oI) :: (C, oC) :: (D, lst ys) :: nx) → Off3 I C D nx → ((@Ne Nat I C) ∧ (@Ne Nat I D) ∧ (@Ne Nat C D)) →
    wpAny (model prog w) A (compTests' ifs (compEnvC scope cl C env)) (fun ok s₃ =>
      if ok = true then wpAny (model prog w) A (eval elt (compEnvC scope cl C env)) (fun y s₄ => CompOk h₀ L m I oI C oC D (lst ys) (J (i + 1) (ys ++ [y])) { s₁ with heap := g, toks := tk } s₄) FF s₃
      else CompOk h₀ L m I oI C oC D (lst ys) (J (i + 1) ys) { s₁ with heap := g, toks := tk } s₃) FF { s₁ with heap := h, toks := tk }
theorem CompOk.anew {s₁ s₂ : Shared} {h₀ : Heap} {L : Addr} {m : Str → Option Value} {I C D : Addr} {oI oC oD : Obj} {J : List (Addr × Obj) → Prop} {g : Heap} {tk : Nat} {g' : Heap} {tk' : Nat} (h : CompOk h₀ L m I oI C oC D oD J { s₁ with heap := g, toks := tk } s₂) : CompOk h₀ L m I oI C oC D oD J { s₁ with heap := g', toks := tk' } s₂ := by
  obtain ⟨h', tk', nx', rfl, r⟩ := h
  exact ⟨h', tk', nx', rfl, r⟩
theorem CSrc.range {elt iter : PySem.Expr} {x : Str} {px : Pos} {ifs : List PySem.Expr} {scope : Scope} {cl : List (Str × Addr)} {pos : Pos} {Fin : Shared → List Value → List (Addr × Obj) → Prop} {r : Addr} {a b : Int} {t u v : Tok} {n : Nat} {nx₀ : List (Addr × Obj)} {s₁ : Shared}
    (hh : A.handled = none) (F : Fr h₀ L s₁.heap m) (N : News h₀ L s₁.heap nx₀) (hr : IsRange s₁.heap r a b 1 t u v) (hsm : Builtin.Range.small a b 1 = true) (hn : Builtin.Range.rangeSize a b 1 = ((n : Nat) : Int)) (hsz : n ≤ sizeLine)
    (hcell : ∀ y ∈ scope.names, y.2 ≠ .cell) (hkind : scope.kind = .function) (hx : scope.names.lookup x = some .local)
    (J : Nat → List Value → List (Addr × Obj) → Prop) (hJ : J 0 [] nx₀)
    (turn : ∀ i t ys nx, i < n → J i ys nx → ys.length ≤ i → CTurn prog w A h₀ L m env elt ifs scope cl s₁ i ys nx (fun mC => mC x = some (.int (a + (i : Int)) t)) J)
    (fin : ∀ g ys nx, J n ys nx → Fin { s₁ with heap := g } ys nx) :
    CSrc prog w A h₀ L m env elt (.Name x px) iter ifs scope cl pos Fin (.ref r) s₁ := by
  intro RR hRR
  refine wpAny_pyIter_range hr hsm ?_
  refine comp_block (S := fun _ => True) (range_walks hh a n) hsz (fun i h st => ⟨_, st⟩) range_st (fun i v s Q _ q => go_name q) hcell hkind (by show IsRangeIter _ _ _ _ _; rw [hn]; simpa using Heap.get?_push_size _ rfl) (fun b hb => ?_)
    (fun i v mC => mC x = some v) J (fun _ _ _ _ => trivial) hJ (fun i v ys nx s C mC Q _ _ _ _ _ hC q => ?_)
    (F.keeps fun _ _ e => Heap.get?_push_of_some _ e) (N.grown fun _ _ e => Heap.get?_push_of_some _ e) (Nat.ne_of_lt F.ns.lt) (next_is_new F) (fun p hp => Nat.ne_of_lt (Heap.lt_size (N p hp).1)) ?_ ?_
  · rw [List.mem_singleton.mp hb]
    show s₁.heap.objs.size < (s₁.heap.push _).objs.size
    rw [Heap.size_push]; exact Nat.lt_succ_self _
  · refine wpAny_assign_Name (wpAny_storeName_local (lookup_relabel_local hx) hC (fun h' hn' hs' => ?_) (by simp [compEnvC, relabel, hkind]))
    exact q h' _ _ hn' (by simp) fun b o hb e => hs'.extBut b o hb e
  · rintro i v ys nx h tk oI C oC D mC hi ⟨t, rfl⟩ hJ' hyl hB hoC F' N' off' ne'
    refine wpAny_mono (turn i t ys nx hi hJ' hyl h h tk _ oI C oC D mC hB hoC F' N' off' ne') (fun ok s₃ h₃ => ?_) fun _ _ e => e
    cases ok with
    | false => exact h₃.anew
    | true => exact wpAny_mono h₃ (fun y s₄ h₄ => h₄.anew) fun _ _ e => e
  · intro D C h tk m' ys nx' F' N' o1 hn' hC₀ hD₀ hCL hDL hCD offC hJ' _
    exact hRR _ D C h tk m' ys nx' F' N' o1 hn' hC₀ hD₀ hCL hDL hCD offC (fin h ys nx' hJ')
theorem CSrc.str {elt iter : PySem.Expr} {x : Str} {px : Pos} {ifs : List PySem.Expr} {scope : Scope} {cl : List (Str × Addr)} {pos : Pos} {Fin : Shared → List Value → List (Addr × Obj) → Prop} {tx : Str} {t : Tok} {nx₀ : List (Addr × Obj)} {s₁ : Shared}
    (hh : A.handled = none) (F : Fr h₀ L s₁.heap m) (N : News h₀ L s₁.heap nx₀) (ha : tx.cps.all (· < 128) = true) (hsz : tx.cps.size ≤ sizeLine)
    (hcell : ∀ y ∈ scope.names, y.2 ≠ .cell) (hkind : scope.kind = .function) (hx : scope.names.lookup x = some .local)
    (J : Nat → List Value → List (Addr × Obj) → Prop) (hJ : J 0 [] nx₀)
    (turn : ∀ i c t ys nx, tx.cps[i]? = some c → J i ys nx → ys.length ≤ i → CTurn prog w A h₀ L m env elt ifs scope cl s₁ i ys nx (fun mC => mC x = some (.str ⟨#[c]⟩ t)) J)
    (fin : ∀ g ys nx, J tx.cps.size ys nx → Fin { s₁ with heap := g } ys nx) :
    CSrc prog w A h₀ L m env elt (.Name x px) iter ifs scope cl pos Fin (.str tx t) s₁ := by
  intro RR hRR
  refine wpAny_pyIter_ascii ha ?_
  refine comp_block (S := fun _ => True) (Walks.strAscii hh s₁.heap.objs.size tx t) hsz (fun i h st => by obtain ⟨o, e, _⟩ := st; exact ⟨o, e⟩) (fun i h h' o nw st e e' _ _ _ => by
      obtain ⟨o', q, r⟩ := st; rw [e] at q; cases q; exact ⟨o, e', r⟩) (fun i v s Q _ q => go_name q) hcell hkind ⟨_, Heap.get?_push_size _ rfl, rfl, rfl⟩ (fun b hb => ?_)
    (fun i v mC => mC x = some v) J (fun _ _ _ _ => trivial) hJ (fun i v ys nx s C mC Q _ _ _ _ _ hC q => ?_)
    (F.keeps fun _ _ e => Heap.get?_push_of_some _ e) (N.grown fun _ _ e => Heap.get?_push_of_some _ e) (Nat.ne_of_lt F.ns.lt) (next_is_new F) (fun p hp => Nat.ne_of_lt (Heap.lt_size (N p hp).1)) ?_ ?_
  · rw [List.mem_singleton.mp hb]
    show s₁.heap.objs.size < (s₁.heap.push _).objs.size
    rw [Heap.size_push]; exact Nat.lt_succ_self _
  · refine wpAny_assign_Name (wpAny_storeName_local (lookup_relabel_local hx) hC (fun h' hn' hs' => ?_) (by simp [compEnvC, relabel, hkind]))
    exact q h' _ _ hn' (by simp) fun b o hb e => hs'.extBut b o hb e
  · rintro i v ys nx h tk oI C oC D mC hi ⟨c, t, hc, rfl⟩ hJ' hyl hB hoC F' N' off' ne'
    refine wpAny_mono (turn i c t ys nx hc hJ' hyl h h tk _ oI C oC D mC hB hoC F' N' off' ne') (fun ok s₃ h₃ => ?_) fun _ _ e => e
    cases ok with
    | false => exact h₃.anew
    | true => exact wpAny_mono h₃ (fun y s₄ h₄ => h₄.anew) fun _ _ e => e
  · intro D C h tk m' ys nx' F' N' o1 hn' hC₀ hD₀ hCL hDL hCD offC hJ' _
    exact hRR _ D C h tk m' ys nx' F' N' o1 hn' hC₀ hD₀ hCL hDL hCD offC (fin h ys nx' hJ')
theorem ListComp_src {elt target iter : PySem.Expr} {ifs : List PySem.Expr} {scope : Scope} {cl : List (Str × Addr)} {pos : Pos} {Q : Value → Shared → Prop} (_F₀ : Fr h₀ L s.heap m)
    (hclos : closureFor scope env = pure cl) (hkind : scope.kind = .function)
    (hnames : ∀ y ∈ scope.names, y.2 = .local → scope.names.lookup y.1 = some .local)
    (h : wpAny (model prog w) A (eval iter env) (CSrc prog w A h₀ L m env elt target iter ifs scope cl pos (fun s₂ => FinE h₀ L m s₂ Q)) FF s)
    (hs : ∀ x, foldedSetIterable iter env x = pure x := by intro _; rfl) :
    wpAny (model prog w) A (eval (.ListComp elt [⟨target, iter, ifs, 0⟩] scope pos) env) Q FF s := by
  rw [eval_ListComp]
  refine wpAny_comprehension_free (use := none) rfl hs hclos hkind hnames (wpAny_mono h (fun xv s₁ h₁ => ?_) fun _ _ e => e)
  refine h₁ (fun acc C => compPost (model prog w) A FF none Q acc C) ?_
  intro g D C h tk m' ys news' F' N' o1 hn hC₀ hD₀ hCL hDL hCD offC fin
  refine ⟨m', hn, fun h'' hs'' => fin D h'' tk (F'.change hs'' hCL hC₀) (fun p hp => ?_) o1⟩
  refine ⟨hs''.extBut _ _ ?_ (N' p hp).1, (N' p hp).2⟩
  rcases List.mem_cons.mp hp with rfl | hp
  · exact Ne.symm hCD
  · exact offC p hp
theorem Assign_ListComp_src {elt target iter : PySem.Expr} {y : Str} {py : Pos} {ifs : List PySem.Expr} {scope : Scope} {cl : List (Str × Addr)} {pos spos : Pos} {Q : Flow → Shared → Prop} (_F₀ : Fr h₀ L s.heap m) (hLe : env.locals = L)
    (hsw : swapsWith (.ListComp elt [⟨target, iter, ifs, 0⟩] scope pos) (some (.Name y py)) spos.line env = pure true)
    (hclos : closureFor scope env = pure cl) (hkind : scope.kind = .function)
    (hnames : ∀ z ∈ scope.names, z.2 = .local → scope.names.lookup z.1 = some .local)
    (hy : env.kindOf y = some .local) (hp : (env.scope.kind == .class || (env.scope.kind == .module && env.locals != env.globals)) = false)
    (h : wpAny (model prog w) A (eval iter env) (CSrc prog w A h₀ L m env elt target iter ifs scope cl pos (fun s₂ => FinA h₀ L m s₂ y Q)) FF s)
    (hs : ∀ x, foldedSetIterable iter env x = pure x := by intro _; rfl) :
    wpAny (model prog w) A (exec (.Assign [.Name y py] (.ListComp elt [⟨target, iter, ifs, 0⟩] scope pos) spos) env) Q FF s := by
  subst hLe
  rw [exec_Assign_Name_used _ _ _ _ hsw]
  refine wpAny_bind (wpAny_standAt (wpAny_bind ?_))
  show wpAny _ A (do let _ ← comprehension (.ListComp elt [⟨target, iter, ifs, 0⟩] scope pos) scope env _ (newList []) false (eval iter env) (some (assign (.Name y py) env))) _ _ s
  refine wpAny_bind (wpAny_mono (wpAny_comprehension_free (use := some (assign (.Name y py) env)) (Q := fun _ s' => Q .next s') rfl hs hclos hkind hnames
    (wpAny_mono h (fun xv s₁ h₁ => ?_) fun _ _ e => e)) (fun _ s' hq => wpAny_pure (wpAny_pure hq)) fun _ _ e => e)
  refine h₁ (fun acc C => compPost (model prog w) A FF (some (assign (.Name y py) env)) (fun _ s' => Q .next s') acc C) ?_
  intro g D C h' tk m' ys news' F' N' o1 hn hC₀ hD₀ hCL hDL hCD offC fin
  show wpAny _ A (assign (.Name y py) env (.ref D)) _ _ _
  refine wpAny_assign_Name (wpAny_storeName_local hy F'.ns (fun h₂ hn₂ hs₂ => ?_) hp)
  have hL₀ : h₀.get? env.locals = none := Heap.get?_none_of_le F'.above
  have F₂ : Fr h₀ env.locals h₂ (fun z => if z = y then some (.ref D) else m z) := ⟨hn₂, fun b o e => hs₂.extBut b o (fun q => by rw [q, hL₀] at e; cases e) (F'.keep b o e), F'.above⟩
  refine ⟨m', hn.sameBut hs₂ hCL, fun h'' hs'' => fin D h'' _ (F₂.change hs'' hCL hC₀) (fun p hp => ?_) o1⟩
  have z : h₂.get? p.1 = some p.2 := hs₂.extBut _ _ (N' p hp).2.1 (N' p hp).1
  refine ⟨hs''.extBut _ _ ?_ z, (N' p hp).2⟩
  rcases List.mem_cons.mp hp with rfl | hp
  · exact Ne.symm hCD
  · exact offC p hp
end
end Mine
end
section
open PySem PySem.W PyProof.Rows
namespace Mine
noncomputable abbrev RS := List (List Int) × List Int × Int × Int
noncomputable def rdFirst (first k : Int) : Int := if first = 0 then k else first
noncomputable def rdHalf (first step k : Int) : Int := if step < 4 ∨ k ≠ rdFirst first k then step / 2 else step
noncomputable def rdStep (st : RS) (k : Int) : RS :=
  if k = 12 then (st.1 ++ [st.2.1], [0], 0, 4)
  else (st.1, st.2.1 ++ [if k = 14 then st.2.1.getLastD 0 + rdHalf st.2.2.1 st.2.2.2 k else st.2.1.getLastD 0 - rdHalf st.2.2.1 st.2.2.2 k], rdFirst st.2.2.1 k, rdHalf st.2.2.1 st.2.2.2 k)
noncomputable def rdRun (ks : List Int) : RS := ks.foldl rdStep ([], [0], 0, 4)
noncomputable def readL (l : List Nat) : List (List Int) := let st := rdRun (l.map kd); st.1 ++ [st.2.1]
noncomputable abbrev RowE := Addr × List Value × Nat
noncomputable def rowOf (r : RowE) : Addr × Obj := (r.1, W.listOf r.2.1.toArray r.2.2)
noncomputable def RowsAre : List RowE → List (List Int) → Prop
  | [], [] => True
  | r :: rs, x :: xs => IntsAre r.2.1 x ∧ RowsAre rs xs
  | _, _ => False
theorem RowsAre.snoc {r : RowE} {x : List Int} (h : IntsAre r.2.1 x) : ∀ {rs : List RowE} {xs : List (List Int)}, RowsAre rs xs → RowsAre (rs ++ [r]) (xs ++ [x])
  | [], [], _ => ⟨h, trivial⟩
  | [], _ :: _, e => e.elim
  | _ :: _, [], e => e.elim
  | _ :: _, _ :: _, e => ⟨e.1, RowsAre.snoc h e.2⟩
theorem RowsAre.len : ∀ {rs : List RowE} {xs : List (List Int)}, RowsAre rs xs → rs.length = xs.length
  | [], [], _ => rfl
  | [], _ :: _, e => e.elim
  | _ :: _, [], e => e.elim
  | _ :: _, _ :: _, e => by simp [RowsAre.len e.2]
/-- the ledger of a reading: the list told, the stalk at hand, the rest -/
noncomputable def rdNews (D cur : Addr) (nD nC : Nat) (vsC : List Value) (rs : List RowE) (rest : List (Addr × Obj)) : List (Addr × Obj) :=
  (D, W.listOf (rs.map (fun r => Value.ref r.1) ++ [Value.ref cur]).toArray nD) :: (cur, W.listOf vsC.toArray nC) :: (rs.map rowOf ++ rest)
inductive RdJ (l : List Nat) (d lK : Addr) (oD oK : Obj) (news : List (Addr × Obj)) (i : Nat) (m : Str → Option Value) (nx : List (Addr × Obj)) : Prop
  | mk (hi : i ≤ l.length) (D cur : Addr) (nD nC : Nat) (vsC : List Value) (rs : List RowE) (dn : List (List Int)) (curI : List Int) (first step : Int) (t1 t2 : Tok)
    (h1 : m (Str.ofString "told") = some (.ref D)) (h2 : m (Str.ofString "deeds") = some (.ref d)) (h3 : m (Str.ofString "first") = some (.int first t1)) (h4 : m (Str.ofString "step") = some (.int step t2))
    (h5 : rdRun ((l.take i).map kd) = (dn, curI, first, step)) (h6 : IntsAre vsC curI) (h7 : RowsAre rs dn) (h8 : curI.length + dn.length ≤ i + 1) (h9 : 0 < curI.length) (h10 : 0 ≤ step) (h11 : step ≤ 4)
    (h12 : nx = rdNews D cur nD nC vsC rs ((d, oD) :: (lK, oK) :: news)) (h13 : ∀ p ∈ (rs.map rowOf ++ ((d, oD) :: (lK, oK) :: news)), p.1 ≠ D ∧ p.1 ≠ cur)
    (h14 : cur ≠ D ∧ (@LT.lt Nat _ d D) ∧ (@LT.lt Nat _ d cur) ∧ ∀ r ∈ rs, @LT.lt Nat _ d r.1) : RdJ l d lK oD oK news i m nx
end Mine
namespace Mine
theorem allLt_mem {d : Addr} : ∀ {l : List (Addr × Obj)}, AllLt d l → ∀ p ∈ l, @LT.lt Nat _ p.1 d
  | [], _, _, h => nomatch h
  | q :: r, x, p, h => by
    rcases List.mem_cons.mp h with rfl | h
    · exact x.1
    · exact allLt_mem x.2 p h
theorem intsAre_at {vs : List Value} {ns : List Int} {i : Nat} {v : Value} {n : Int} (h : IntsAre vs ns) (hv : vs[i]? = some v) (hn : ns[i]? = some n) : ∃ t, v = .int n t := by
  obtain ⟨t, ht⟩ := h.get i n hn
  exact ⟨t, by rw [hv] at ht; exact Option.some.inj ht⟩
end Mine
namespace Mine
section
variable {prog : Program} {w : World} {A : Around} {E : Value → Shared → Prop} {s : Shared} {h₀ : Heap} {L : Addr} {nx : List (Addr × Obj)} {Q : Value → Shared → Prop}
theorem last_ref {value slice : PySem.Expr} {D : Addr} {xs : List Value} {v : Value} {n : Nat} {u : Tok} (N : News h₀ L s.heap nx) (hm : (D, W.listOf (xs ++ [v]).toArray n) ∈ nx) (hz : xs.length ≤ 1000) (h : Q v s)
    (hs : subscripted slice false (.ref D) (.int (-1) u) = operate [.ref D, .int (-1) u] (getItem (.ref D) (.int (-1) u)) := by with_unfolding_all rfl) :
    wpAny (model prog w) A (subscriptTail value slice (.ref D) (.int (-1) u)) Q E s := by
  have hl : s.heap.IsList D (xs ++ [v]).toArray := ⟨_, (N _ hm).1, rfl, _, rfl⟩
  refine tail_any hl.typeIs slot_list_getitem.lookup (wpAny_getItem_list_neg hl (by decide) ?_ (by decide) ?_ h) hs
  · simp; omega
  · simp
    rw [show ((-1 : Int) + ((xs.length : Int) + 1)).toNat = xs.length by omega]
    simp
theorem last_int {value slice : PySem.Expr} {D : Addr} {vs : List Value} {ns : List Int} {n : Nat} {u : Tok} (N : News h₀ L s.heap nx) (hm : (D, W.listOf vs.toArray n) ∈ nx) (hi : IntsAre vs ns) (h0 : 0 < ns.length) (h : ∀ t, Q (.int (ns.getLastD 0) t) s)
    (hs : subscripted slice false (.ref D) (.int (-1) u) = operate [.ref D, .int (-1) u] (getItem (.ref D) (.int (-1) u)) := by with_unfolding_all rfl) :
    wpAny (model prog w) A (subscriptTail value slice (.ref D) (.int (-1) u)) Q E s := by
  have hl : s.heap.IsList D vs.toArray := ⟨_, (N _ hm).1, rfl, _, rfl⟩
  have hlen := hi.length
  obtain ⟨t, ht⟩ := hi.get (ns.length - 1) (ns.getLastD 0) (by
    rw [List.getLastD_eq_getLast?, List.getLast?_eq_getElem?]
    rw [List.getElem?_eq_getElem (by omega)]; rfl)
  refine tail_any hl.typeIs slot_list_getitem.lookup (wpAny_getItem_list_neg hl (by decide) ?_ (by decide) ?_ (h t)) hs
  · simp; omega
  · simp
    rw [show ((-1 : Int) + (vs.length : Int)).toNat = ns.length - 1 by omega]
    simpa using ht
end
theorem rdRun_snoc (ks : List Int) (k : Int) : rdRun (ks ++ [k]) = rdStep (rdRun ks) k := by simp [rdRun, List.foldl_append]
theorem take_kd {l : List Nat} {i : Nat} {c : Nat} (hlt : i < l.length) (hc : l[i] = c) : (l.take (i + 1)).map kd = (l.take i).map kd ++ [kd c] := by
  rw [List.take_add_one, List.getElem?_eq_getElem hlt, hc]; simp
theorem rd_next {l : List Nat} {i : Nat} {c : Nat} {k : Int} {dn : List (List Int)} {curI : List Int} {first step f' st' x : Int} (hlt : i < l.length) (hc : l[i] = c) (hk : kd c = k) (hrun : rdRun ((l.take i).map kd) = (dn, curI, first, step)) (h12 : k ≠ 12)
    (hf : rdFirst first k = f') (hs : (if step < 4 ∨ k ≠ f' then step / 2 else step) = st') (hx : (if k = 14 then curI.getLastD 0 + st' else curI.getLastD 0 - st') = x) : rdRun ((l.take (i + 1)).map kd) = (dn, curI ++ [x], f', st') := by
  subst hf
  change rdHalf first step k = st' at hs
  subst hs hx hk
  rw [take_kd hlt hc, rdRun_snoc, hrun]
  unfold rdStep
  rw [if_neg h12]
theorem rd_comma {l : List Nat} {i : Nat} {dn : List (List Int)} {curI : List Int} {first step : Int} (hlt : i < l.length) (hc : l[i] = 44) (hrun : rdRun ((l.take i).map kd) = (dn, curI, first, step)) : rdRun ((l.take (i + 1)).map kd) = (dn ++ [curI], [0], 0, 4) := by
  rw [take_kd hlt hc, rdRun_snoc, hrun]; rfl
theorem half_eq (st : Int) : st.fdiv (2 ^ Int.toNat 1) = st / 2 := Int.fdiv_eq_ediv_of_nonneg _ (by decide)
end Mine
namespace Mine
theorem rd_sub_comma {D cur lN I : Addr} {nD nC : Nat} {vsC : List Value} {rs : List RowE} {rest : List (Addr × Obj)} {x : Value} {oI : Obj} : ∀ p ∈ rdNews D lN (nD + 1) 0 [x] (rs ++ [(cur, vsC, nC)]) rest,
    p ∈ (lN, W.listOf #[x] 0) :: (I, oI) :: (D, W.listOf (rs.map (fun r => Value.ref r.1) ++ [Value.ref cur] ++ [Value.ref lN]).toArray (nD + 1)) :: (cur, W.listOf vsC.toArray nC) :: (rs.map rowOf ++ rest) := by
  intro p hp
  simp only [rdNews, List.map_append, List.map_cons, List.map_nil, List.append_assoc, List.mem_cons, List.mem_append, List.cons_append, List.nil_append] at hp ⊢
  rcases hp with rfl | rfl | hp | rfl | hp
  · exact .inr (.inr (.inl rfl))
  · exact .inl rfl
  · exact .inr (.inr (.inr (.inr (.inl hp))))
  · exact .inr (.inr (.inr (.inl rfl)))
  · exact .inr (.inr (.inr (.inr (.inr hp))))
theorem rd_mem_comma {D cur lN : Addr} {nD nC : Nat} {vsC : List Value} {rs : List RowE} {rest : List (Addr × Obj)} {x : Value} : ∀ p ∈ rdNews D lN (nD + 1) 0 [x] (rs ++ [(cur, vsC, nC)]) rest,
    p.1 = D ∨ p.1 = lN ∨ p ∈ (cur, W.listOf vsC.toArray nC) :: (rs.map rowOf ++ rest) := by
  intro p hp
  simp only [rdNews, List.map_append, List.map_cons, List.map_nil, List.append_assoc, List.mem_cons, List.mem_append, List.cons_append, List.nil_append] at hp ⊢
  rcases hp with rfl | rfl | hp | rfl | hp
  · exact .inl rfl
  · exact .inr (.inl rfl)
  · exact .inr (.inr (.inr (.inl hp)))
  · exact .inr (.inr (.inl rfl))
  · exact .inr (.inr (.inr (.inr hp)))
theorem rd_off_comma {cur D lN : Addr} {vsC : List Value} {nC : Nat} {rs : List RowE} {rest : List (Addr × Obj)} (hoff : ∀ p ∈ rs.map rowOf ++ rest, p.1 ≠ D ∧ p.1 ≠ cur) (hne : cur ≠ D) (hc : @LT.lt Nat _ cur lN) (hl : AllLt lN (rs.map rowOf ++ rest)) :
    ∀ p ∈ (rs ++ [(cur, vsC, nC)]).map rowOf ++ rest, p.1 ≠ D ∧ p.1 ≠ lN := by
  intro p hp
  simp only [List.map_append, List.map_cons, List.map_nil, List.append_assoc, List.mem_append, List.mem_cons, List.not_mem_nil, or_false] at hp
  rcases hp with hp | rfl | hp
  · exact ⟨(hoff p (List.mem_append_left _ hp)).1, Nat.ne_of_lt (allLt_mem hl p (List.mem_append_left _ hp))⟩
  · exact ⟨hne, Nat.ne_of_lt hc⟩
  · exact ⟨(hoff p (List.mem_append_right _ hp)).1, Nat.ne_of_lt (allLt_mem hl p (List.mem_append_right _ hp))⟩
theorem rd_sub_ret {D cur : Addr} {nD nC : Nat} {vsC : List Value} {rs : List RowE} {news : List (Addr × Obj)} {I d lW : Addr} {oI o2 oW : Obj} :
    ∀ p ∈ (D, W.listOf ((rs ++ [(cur, vsC, nC)]).map fun r => Value.ref r.1).toArray nD) :: ((rs ++ [(cur, vsC, nC)]).map rowOf ++ news),
      p ∈ (I, oI) :: (D, W.listOf (rs.map (fun r => Value.ref r.1) ++ [Value.ref cur]).toArray nD) :: (cur, W.listOf vsC.toArray nC) :: (rs.map rowOf ++ (d, o2) :: (lW, oW) :: news) := by
  intro p hp
  simp only [List.map_append, List.map_cons, List.map_nil, List.append_assoc, List.mem_cons, List.mem_append, List.cons_append, List.nil_append] at hp ⊢
  rcases hp with rfl | hp | rfl | hp
  · exact .inr (.inl rfl)
  · exact .inr (.inr (.inr (.inl hp)))
  · exact .inr (.inr (.inl rfl))
  · exact .inr (.inr (.inr (.inr (.inr (.inr hp)))))
end Mine
end
section
open PySem PySem.W PyProof.Rows
namespace Mine
theorem fill3 (w : World) : hd.heap_39 w.params = hd.heap_39 w.params ∧ PySem.Challenge.rw_xg0038_01 = PySem.Challenge.rw_xg0038_01 := by
  k_fill
  exact ⟨rfl, rfl⟩
set_option maxRecDepth 100000
set_option maxHeartbeats 8000000
local macro_rules | `(tactic| k_room) => `(tactic| (dsimp only [ktrTop, Around.deeper]; omega))
noncomputable def CtrRead (w : World) (s₀ : Shared) (mg mb : Str → Option Value) (l : List Nat) : Prop :=
  ∀ (t : Tok) (dp un : Nat) (gd : Option (List Code)) (cn : Str) (cs : Scope) (a : Addr) (ccd : Value) (cl : List (Str × Addr)) (outer : List Env) (A₀ : Around) (base h₀ : Heap) (L : Addr) (m : Str → Option Value) (news : List (Addr × Obj)) (s : Shared) (Q : Value → Shared → Prop),
    Below A₀ base outer h₀ → Fr h₀ L s.heap m → (hd.heap_39 w.params).In h₀ → News h₀ L s.heap news → Top hd.view_39 (looseW hd.view_39 [Str.ofString "EXACT_TOKEN_TYPES"]) (ExcName.means s₀.heap) mg mb h₀ → cs.kind = .function →
    dp + 10 < recursionLimit → un + 80 < cLine →
    (∀ h' tk' D nD rs, Fr h₀ L h' m → News h₀ L h' ((D, W.listOf (rs.map fun r => Value.ref r.1).toArray nD) :: (rs.map rowOf ++ news)) → RowsAre rs (readL l) → (∀ q ∈ news, @LT.lt Nat _ q.1 D) → (∀ q ∈ news, ∀ r ∈ rs, @LT.lt Nat _ q.1 r.1) → Q (.ref D) { s with heap := h', toks := tk' }) →
      wpAny (model PySem.Challenge.rw_xg0038_01.row.prog w) (ktrTop dp un gd cn cs L a ccd cl outer) (call (.ref 99) [.str (tx l) t]) Q (fun _ _ => False) s
theorem read_ok (w : World) (s₀ : Shared) (mg mb : Str → Option Value) (l : List Nat) (hl : ∀ c ∈ l, c = 43 ∨ c = 45 ∨ c = 44) (hz : l.length ≤ 100) : CtrRead w s₀ mg mb l := by
  intro t dp un gd cn cs a ccd cl outer A₀ base h₀ L m news s Q B F X N T hk hd hu hret
  refine wpAny_call ?_
  k_dflt cell_enter
  refine wpAny_noRaise ?_
  repeat' (first | ((fail_if_success (with_reducible show wpAny _ _ (exec (Stmt.For _ _ _ _ _) _) _ _ _)); walk1))
  rename Fr _ _ _ _ => F'
  rename News _ _ _ _ => N'
  k_dflt (refine kdn_eval (knd := PySem.intKind _ _) F' N' (Top.nolimit (by assumption)) (by rfl) (by rfl) (List.cons_ne_nil _ _) (by decide) ?_)
  intro d h1 o F1 N1 l1 lo1 hd1
  clear F' N'
  repeat' (first | ((fail_if_success (with_reducible show KdnMade _ _ _ _ _ _ _)); (fail_if_success (with_reducible show wpAny _ _ (exec (Stmt.For _ _ _ _ _) _) _ _ _)); walk1))
  refine kdn_made_int (by assumption) (by assumption) (UpdF.head fun p hp => Nat.ne_of_lt (l1 p hp)) hd1 (by rfl) (of_decide_eq_true (by rfl)) ?_
  intro h2 o2 F2 N2 hd2
  clear hd1 N1 F1
  repeat' (first | ((fail_if_success (with_reducible show wpAny _ _ (exec (Stmt.For _ _ _ _ _) _) _ _ _)); walk1))
  rename Fr _ _ _ _ => F3
  rename News _ _ _ _ => N3
  rename_i ha lA hb l1A lB hc l1B hd' he hf
  refine For_src ?_
  walk1
  refine ListComp_src F3 (by with_unfolding_all rfl) (by rfl) (by decide) ?_
  walk1
  refine CSrc.str (by rfl) F3 N3 (tx_ascii hl) (by rw [show (tx l).cps.size = l.length from tx_length l, sizeLine_eq]; omega) (by decide) (by rfl) (by rfl)
    (fun i ys nx => nx = _ ∧ IntsAre ys ((l.take i).map kd)) ⟨rfl, .nil⟩ ?_ ?_
  · intro i c u ys nx hc hJ hyl g h tk I oI C oC D mC hB hoC F4 N4 off ne
    obtain ⟨rfl, hys⟩ := hJ
    refine wpAny_tests_nil ?_
    simp only [if_true]
    have hc' := tx_at hc
    have hmem : c ∈ l := List.mem_of_getElem? hc'
    have htake : (l.take (i + 1)).map kd = (l.take i).map kd ++ [kd c] := by rw [List.take_add_one, hc']; simp
    rcases hl c hmem with rfl | rfl | rfl
    · rw [show (⟨#[43]⟩ : Str) = Str.ofString "+" from by decide +kernel] at hB
      repeat' walk1
      exact CompOk.intro F4 N4 _ List.mem_cons_self (List.mem_cons_of_mem _ List.mem_cons_self) (List.mem_cons_of_mem _ (List.mem_cons_of_mem _ List.mem_cons_self)) (fun p hp => List.mem_cons_of_mem _ (List.mem_cons_of_mem _ (List.mem_cons_of_mem _ hp))) off ⟨rfl, by rw [htake]; exact intsAre_snoc hys⟩
    · rw [show (⟨#[45]⟩ : Str) = Str.ofString "-" from by decide +kernel] at hB
      repeat' walk1
      exact CompOk.intro F4 N4 _ List.mem_cons_self (List.mem_cons_of_mem _ List.mem_cons_self) (List.mem_cons_of_mem _ (List.mem_cons_of_mem _ List.mem_cons_self)) (fun p hp => List.mem_cons_of_mem _ (List.mem_cons_of_mem _ (List.mem_cons_of_mem _ hp))) off ⟨rfl, by rw [htake]; exact intsAre_snoc hys⟩
    · rw [show (⟨#[44]⟩ : Str) = Str.ofString "," from by decide +kernel] at hB
      repeat' walk1
      exact CompOk.intro F4 N4 _ List.mem_cons_self (List.mem_cons_of_mem _ List.mem_cons_self) (List.mem_cons_of_mem _ (List.mem_cons_of_mem _ List.mem_cons_self)) (fun p hp => List.mem_cons_of_mem _ (List.mem_cons_of_mem _ (List.mem_cons_of_mem _ hp))) off ⟨rfl, by rw [htake]; exact intsAre_snoc hys⟩
  · rintro g ks nx ⟨rfl, hks⟩ lK h tk F5 N5 off5
    rw [show (tx l).cps.size = l.length from tx_length l, List.take_length] at hks
    clear F3 N3
    repeat' (first | ((fail_if_success (with_reducible show ForSrc _ _ _ _ _ _ _ _ _)); walk1))
    rename Fr _ _ _ _ => F6
    rename News _ _ _ _ => N6
    rename IntsAre _ _ => hI6
    rename_i lE hE lE1 lW ws hW lW1
    have F6' := F6
    have offK := off5
    simp only [LCg.Off1] at offK
    obtain ⟨oK1, oK2, oK3, oK4⟩ := offK
    have N7 : News _ _ _ (rdNews lB lA 0 0 [Value.int 0 _] [] ((d, o2) :: (lW, W.listOf ws.toArray 0) :: news)) := fun p hp => N6 p (by
      simp only [rdNews, List.map_nil, List.nil_append, List.mem_cons] at hp ⊢
      rcases hp with rfl | rfl | rfl | rfl | hp
      · exact .inr (.inr (.inr (.inl rfl)))
      · exact .inr (.inr (.inr (.inr (.inl rfl))))
      · exact .inr (.inr (.inr (.inr (.inr (.inl rfl)))))
      · exact .inl rfl
      · exact .inr (.inr (.inr (.inr (.inr (.inr hp))))))
    refine ForSrc.listV (its := ws.toArray) (by rfl) (fun _ _ _ _ _ _ q => go_name q) F6 N7 (RdJ l d lW o2 (W.listOf ws.toArray 0) news) (fun i m nx hJ => ?_) ?_ ?_ ?_
    · obtain ⟨_, D, cur, nD, nC, vsC, rs, dn, curI, first, step, t1, t2, _, _, _, _, _, _, _, _, _, _, _, rfl, _⟩ := hJ
      exact .inr ⟨W.listOf ws.toArray 0, by simp [rdNews], rfl, _, rfl⟩
    · refine ⟨Nat.zero_le _, lB, lA, 0, 0, [Value.int 0 _], [], [], [0], 0, 4, _, _, by with_unfolding_all rfl, by with_unfolding_all rfl, by with_unfolding_all rfl, by with_unfolding_all rfl, rfl, .cons 0 _ .nil, trivial, by decide, by decide, by decide, by decide, rfl, ?_, ?_⟩
      · intro p hp
        simp only [List.map_nil, List.nil_append, List.mem_cons] at hp
        rcases hp with rfl | rfl | hp
        · exact ⟨Nat.ne_of_lt l1B.2.1, Nat.ne_of_lt l1A.1⟩
        · exact ⟨Nat.ne_of_gt lW1.2.2.1, Nat.ne_of_gt lW1.2.2.2.1⟩
        · exact ⟨Nat.ne_of_lt (allLt_mem l1B.2.2 p hp), Nat.ne_of_lt (allLt_mem l1A.2 p hp)⟩
      · exact ⟨Nat.ne_of_lt l1B.1, l1B.2.1, l1A.1, fun r hr => nomatch hr⟩
    · clear F6 F6' N6 N7 oK1 oK2 oK3 oK4 off5 l1A l1B lE1
      intro Jv Qv gv dv ov i v m1 nx h5 tk5 I oI hJv hQv hsv hv hJ F7 N7 offI hcI
      obtain ⟨hi, D, cur, nD, nC, vsC, rs, dn, curI, first, step, t1, t2, hm1, hm2, hm3, hm4, hrun, hvs, hrs, hsz, hpos, hs0, hs4, rfl, hoff, hne, hdD, hdc, hdr⟩ := hJ
      have hv' : ws[i]? = some v := by simpa using hv
      rw [map4 hm1 hm2 hm3 hm4] at F7
      by_cases hil : i = l.length
      · obtain ⟨tv, rfl⟩ := intsAre_at (n := 0) hI6 hv' (by subst hil; simp)
        unfold rdNews at N7
        repeat' (first
          | ((with_reducible show wpAny _ _ (call (Value.ref 80) [Value.int _ _]) _ _ _); k_dflt (refine use_of (eof_ok w s₀ mg mb _ _ _) (by assumption) (by assumption) (by assumption) (by assumption) (by assumption) rfl (by k_room) (by k_room) ?_); intro _ _ _ _ _; (try dsimp only); (try rw [show decide ((14 : Int) = 0) = false from rfl]); (try rw [show decide ((15 : Int) = 0) = false from rfl]); (try rw [show decide ((12 : Int) = 0) = false from rfl]); (try rw [show decide ((0 : Int) = 0) = true from rfl]))
          | ((fail_if_success (with_reducible show FtPost _ _ _ _ _ _ _ _ _)); walk1))
        unfold FtPost
        dsimp only
        refine hQv _ _ ?_
        rw [← hsv]
        dsimp only
        repeat' (first | (k_unfold; (try dsimp only)) | walk1)
        have hrun' : rdRun (l.map kd) = (dn, curI, first, step) := by rw [hil, List.take_length] at hrun; exact hrun
        refine hret _ _ D nD (rs ++ [(cur, vsC, nC)]) (by assumption) (cb_drop (by assumption) rd_sub_ret) (by unfold readL; rw [hrun']; exact RowsAre.snoc hvs hrs) (fun q hq => Nat.lt_trans (l1 q hq) hdD) (fun q hq r hr => ?_)
        rcases List.mem_append.mp hr with hr | hr
        · exact Nat.lt_trans (l1 q hq) (hdr r hr)
        · rw [List.mem_singleton.mp hr]; exact Nat.lt_trans (l1 q hq) hdc
      · have hlt : i < l.length := by omega
        have hmem := hl l[i] (List.getElem_mem hlt)
        rcases hmem with hc | hc | hc
        · obtain ⟨tv, rfl⟩ := intsAre_at (n := 14) hI6 hv' (by rw [List.getElem?_append_left (by rw [List.length_map]; exact hlt), List.getElem?_map, List.getElem?_eq_getElem hlt, hc]; rfl)
          unfold rdNews at N7
          repeat' (first
            | ((with_reducible show wpAny _ _ (call (Value.ref 80) [Value.int _ _]) _ _ _); k_dflt (refine use_of (eof_ok w s₀ mg mb _ _ _) (by assumption) (by assumption) (by assumption) (by assumption) (by assumption) rfl (by k_room) (by k_room) ?_); intro _ _ _ _ _; (try dsimp only); (try rw [show decide ((14 : Int) = 0) = false from rfl]); (try rw [show decide ((15 : Int) = 0) = false from rfl]); (try rw [show decide ((12 : Int) = 0) = false from rfl]); (try rw [show decide ((0 : Int) = 0) = true from rfl]))
            | ((with_reducible show wpAny _ _ (call (Value.ref 35) [Value.int _ _, Value.int _ _]) _ _ _); k_dflt (refine use_of (add_ok w s₀ mg mb _ _ _ _ _) (by assumption) (by assumption) (by assumption) (by assumption) (by assumption) rfl (by k_room) (by k_room) ?_); intro _ _ _ _ _; (try dsimp only))
            | ((with_reducible show wpAny _ _ (call (Value.ref 56) [Value.int _ _, Value.int _ _]) _ _ _); k_dflt (refine use_of (sub_ok w s₀ mg mb _ _ _ _ _) (by assumption) (by assumption) (by assumption) (by assumption) (by assumption) rfl (by k_room) (by k_room) ?_); intro _ _ _ _ _; (try dsimp only))
            | ((with_reducible show wpAny _ _ (call (Value.ref 49) [Value.int _ _, Value.int _ _]) _ _ _); k_dflt (refine use_of (shr_ok w s₀ mg mb _ _ _ _) (by assumption) (by assumption) (by assumption) (by assumption) (by assumption) rfl (by k_room) (by k_room) ?_); intro _ _ _ _ _; (try dsimp only))
            | ((with_reducible show wpAny _ _ (subscriptTail _ _ (Value.ref D) (Value.int _ _)) _ _ _); refine last_ref (by assumption) (by k_mem) (by rw [List.length_map, hrs.len]; omega) ?_)
            | ((with_reducible show wpAny _ _ (subscriptTail _ _ (Value.ref cur) (Value.int _ _)) _ _ _); refine last_int (by assumption) (by k_mem) hvs hpos ?_; intro tl)
            | ((with_reducible show wpAny _ _ (subscriptTail _ _ (Value.ref d) (Value.int _ _)) _ _ _); refine kda_item (knd := PySem.intKind _ _) (by assumption) (List.mem_cons_of_mem _ (List.mem_cons_of_mem _ (List.mem_cons_of_mem _ (List.mem_append_right _ List.mem_cons_self)))) hd2 (intKind_is _ _ _ _) (by rfl) ?_)
            | ((with_reducible show wpAny _ _ (call (Value.builtin "list.append") [Value.ref cur, _]) _ _ _); refine append_K (by assumption) (by assumption) (Upd.tail (Ne.symm (offI _ (List.mem_cons_of_mem _ List.mem_cons_self))) (Upd.tail (Ne.symm hne) (Upd.head fun p hp => (hoff p hp).2))) ?_ (by rw [List.size_toArray, hvs.length, sizeLine_eq]; omega); intro hF FF' NF'; rw [List.push_toArray] at NF')
            | ((fail_if_success (with_reducible show FtPost _ _ _ _ _ _ _ _ _)); walk1))
          all_goals (refine FtOk.introV hJv FF' NF' (rdNews D cur nD (nC + 1) (vsC ++ [_]) rs ((d, o2) :: (lW, W.listOf ws.toArray 0) :: news)) List.mem_cons_self (fun p hp => List.mem_cons_of_mem _ hp) (fun p hp => .inl ?_) ⟨by omega, D, cur, nD, nC + 1, vsC ++ [_], rs, dn, curI ++ [_], _, _, _, _, by with_unfolding_all rfl, by with_unfolding_all rfl, by with_unfolding_all rfl, by with_unfolding_all rfl, rd_next (k := 14) (x := _) hlt hc rfl hrun (by decide) (by first | exact if_pos (by assumption) | exact if_neg (by assumption)) ?_ (by rfl), intsAre_snoc hvs, hrs, by rw [List.length_append, List.length_singleton]; omega, by rw [List.length_append, List.length_singleton]; omega, by first | assumption | (rw [half_eq]; omega), by first | assumption | (rw [half_eq]; omega), rfl, hoff, hne, hdD, hdc, hdr⟩)
          all_goals first
            | (rcases List.mem_cons.mp hp with rfl | hp
               · exact offI _ List.mem_cons_self
               rcases List.mem_cons.mp hp with rfl | hp
               · exact offI (cur, W.listOf vsC.toArray nC) (List.mem_cons_of_mem _ List.mem_cons_self)
               · exact offI p (List.mem_cons_of_mem _ (List.mem_cons_of_mem _ hp)))
            | (rw [half_eq]; exact if_pos (by first | exact .inl (by assumption) | exact .inr (by assumption)))
            | exact if_neg (fun q => q.elim (by assumption) (fun q => q (by first | rfl | assumption)))

        · obtain ⟨tv, rfl⟩ := intsAre_at (n := 15) hI6 hv' (by rw [List.getElem?_append_left (by rw [List.length_map]; exact hlt), List.getElem?_map, List.getElem?_eq_getElem hlt, hc]; rfl)
          unfold rdNews at N7
          repeat' (first
            | ((with_reducible show wpAny _ _ (call (Value.ref 80) [Value.int _ _]) _ _ _); k_dflt (refine use_of (eof_ok w s₀ mg mb _ _ _) (by assumption) (by assumption) (by assumption) (by assumption) (by assumption) rfl (by k_room) (by k_room) ?_); intro _ _ _ _ _; (try dsimp only); (try rw [show decide ((14 : Int) = 0) = false from rfl]); (try rw [show decide ((15 : Int) = 0) = false from rfl]); (try rw [show decide ((12 : Int) = 0) = false from rfl]); (try rw [show decide ((0 : Int) = 0) = true from rfl]))
            | ((with_reducible show wpAny _ _ (call (Value.ref 35) [Value.int _ _, Value.int _ _]) _ _ _); k_dflt (refine use_of (add_ok w s₀ mg mb _ _ _ _ _) (by assumption) (by assumption) (by assumption) (by assumption) (by assumption) rfl (by k_room) (by k_room) ?_); intro _ _ _ _ _; (try dsimp only))
            | ((with_reducible show wpAny _ _ (call (Value.ref 56) [Value.int _ _, Value.int _ _]) _ _ _); k_dflt (refine use_of (sub_ok w s₀ mg mb _ _ _ _ _) (by assumption) (by assumption) (by assumption) (by assumption) (by assumption) rfl (by k_room) (by k_room) ?_); intro _ _ _ _ _; (try dsimp only))
            | ((with_reducible show wpAny _ _ (call (Value.ref 49) [Value.int _ _, Value.int _ _]) _ _ _); k_dflt (refine use_of (shr_ok w s₀ mg mb _ _ _ _) (by assumption) (by assumption) (by assumption) (by assumption) (by assumption) rfl (by k_room) (by k_room) ?_); intro _ _ _ _ _; (try dsimp only))
            | ((with_reducible show wpAny _ _ (subscriptTail _ _ (Value.ref D) (Value.int _ _)) _ _ _); refine last_ref (by assumption) (by k_mem) (by rw [List.length_map, hrs.len]; omega) ?_)
            | ((with_reducible show wpAny _ _ (subscriptTail _ _ (Value.ref cur) (Value.int _ _)) _ _ _); refine last_int (by assumption) (by k_mem) hvs hpos ?_; intro tl)
            | ((with_reducible show wpAny _ _ (subscriptTail _ _ (Value.ref d) (Value.int _ _)) _ _ _); refine kda_item (knd := PySem.intKind _ _) (by assumption) (List.mem_cons_of_mem _ (List.mem_cons_of_mem _ (List.mem_cons_of_mem _ (List.mem_append_right _ List.mem_cons_self)))) hd2 (intKind_is _ _ _ _) (by rfl) ?_)
            | ((with_reducible show wpAny _ _ (call (Value.builtin "list.append") [Value.ref cur, _]) _ _ _); refine append_K (by assumption) (by assumption) (Upd.tail (Ne.symm (offI _ (List.mem_cons_of_mem _ List.mem_cons_self))) (Upd.tail (Ne.symm hne) (Upd.head fun p hp => (hoff p hp).2))) ?_ (by rw [List.size_toArray, hvs.length, sizeLine_eq]; omega); intro hF FF' NF'; rw [List.push_toArray] at NF')
            | ((fail_if_success (with_reducible show FtPost _ _ _ _ _ _ _ _ _)); walk1))
          all_goals (refine FtOk.introV hJv FF' NF' (rdNews D cur nD (nC + 1) (vsC ++ [_]) rs ((d, o2) :: (lW, W.listOf ws.toArray 0) :: news)) List.mem_cons_self (fun p hp => List.mem_cons_of_mem _ hp) (fun p hp => .inl ?_) ⟨by omega, D, cur, nD, nC + 1, vsC ++ [_], rs, dn, curI ++ [_], _, _, _, _, by with_unfolding_all rfl, by with_unfolding_all rfl, by with_unfolding_all rfl, by with_unfolding_all rfl, rd_next (k := 15) (x := _) hlt hc rfl hrun (by decide) (by first | exact if_pos (by assumption) | exact if_neg (by assumption)) ?_ (by rfl), intsAre_snoc hvs, hrs, by rw [List.length_append, List.length_singleton]; omega, by rw [List.length_append, List.length_singleton]; omega, by first | assumption | (rw [half_eq]; omega), by first | assumption | (rw [half_eq]; omega), rfl, hoff, hne, hdD, hdc, hdr⟩)
          all_goals first
            | (rcases List.mem_cons.mp hp with rfl | hp
               · exact offI _ List.mem_cons_self
               rcases List.mem_cons.mp hp with rfl | hp
               · exact offI (cur, W.listOf vsC.toArray nC) (List.mem_cons_of_mem _ List.mem_cons_self)
               · exact offI p (List.mem_cons_of_mem _ (List.mem_cons_of_mem _ hp)))
            | (rw [half_eq]; exact if_pos (by first | exact .inl (by assumption) | exact .inr (by assumption)))
            | exact if_neg (fun q => q.elim (by assumption) (fun q => q (by first | rfl | assumption)))

        · obtain ⟨tv, rfl⟩ := intsAre_at (n := 12) hI6 hv' (by rw [List.getElem?_append_left (by rw [List.length_map]; exact hlt), List.getElem?_map, List.getElem?_eq_getElem hlt, hc]; rfl)
          unfold rdNews at N7
          repeat' (first
            | ((with_reducible show wpAny _ _ (call (Value.ref 80) [Value.int _ _]) _ _ _); k_dflt (refine use_of (eof_ok w s₀ mg mb _ _ _) (by assumption) (by assumption) (by assumption) (by assumption) (by assumption) rfl (by k_room) (by k_room) ?_); intro _ _ _ _ _; (try dsimp only); (try rw [show decide ((14 : Int) = 0) = false from rfl]); (try rw [show decide ((15 : Int) = 0) = false from rfl]); (try rw [show decide ((12 : Int) = 0) = false from rfl]); (try rw [show decide ((0 : Int) = 0) = true from rfl]))
            | ((with_reducible show wpAny _ _ (call (Value.ref 35) [Value.int _ _, Value.int _ _]) _ _ _); k_dflt (refine use_of (add_ok w s₀ mg mb _ _ _ _ _) (by assumption) (by assumption) (by assumption) (by assumption) (by assumption) rfl (by k_room) (by k_room) ?_); intro _ _ _ _ _; (try dsimp only))
            | ((with_reducible show wpAny _ _ (call (Value.ref 56) [Value.int _ _, Value.int _ _]) _ _ _); k_dflt (refine use_of (sub_ok w s₀ mg mb _ _ _ _ _) (by assumption) (by assumption) (by assumption) (by assumption) (by assumption) rfl (by k_room) (by k_room) ?_); intro _ _ _ _ _; (try dsimp only))
            | ((with_reducible show wpAny _ _ (call (Value.ref 49) [Value.int _ _, Value.int _ _]) _ _ _); k_dflt (refine use_of (shr_ok w s₀ mg mb _ _ _ _) (by assumption) (by assumption) (by assumption) (by assumption) (by assumption) rfl (by k_room) (by k_room) ?_); intro _ _ _ _ _; (try dsimp only))
            | ((with_reducible show wpAny _ _ (call (Value.builtin "list.append") [Value.ref D, _]) _ _ _); (rename AllLt _ _ => l9) )
            | ((fail_if_success (with_reducible show wpAny _ _ (call (Value.builtin "list.append") _) _ _ _)); (fail_if_success (with_reducible show FtPost _ _ _ _ _ _ _ _ _)); walk1))
          rename_i lN hN FN NN lN1
          obtain ⟨tq, NN⟩ : ∃ tq, News _ _ hN ((lN, W.listOf #[Value.int 0 tq] 0) :: _) := ⟨_, NN⟩
          refine append_K FN NN (Upd.tail (Nat.ne_of_gt lN1.2.1) (Upd.tail (Ne.symm (offI _ List.mem_cons_self)) (Upd.head fun p hp => ?_))) ?_ (by rw [List.size_toArray, List.length_append, List.length_map, hrs.len, sizeLine_eq, List.length_singleton]; omega)
          · rcases List.mem_cons.mp hp with rfl | hp
            · exact hne
            · exact (hoff p hp).1
          intro hF FF' NF'
          rw [List.push_toArray] at NF'
          clear FN NN
          repeat' (first | ((fail_if_success (with_reducible show FtPost _ _ _ _ _ _ _ _ _)); walk1))
          rename Fr _ _ _ _ => FE
          rename News _ _ _ _ => NE
          refine FtOk.introV hJv FE NE (rdNews D lN (nD + 1) 0 [.int 0 tq] (rs ++ [(cur, vsC, nC)]) ((d, o2) :: (lW, W.listOf ws.toArray 0) :: news)) (List.mem_cons_of_mem _ List.mem_cons_self) rd_sub_comma (fun p hp => .inl ?_) ⟨by omega, D, lN, nD + 1, 0, [.int 0 tq], rs ++ [(cur, vsC, nC)], dn ++ [curI], [0], 0, 4, _, _, by with_unfolding_all rfl, by with_unfolding_all rfl, by with_unfolding_all rfl, by with_unfolding_all rfl, rd_comma hlt hc hrun, .cons 0 _ .nil, RowsAre.snoc hvs hrs, by rw [List.length_append, List.length_singleton]; simp only [List.length_cons, List.length_nil]; omega, by decide, by decide, by decide, rfl, rd_off_comma hoff hne lN1.2.2.1 lN1.2.2.2, Nat.ne_of_gt lN1.2.1, hdD, allLt_mem lN1.2.2.2 (d, o2) (List.mem_append_right _ List.mem_cons_self), ?_⟩
          · rcases rd_mem_comma p hp with e | e | e
            · rw [e]; exact offI _ List.mem_cons_self
            · rw [e]; exact Nat.ne_of_gt lN1.1
            · exact offI p (List.mem_cons_of_mem _ e)
          · intro r hr
            rcases List.mem_append.mp hr with hr | hr
            · exact hdr r hr
            · rw [List.mem_singleton.mp hr]; exact hdc
    · rintro m1 nx h5 tk5 ⟨hi, _⟩ _ _
      exfalso
      have := IntsAre.length hI6
      simp at hi this
      omega
end Mine
end
section
open PySem PySem.W PyProof.Rows
namespace Mine
/-- far from the seven cells and from the dict -/
noncomputable def PlR (c dW : Addr) (R : List (Addr × Obj)) : Prop := ∀ p ∈ R, (@LE.le Nat _ p.1 c ∨ @LT.lt Nat _ (c + 7) p.1) ∧ p.1 ≠ dW
theorem PlR.cell {c dW a : Addr} {R : List (Addr × Obj)} (h : PlR c dW R) (ha : @LT.lt Nat _ c a ∧ @LE.le Nat _ a (c + 7)) : ∀ p ∈ R, p.1 ≠ a := fun p hp e => by
  have := (h p hp).1
  rw [e] at this
  have h1 : (c : Nat) < a := ha.1
  have h2 : (a : Nat) ≤ c + 7 := ha.2
  rcases this with q | q
  · exact Nat.lt_irrefl _ (Nat.lt_of_lt_of_le h1 q)
  · exact Nat.lt_irrefl _ (Nat.lt_of_lt_of_le q h2)
theorem PlR.dict {c dW : Addr} {R : List (Addr × Obj)} (h : PlR c dW R) : ∀ p ∈ R, p.1 ≠ dW := fun p hp => (h p hp).2
noncomputable def plN (c dW : Addr) (o1 o2 o3 o4 o5 o6 o7 oW : Obj) (R : List (Addr × Obj)) : List (Addr × Obj) :=
  (dW, oW) :: (c + 1 + 1 + 1 + 1 + 1 + 1 + 1, o1) :: (c + 1 + 1 + 1 + 1 + 1 + 1, o2) :: (c + 1 + 1 + 1 + 1 + 1, o3) :: (c + 1 + 1 + 1 + 1, o4) :: (c + 1 + 1 + 1, o5) :: (c + 1 + 1, o6) :: (c + 1, o7) :: R
noncomputable abbrev pkey (i j k : Nat) : Int := ((i : Int) * 8 + j) * 8 + k
end Mine
namespace Mine
theorem le_step {I x : Nat} (h : I ≤ x + 1) (a : x + 1 ≠ I) : I ≤ x := Nat.le_of_lt_succ (Nat.lt_of_le_of_ne h (Ne.symm a))
theorem far_nat (c I : Nat) (a1 : c + 1 + 1 + 1 + 1 + 1 + 1 + 1 ≠ I) (a2 : c + 1 + 1 + 1 + 1 + 1 + 1 ≠ I) (a3 : c + 1 + 1 + 1 + 1 + 1 ≠ I) (a4 : c + 1 + 1 + 1 + 1 ≠ I) (a5 : c + 1 + 1 + 1 ≠ I) (a6 : c + 1 + 1 ≠ I) (a7 : c + 1 ≠ I) : I ≤ c ∨ c + 7 < I :=
  (Nat.lt_or_ge (c + 7) I).symm.imp_left fun h => le_step (le_step (le_step (le_step (le_step (le_step (le_step h a1) a2) a3) a4) a5) a6) a7
theorem PlR.iter {c dW I : Addr} {o1 o2 o3 o4 o5 o6 o7 oW oI : Obj} {R : List (Addr × Obj)} (h : PlR c dW R) (off : ∀ p ∈ plN c dW o1 o2 o3 o4 o5 o6 o7 oW R, p.1 ≠ I) : PlR c dW ((I, oI) :: R) := by
  intro p hp
  rcases List.mem_cons.mp hp with rfl | hp
  · have a0 : dW ≠ I := off (dW, oW) (List.mem_cons_self)
    have a1 : (c + 1 + 1 + 1 + 1 + 1 + 1 + 1 : Nat) ≠ I := off (c + 1 + 1 + 1 + 1 + 1 + 1 + 1, o1) (List.mem_cons_of_mem _ (List.mem_cons_self))
    have a2 : (c + 1 + 1 + 1 + 1 + 1 + 1 : Nat) ≠ I := off (c + 1 + 1 + 1 + 1 + 1 + 1, o2) (List.mem_cons_of_mem _ (List.mem_cons_of_mem _ (List.mem_cons_self)))
    have a3 : (c + 1 + 1 + 1 + 1 + 1 : Nat) ≠ I := off (c + 1 + 1 + 1 + 1 + 1, o3) (List.mem_cons_of_mem _ (List.mem_cons_of_mem _ (List.mem_cons_of_mem _ (List.mem_cons_self))))
    have a4 : (c + 1 + 1 + 1 + 1 : Nat) ≠ I := off (c + 1 + 1 + 1 + 1, o4) (List.mem_cons_of_mem _ (List.mem_cons_of_mem _ (List.mem_cons_of_mem _ (List.mem_cons_of_mem _ (List.mem_cons_self)))))
    have a5 : (c + 1 + 1 + 1 : Nat) ≠ I := off (c + 1 + 1 + 1, o5) (List.mem_cons_of_mem _ (List.mem_cons_of_mem _ (List.mem_cons_of_mem _ (List.mem_cons_of_mem _ (List.mem_cons_of_mem _ (List.mem_cons_self))))))
    have a6 : (c + 1 + 1 : Nat) ≠ I := off (c + 1 + 1, o6) (List.mem_cons_of_mem _ (List.mem_cons_of_mem _ (List.mem_cons_of_mem _ (List.mem_cons_of_mem _ (List.mem_cons_of_mem _ (List.mem_cons_of_mem _ (List.mem_cons_self)))))))
    have a7 : (c + 1 : Nat) ≠ I := off (c + 1, o7) (List.mem_cons_of_mem _ (List.mem_cons_of_mem _ (List.mem_cons_of_mem _ (List.mem_cons_of_mem _ (List.mem_cons_of_mem _ (List.mem_cons_of_mem _ (List.mem_cons_of_mem _ (List.mem_cons_self))))))))
    exact ⟨far_nat c I a1 a2 a3 a4 a5 a6 a7, Ne.symm a0⟩
  · exact h p hp
theorem pl_perm {c dW I : Addr} {o1 o2 o3 o4 o5 o6 o7 oW oI : Obj} {R : List (Addr × Obj)} {h₀ h : Heap} {L : Addr} (N : News h₀ L h ((I, oI) :: plN c dW o1 o2 o3 o4 o5 o6 o7 oW R)) : News h₀ L h (plN c dW o1 o2 o3 o4 o5 o6 o7 oW ((I, oI) :: R)) := by
  intro p hp
  refine N p ?_
  rcases List.mem_append.mp (show p ∈ plN c dW o1 o2 o3 o4 o5 o6 o7 oW [] ++ ((I, oI) :: R) from hp) with e | e
  · exact List.mem_cons_of_mem _ (List.mem_append_left (bs := R) e)
  rcases List.mem_cons.mp e with e | e
  · rw [e]; exact List.mem_cons_self
  · exact List.mem_cons_of_mem _ (List.mem_append_right (plN c dW o1 o2 o3 o4 o5 o6 o7 oW []) e)
inductive PlJ (prog : Program) (w : World) (c dW : Addr) (o4 o5 o6 o7 : Obj) (up dn : Int → Bool) (R₀ : List (Addr × Obj)) (A : Obj → Obj → Obj → Prop) (P : Nat → Nat → Nat → Prop) (cnt : Nat) (nx : List (Addr × Obj)) : Prop
  | mk (o1 o2 o3 oW : Obj) (kvs : List (Int × Value)) (R : List (Addr × Obj)) (h1 : nx = plN c dW o1 o2 o3 o4 o5 o6 o7 oW R) (h2 : PlR c dW R) (h3 : ∀ p ∈ R₀, p ∈ R) (h4 : A o1 o2 o3) (h5 : oW.IsDictOf (intKind prog w) kvs) (h6 : kvs.length ≤ cnt)
    (h7 : ∀ a b e, P a b e → ∃ l n, valueAt kvs (pkey a b e) = some (.ref l) ∧ (l, W.listOf #[.bool (up (pkey a b e)), .bool (dn (pkey a b e))] n) ∈ R) : PlJ prog w c dW o4 o5 o6 o7 up dn R₀ A P cnt nx
theorem PlJ.mono {prog : Program} {w : World} {c dW : Addr} {o4 o5 o6 o7 : Obj} {up dn : Int → Bool} {R₀ R₁ : List (Addr × Obj)} {A A' : Obj → Obj → Obj → Prop} {P P' : Nat → Nat → Nat → Prop} {cnt cnt' : Nat} {nx : List (Addr × Obj)}
    (h : PlJ prog w c dW o4 o5 o6 o7 up dn R₀ A P cnt nx) (hR : ∀ p ∈ R₁, p ∈ R₀) (hA : ∀ a b c, A a b c → A' a b c) (hP : ∀ a b e, P' a b e → P a b e) (hc : cnt ≤ cnt') : PlJ prog w c dW o4 o5 o6 o7 up dn R₁ A' P' cnt' nx := by
  obtain ⟨o1, o2, o3, oW, kvs, R, e, hr, h0, ha, hd, hl, hp⟩ := h
  exact ⟨o1, o2, o3, oW, kvs, R, e, hr, fun p q => h0 p (hR p q), hA _ _ _ ha, hd, Nat.le_trans hl hc, fun a b e q => hp a b e (hP a b e q)⟩
theorem PlJ.out {prog : Program} {w : World} {c dW : Addr} {o4 o5 o6 o7 : Obj} {up dn : Int → Bool} {R₀ : List (Addr × Obj)} {A : Obj → Obj → Obj → Prop} {P : Nat → Nat → Nat → Prop} {cnt : Nat} {nx : List (Addr × Obj)} {I : Addr} {oI : Obj} {h₀ h : Heap} {L : Addr}
    (N : News h₀ L h nx) (hJ : PlJ prog w c dW o4 o5 o6 o7 up dn ((I, oI) :: R₀) A P cnt nx) (hcls : oI.cls = .type "range_iterator") (hR₀ : ∀ p ∈ R₀, p.1 ≠ I) :
    ∃ nx', (∀ p ∈ nx', p ∈ nx) ∧ (∀ p ∈ nx', p.1 ≠ I) ∧ (I, oI) ∈ nx ∧ PlJ prog w c dW o4 o5 o6 o7 up dn R₀ A P cnt nx' := by
  obtain ⟨o1, o2, o3, oW, kvs, R, rfl, hr, h0, ha, hd, hl, hp⟩ := hJ
  have hI : (I, oI) ∈ R := h0 _ List.mem_cons_self
  have hfar := hr _ hI
  have hsub : ∀ p ∈ plN c dW o1 o2 o3 o4 o5 o6 o7 oW (R.filter fun p => p.1 != I), p ∈ plN c dW o1 o2 o3 o4 o5 o6 o7 oW R := by
    intro p hp
    rcases List.mem_append.mp (show p ∈ plN c dW o1 o2 o3 o4 o5 o6 o7 oW [] ++ (R.filter fun p => p.1 != I) from hp) with e | e
    · exact List.mem_append_left (bs := R) e
    · exact List.mem_append_right (plN c dW o1 o2 o3 o4 o5 o6 o7 oW []) (List.mem_filter.mp e).1
  refine ⟨plN c dW o1 o2 o3 o4 o5 o6 o7 oW (R.filter fun p => p.1 != I), hsub, ?_, ?_, o1, o2, o3, oW, kvs, _, rfl, fun p q => hr p (List.mem_filter.mp q).1, fun p q => ?_, ha, hd, hl, fun a b e q => ?_⟩
  · intro p hp
    have a0 : (I : Nat) ≠ dW := hfar.2
    have a1 : @LE.le Nat _ I c ∨ @LT.lt Nat _ (c + 7) I := hfar.1
    have key : ∀ k : Nat, (c : Nat) < k → k ≤ c + 7 → k ≠ I := fun k h1 h2 e => by
      rcases a1 with q | q
      · rw [← e] at q; exact Nat.lt_irrefl _ (Nat.lt_of_lt_of_le h1 q)
      · rw [← e] at q; exact Nat.lt_irrefl _ (Nat.lt_of_lt_of_le q h2)
    simp only [plN, List.mem_cons, List.mem_filter] at hp
    rcases hp with e | e | e | e | e | e | e | e | e
    · rw [e]; exact Ne.symm a0
    · rw [e]; exact key (c + 1 + 1 + 1 + 1 + 1 + 1 + 1) (Nat.lt_add_of_pos_right (n := c) (k := 7) (by decide)) (Nat.add_le_add_left (show 7 ≤ 7 by decide) c)
    · rw [e]; exact key (c + 1 + 1 + 1 + 1 + 1 + 1) (Nat.lt_add_of_pos_right (n := c) (k := 6) (by decide)) (Nat.add_le_add_left (show 6 ≤ 7 by decide) c)
    · rw [e]; exact key (c + 1 + 1 + 1 + 1 + 1) (Nat.lt_add_of_pos_right (n := c) (k := 5) (by decide)) (Nat.add_le_add_left (show 5 ≤ 7 by decide) c)
    · rw [e]; exact key (c + 1 + 1 + 1 + 1) (Nat.lt_add_of_pos_right (n := c) (k := 4) (by decide)) (Nat.add_le_add_left (show 4 ≤ 7 by decide) c)
    · rw [e]; exact key (c + 1 + 1 + 1) (Nat.lt_add_of_pos_right (n := c) (k := 3) (by decide)) (Nat.add_le_add_left (show 3 ≤ 7 by decide) c)
    · rw [e]; exact key (c + 1 + 1) (Nat.lt_add_of_pos_right (n := c) (k := 2) (by decide)) (Nat.add_le_add_left (show 2 ≤ 7 by decide) c)
    · rw [e]; exact key (c + 1) (Nat.lt_succ_self _) (Nat.add_le_add_left (show 1 ≤ 7 by decide) c)
    · simpa using e.2
  · exact List.mem_append_right (plN c dW o1 o2 o3 o4 o5 o6 o7 oW []) hI
  · refine List.mem_filter.mpr ⟨h0 p (List.mem_cons_of_mem _ q), ?_⟩
    simpa using hR₀ p q
  · obtain ⟨l, n, hv, hm⟩ := hp a b e q
    refine ⟨l, n, hv, List.mem_filter.mpr ⟨hm, ?_⟩⟩
    have hne : l ≠ I := fun el => by
      have h1 := (N _ (List.mem_append_right (plN c dW o1 o2 o3 o4 o5 o6 o7 oW []) hm : (l, W.listOf #[.bool (up (pkey a b e)), .bool (dn (pkey a b e))] n) ∈ plN c dW o1 o2 o3 o4 o5 o6 o7 oW R)).1
      have h2 := (N _ (List.mem_append_right (plN c dW o1 o2 o3 o4 o5 o6 o7 oW []) hI : (I, oI) ∈ plN c dW o1 o2 o3 o4 o5 o6 o7 oW R)).1
      rw [el] at h1
      have := congrArg Obj.cls (Option.some.inj (h1.symm.trans h2))
      rw [hcls] at this
      exact absurd (Value.type.inj this) (by decide)
    simpa using hne
end Mine
namespace Mine
theorem range_small (n : Nat) (hz : n ≤ 1000) : Builtin.Range.small 0 (n : Int) 1 = true := small_one (by omega) (by omega) (by omega) (by omega)
theorem range_size (n : Nat) : Builtin.Range.rangeSize 0 (n : Int) 1 = ((n : Nat) : Int) := by
  rw [rangeSize_nat]; omega
end Mine
namespace Mine
inductive AC0 (o1 o2 o3 : Obj) : Prop
  | mk (v1 v2 v3 : Option Value) (c1 : o1.data = .cell v1) (c2 : o2.data = .cell v2) (c3 : o3.data = .cell v3) : AC0 o1 o2 o3
inductive AC1 (i : Nat) (o1 o2 o3 : Obj) : Prop
  | mk (v1 v2 : Option Value) (v3 : Tok) (c1 : o1.data = .cell v1) (c2 : o2.data = .cell v2) (c3 : o3.data = .cell (some (.int (i : Int) v3))) : AC1 i o1 o2 o3
inductive AC2 (i j : Nat) (o1 o2 o3 : Obj) : Prop
  | mk (v1 : Option Value) (v2 v3 : Tok) (c1 : o1.data = .cell v1) (c2 : o2.data = .cell (some (.int (j : Int) v2))) (c3 : o3.data = .cell (some (.int (i : Int) v3))) : AC2 i j o1 o2 o3
theorem AC1.wide {i : Nat} {o1 o2 o3 : Obj} : AC1 i o1 o2 o3 → AC0 o1 o2 o3 := fun ⟨_, _, _, a, b, c⟩ => ⟨_, _, _, a, b, c⟩
theorem AC2.wide {i j : Nat} {o1 o2 o3 : Obj} : AC2 i j o1 o2 o3 → AC1 i o1 o2 o3 := fun ⟨_, _, _, a, b, c⟩ => ⟨_, _, _, a, b, c⟩
noncomputable def P0 (n2 n3 i : Nat) (a b e : Nat) : Prop := a < i ∧ b ≤ n2 ∧ e ≤ n3
noncomputable def P1 (n2 n3 i j : Nat) (a b e : Nat) : Prop := P0 n2 n3 i a b e ∨ (a = i ∧ b < j ∧ e ≤ n3)
noncomputable def P2 (n2 n3 i j k : Nat) (a b e : Nat) : Prop := P1 n2 n3 i j a b e ∨ (a = i ∧ b = j ∧ e < k)
theorem P0.next {n2 n3 i : Nat} : ∀ a b e, P0 n2 n3 (i + 1) a b e → P1 n2 n3 i (n2 + 1) a b e := fun a b e h => by
  rcases Nat.lt_or_ge a i with q | q
  · exact .inl ⟨q, h.2⟩
  · exact .inr ⟨Nat.le_antisymm (Nat.le_of_lt_succ h.1) q, Nat.lt_succ_of_le h.2.1, h.2.2⟩
theorem P1.next {n2 n3 i j : Nat} : ∀ a b e, P1 n2 n3 i (j + 1) a b e → P2 n2 n3 i j (n3 + 1) a b e := fun a b e h => by
  rcases h with h | ⟨h1, h2, h3⟩
  · exact .inl (.inl h)
  rcases Nat.lt_or_ge b j with q | q
  · exact .inl (.inr ⟨h1, q, h3⟩)
  · exact .inr ⟨h1, Nat.le_antisymm (Nat.le_of_lt_succ h2) q, Nat.lt_succ_of_le h3⟩
theorem P1.start {n2 n3 i : Nat} : ∀ a b e, P1 n2 n3 i 0 a b e → P0 n2 n3 i a b e := fun a b e h => h.elim id fun q => absurd q.2.1 (Nat.not_lt_zero _)
theorem P2.start {n2 n3 i j : Nat} : ∀ a b e, P2 n2 n3 i j 0 a b e → P1 n2 n3 i j a b e := fun a b e h => h.elim id fun q => absurd q.2.2 (Nat.not_lt_zero _)
theorem pl_news {c dW : Addr} {o1 o2 o3 o4 o5 o6 o7 oW : Obj} {R : List (Addr × Obj)} {p : Addr × Obj} (h : p ∈ R) : p ∈ plN c dW o1 o2 o3 o4 o5 o6 o7 oW R := List.mem_append_right (plN c dW o1 o2 o3 o4 o5 o6 o7 oW []) h
end Mine
namespace Mine
noncomputable abbrev tup2 (x y : Value) : Obj := { cls := .type "tuple", data := .seq #[x, y] }
noncomputable def TupsIn (R : List (Addr × Obj)) : List Value → List (Nat × Int) → Prop
  | [], [] => True
  | v :: vs, c :: cs => (∃ (T : Addr) (t t' : Tok), v = .ref T ∧ (T, tup2 (.str (tx [c.1]) t) (.int c.2 t')) ∈ R) ∧ TupsIn R vs cs
  | _, _ => False
theorem TupsIn.mono {R R' : List (Addr × Obj)} (h : ∀ p ∈ R, p ∈ R') : ∀ {vs : List Value} {cs : List (Nat × Int)}, TupsIn R vs cs → TupsIn R' vs cs
  | [], [], _ => trivial
  | [], _ :: _, e => e.elim
  | _ :: _, [], e => e.elim
  | _ :: _, _ :: _, ⟨⟨T, t, t', e, hm⟩, r⟩ => ⟨⟨T, t, t', e, h _ hm⟩, r.mono h⟩
theorem TupsIn.append {R : List (Addr × Obj)} {vs' : List Value} {cs' : List (Nat × Int)} (h' : TupsIn R vs' cs') : ∀ {vs : List Value} {cs : List (Nat × Int)}, TupsIn R vs cs → TupsIn R (vs ++ vs') (cs ++ cs')
  | [], [], _ => h'
  | [], _ :: _, e => e.elim
  | _ :: _, [], e => e.elim
  | _ :: _, _ :: _, ⟨a, r⟩ => ⟨a, TupsIn.append h' r⟩
theorem TupsIn.one {R : List (Addr × Obj)} {T : Addr} {t t' : Tok} {c : Nat} {k : Int} (h : (T, tup2 (.str (tx [c]) t) (.int k t')) ∈ R) : TupsIn R [.ref T] [(c, k)] := ⟨⟨T, t, t', rfl, h⟩, trivial⟩
theorem TupsIn.len {R : List (Addr × Obj)} : ∀ {vs : List Value} {cs : List (Nat × Int)}, TupsIn R vs cs → vs.length = cs.length
  | [], [], _ => rfl
  | [], _ :: _, e => e.elim
  | _ :: _, [], e => e.elim
  | _ :: _, _ :: _, ⟨_, r⟩ => by simp [r.len]
theorem TupsIn.at {R : List (Addr × Obj)} {vs : List Value} : ∀ {cs : List (Nat × Int)} {i : Nat} {v : Value}, TupsIn R vs cs → vs[i]? = some v → ∃ c, cs[i]? = some c ∧ ∃ (T : Addr) (t t' : Tok), v = .ref T ∧ (T, tup2 (.str (tx [c.1]) t) (.int c.2 t')) ∈ R := by
  induction vs with
  | nil => intro _ _ _ _ h; cases h
  | cons x vs ih =>
    intro cs i v hc h
    cases cs with
    | nil => exact hc.elim
    | cons c cs =>
      cases i with
      | zero => exact ⟨c, rfl, Option.some.inj h ▸ hc.1⟩
      | succ i => exact ih (i := i) hc.2 h
theorem PlR.new {c dW a : Addr} {o : Obj} {R : List (Addr × Obj)} (h : PlR c dW R) (h1 : @LT.lt Nat _ (c + 1 + 1 + 1 + 1 + 1 + 1 + 1) a) (h2 : @LT.lt Nat _ dW a) : PlR c dW ((a, o) :: R) := by
  intro p hp
  rcases List.mem_cons.mp hp with rfl | hp
  · exact ⟨.inr h1, Nat.ne_of_gt h2⟩
  · exact h p hp
/-- the cuts of a stalk -/
noncomputable def cutsOf (l : List Nat) (key : Nat → Int) (n : Nat) : List (Nat × Int) := (List.range n).map fun p => (l.getD p 0, key p)
theorem cutsOf_succ (l : List Nat) (key : Nat → Int) (n : Nat) : cutsOf l key (n + 1) = cutsOf l key n ++ [(l.getD n 0, key n)] := by
  simp [cutsOf, List.range_succ]
end Mine
namespace Mine
theorem pl_split {c dW : Addr} {o1 o2 o3 o4 o5 o6 o7 oW : Obj} {R : List (Addr × Obj)} {p x : Addr × Obj} (hp : p ∈ plN c dW o1 o2 o3 o4 o5 o6 o7 oW (x :: R)) : p = x ∨ p ∈ plN c dW o1 o2 o3 o4 o5 o6 o7 oW R := by
  rcases List.mem_append.mp (show p ∈ plN c dW o1 o2 o3 o4 o5 o6 o7 oW [] ++ (x :: R) from hp) with e | e
  · exact .inr (List.mem_append_left (bs := R) e)
  · exact (List.mem_cons.mp e).imp id fun e => List.mem_append_right (plN c dW o1 o2 o3 o4 o5 o6 o7 oW []) e
theorem cut_end {h₀ h : Heap} {L : Addr} {m : Str → Option Value} {c dW T I C D : Addr} {o oI oC oD o1 o2 o3 o4 o5 o6 o7 oW : Obj} {R' : List (Addr × Obj)} {J : List (Addr × Obj) → Prop} {s₁ : Shared} {tk : Nat} (F : Fr h₀ L h m)
    (N : News h₀ L h ((T, o) :: (I, oI) :: (C, oC) :: (D, oD) :: plN c dW o1 o2 o3 o4 o5 o6 o7 oW R')) (off : LCg.Off3 I C D (plN c dW o1 o2 o3 o4 o5 o6 o7 oW R'))
    (l1 : AllLt T ((I, oI) :: (C, oC) :: (D, oD) :: plN c dW o1 o2 o3 o4 o5 o6 o7 oW R')) (j : J (plN c dW o1 o2 o3 o4 o5 o6 o7 oW ((T, o) :: R'))) : CompOk h₀ L m I oI C oC D oD J s₁ { s₁ with heap := h, toks := tk } := by
  have om := off.mem
  refine CompOk.intro F N (plN c dW o1 o2 o3 o4 o5 o6 o7 oW ((T, o) :: R')) (List.mem_cons_of_mem _ List.mem_cons_self) (List.mem_cons_of_mem _ (List.mem_cons_of_mem _ List.mem_cons_self)) (List.mem_cons_of_mem _ (List.mem_cons_of_mem _ (List.mem_cons_of_mem _ List.mem_cons_self))) (fun p hp => ?_) (LCg.Off3.of fun p hp => ?_) j
  · rcases pl_split hp with e | e
    · rw [e]; exact List.mem_cons_self
    · exact List.mem_cons_of_mem _ (List.mem_cons_of_mem _ (List.mem_cons_of_mem _ (List.mem_cons_of_mem _ e)))
  · rcases pl_split hp with rfl | hp'
    · exact ⟨Nat.ne_of_gt l1.1, Nat.ne_of_gt l1.2.1, Nat.ne_of_gt l1.2.2.1⟩
    · exact om p hp'
inductive CutJ (c dW : Addr) (o1 o2 o3 o4 o5 o6 o7 oW : Obj) (R : List (Addr × Obj)) (l : List Nat) (key : Nat → Int) (q : Nat) (ys : List Value) (nx : List (Addr × Obj)) : Prop
  | mk (R' : List (Addr × Obj)) (e : nx = plN c dW o1 o2 o3 o4 o5 o6 o7 oW R') (h1 : PlR c dW R') (h2 : ∀ p ∈ R, p ∈ R') (h3 : TupsIn R' ys (cutsOf l key q)) : CutJ c dW o1 o2 o3 o4 o5 o6 o7 oW R l key q ys nx
inductive CtJ (cs : List (Nat × Int)) (q : Nat) (x y : Value) : Prop
  | mk (c : Nat × Int) (t t' : Tok) (hc : cs[q]? = some c) (hx : x = .str (tx [c.1]) t) (hy : y = .int c.2 t') : CtJ cs q x y
inductive WonAt (kvs : List (Int × Value)) (up dn : Int → Bool) (R : List (Addr × Obj)) (c : Nat × Int) : Prop
  | mk (h : c.1 = 43 ∨ c.1 = 45) (l : Addr) (n : Nat) (hv : valueAt kvs c.2 = some (.ref l)) (hm : (l, W.listOf #[.bool (up c.2), .bool (dn c.2)] n) ∈ R) : WonAt kvs up dn R c
theorem CutJ.next {c dW T I C D : Addr} {o1 o2 o3 o4 o5 o6 o7 oW oI oC oD : Obj} {R R' : List (Addr × Obj)} {l : List Nat} {key : Nat → Int} {q : Nat} {ys : List Value} {t t' : Tok} (hP : PlR c dW R') (hs : ∀ p ∈ R, p ∈ R') (ht : TupsIn R' ys (cutsOf l key q))
    (l1 : AllLt T ((I, oI) :: (C, oC) :: (D, oD) :: plN c dW o1 o2 o3 o4 o5 o6 o7 oW R')) :
    CutJ c dW o1 o2 o3 o4 o5 o6 o7 oW R l key (q + 1) (ys ++ [.ref T]) (plN c dW o1 o2 o3 o4 o5 o6 o7 oW ((T, tup2 (.str (tx [l.getD q 0]) t) (.int (key q) t')) :: R')) := by
  refine ⟨_, rfl, hP.new l1.2.2.2.2.1 l1.2.2.2.1, fun p hp => List.mem_cons_of_mem _ (hs p hp), ?_⟩
  rw [cutsOf_succ]
  exact TupsIn.append (TupsIn.one List.mem_cons_self) (ht.mono fun p hp => List.mem_cons_of_mem _ hp)
end Mine
namespace Mine
theorem pl_perm2 {c dW a : Addr} {o1 o2 o3 o4 o5 o6 o7 oW o : Obj} {R : List (Addr × Obj)} {h₀ h : Heap} {L : Addr} (N : News h₀ L h ((a, o) :: plN c dW o1 o2 o3 o4 o5 o6 o7 oW R)) : News h₀ L h (plN c dW o1 o2 o3 o4 o5 o6 o7 oW ((a, o) :: R)) := pl_perm N
theorem PlR.lt {c dW a : Addr} {o1 o2 o3 o4 o5 o6 o7 oW o : Obj} {R : List (Addr × Obj)} (h : PlR c dW R) (l : ∀ p ∈ plN c dW o1 o2 o3 o4 o5 o6 o7 oW R, @LT.lt Nat _ p.1 a) : PlR c dW ((a, o) :: R) :=
  h.new (l (_, o1) (by simp [plN])) (l (dW, oW) (by simp [plN]))
end Mine
namespace Mine
noncomputable def upsL (s : Nat) (dn : Int → Bool) (cs : List (Nat × Int)) : List Int := (cs.filter fun c => c.1 == s && !dn c.2).map (·.2)
theorem upsL_snoc (s : Nat) (dn : Int → Bool) (cs : List (Nat × Int)) (c : Nat × Int) : upsL s dn (cs ++ [c]) = upsL s dn cs ++ (if c.1 == s && !dn c.2 then [c.2] else []) := by
  unfold upsL
  rw [List.filter_append, List.map_append]
  congr 1
  simp only [List.filter_cons, List.filter_nil]
  split <;> rfl
theorem upsL_take {s : Nat} {dn : Int → Bool} {cs : List (Nat × Int)} {q : Nat} {c : Nat × Int} (h : cs[q]? = some c) : upsL s dn (cs.take (q + 1)) = upsL s dn (cs.take q) ++ (if c.1 == s && !dn c.2 then [c.2] else []) := by
  rw [List.take_add_one, h]; exact upsL_snoc _ _ _ _
theorem mem_cutsOf {l : List Nat} {key : Nat → Int} {n : Nat} {c : Nat × Int} (h : c ∈ cutsOf l key n) : ∃ p, p < n ∧ c = (l.getD p 0, key p) := by
  obtain ⟨p, hp, rfl⟩ := List.mem_map.mp h
  exact ⟨p, List.mem_range.mp hp, rfl⟩
theorem cut_sign {l : List Nat} (hl : ∀ c ∈ l, c = 43 ∨ c = 45) {p : Nat} (hp : p < l.length) : l.getD p 0 = 43 ∨ l.getD p 0 = 45 := by
  rw [List.getD_eq_getElem?_getD, List.getElem?_eq_getElem hp]
  exact hl _ (List.getElem_mem hp)
theorem cut_won {one two three : List Nat} (h1 : ∀ c ∈ one, c = 43 ∨ c = 45) (h2 : ∀ c ∈ two, c = 43 ∨ c = 45) (h3 : ∀ c ∈ three, c = 43 ∨ c = 45) {i j k : Nat} (hi : i < one.length + 1) (hj : j < two.length + 1) (hk : k < three.length + 1)
    {X : Int → Prop} (hX : ∀ a b e, P2 two.length three.length i j k a b e → X (pkey a b e)) :
    ∀ c ∈ cutsOf one (fun p => pkey p j k) i ++ cutsOf two (fun p => pkey i p k) j ++ cutsOf three (fun p => pkey i j p) k, (c.1 = 43 ∨ c.1 = 45) ∧ X c.2 := by
  intro c hc
  rcases List.mem_append.mp hc with hc | hc
  · rcases List.mem_append.mp hc with hc | hc
    · obtain ⟨p, hp, rfl⟩ := mem_cutsOf hc
      exact ⟨cut_sign h1 (by omega), hX p j k (.inl (.inl ⟨hp, by omega, by omega⟩))⟩
    · obtain ⟨p, hp, rfl⟩ := mem_cutsOf hc
      exact ⟨cut_sign h2 (by omega), hX i p k (.inl (.inr ⟨rfl, hp, by omega⟩))⟩
  · obtain ⟨p, hp, rfl⟩ := mem_cutsOf hc
    exact ⟨cut_sign h3 (by omega), hX i j p (.inr ⟨rfl, rfl, hp⟩)⟩
end Mine
namespace Mine
section
variable {K : Type} [DecidableEq K]
theorem valueAt_cons (x : K × Value) (r : List (K × Value)) (k : K) : valueAt (x :: r) k = if x.1 = k then some x.2 else valueAt r k := by
  unfold valueAt
  rw [List.find?_cons]
  by_cases h : x.1 = k <;> simp [h]
theorem valueAt_upd (k k' : K) (v : Value) : ∀ kvs : List (K × Value), valueAt (kvs.map fun kv => if kv.1 = k then (kv.1, v) else kv) k' = if k' = k then (valueAt kvs k').map (fun _ => v) else valueAt kvs k'
  | [] => by simp [valueAt]
  | x :: r => by
    rw [List.map_cons, valueAt_cons, valueAt_cons, valueAt_upd k k' v r]
    by_cases hx : x.1 = k
    · by_cases hk : k' = k
      · subst hk; simp [hx]
      · have h1 : ¬ k = k' := fun e => hk e.symm
        simp [hx, hk, h1]
    · by_cases hk : k' = k
      · subst hk; simp [hx]
      · simp [hx, hk]
theorem valueAt_end (k k' : K) (v : Value) : ∀ kvs : List (K × Value), valueAt (kvs ++ [(k, v)]) k' = (valueAt kvs k').or (if k' = k then some v else none)
  | [] => by
    rw [List.nil_append, valueAt_cons]
    by_cases hk : k' = k
    · subst hk; simp [valueAt]
    · have h1 : ¬ k = k' := fun e => hk e.symm
      simp [valueAt, hk, h1]
  | x :: r => by
    rw [List.cons_append, valueAt_cons, valueAt_cons, valueAt_end k k' v r]
    by_cases hx : x.1 = k' <;> simp [hx]
theorem valueAt_some_of_any (k : K) : ∀ kvs : List (K × Value), kvs.any (fun kv => kv.1 = k) = true → ∃ v, valueAt kvs k = some v
  | [], h => by simp at h
  | x :: r, h => by
    rw [valueAt_cons]
    by_cases hx : x.1 = k
    · exact ⟨x.2, if_pos hx⟩
    · rw [if_neg hx]
      refine valueAt_some_of_any k r ?_
      simpa [hx] using h
theorem valueAt_none_of_any (k : K) : ∀ kvs : List (K × Value), ¬ kvs.any (fun kv => kv.1 = k) = true → valueAt kvs k = none
  | [], _ => rfl
  | x :: r, h => by
    rw [valueAt_cons]
    have hx : ¬ x.1 = k := fun e => h (by simp [e])
    rw [if_neg hx]
    exact valueAt_none_of_any k r fun e => h (by simp only [List.any_cons, e, Bool.or_true])
theorem valueAt_stored (kvs : List (K × Value)) (k k' : K) (v : Value) : valueAt (stored kvs k v) k' = if k' = k then some v else valueAt kvs k' := by
  unfold stored
  split
  · rename_i h
    rw [valueAt_upd]
    split
    · rename_i hk; subst hk
      obtain ⟨u, hu⟩ := valueAt_some_of_any _ _ h
      rw [hu]; rfl
    · rfl
  · rename_i h
    rw [valueAt_end]
    by_cases hk : k' = k
    · subst hk; rw [valueAt_none_of_any _ _ h]; simp
    · simp [hk]
end
noncomputable abbrev cutsAll (one two three : List Nat) (i j k : Nat) : List (Nat × Int) := cutsOf one (fun p => pkey p j k) i ++ cutsOf two (fun p => pkey i p k) j ++ cutsOf three (fun p => pkey i j p) k
end Mine
namespace Mine
theorem pl_off {c dW I : Addr} {o1 o2 o3 o4 o5 o6 o7 oW o1' oW' : Obj} {R : List (Addr × Obj)} {p x : Addr × Obj} (off : ∀ p ∈ plN c dW o1 o2 o3 o4 o5 o6 o7 oW R, p.1 ≠ I) (hp : p ∈ plN c dW o1' o2 o3 o4 o5 o6 o7 oW' (x :: R)) : p.1 ≠ I ∨ p = x := by
  obtain ⟨Y, hY⟩ : ∃ Y, Y = [(c + 1 + 1 + 1 + 1 + 1 + 1, o2), (c + 1 + 1 + 1 + 1 + 1, o3), (c + 1 + 1 + 1 + 1, o4), (c + 1 + 1 + 1, o5), (c + 1 + 1, o6), (c + 1, o7)] := ⟨_, rfl⟩
  have hp' : p ∈ (dW, oW') :: (c + 1 + 1 + 1 + 1 + 1 + 1 + 1, o1') :: (Y ++ (x :: R)) := by rw [hY]; exact hp
  have off' : ∀ p ∈ (dW, oW) :: (c + 1 + 1 + 1 + 1 + 1 + 1 + 1, o1) :: (Y ++ R), p.1 ≠ I := by rw [hY]; exact off
  rcases List.mem_cons.mp hp' with e | e
  · left; rw [e]; exact off' (dW, oW) List.mem_cons_self
  rcases List.mem_cons.mp e with e | e
  · left; rw [e]; exact off' (_, o1) (List.mem_cons_of_mem _ List.mem_cons_self)
  rcases List.mem_append.mp e with e | e
  · exact .inl (off' p (List.mem_cons_of_mem _ (List.mem_cons_of_mem _ (List.mem_append_left _ e))))
  rcases List.mem_cons.mp e with e | e
  · exact .inr e
  · exact .inl (off' p (List.mem_cons_of_mem _ (List.mem_cons_of_mem _ (List.mem_append_right _ e))))
theorem pl_sub {c dW : Addr} {o1 o2 o3 o4 o5 o6 o7 oW : Obj} {R R' : List (Addr × Obj)} {x y z : Addr × Obj} (h : ∀ p ∈ R, p ∈ R') : ∀ p ∈ plN c dW o1 o2 o3 o4 o5 o6 o7 oW (x :: R), p ∈ x :: y :: z :: plN c dW o1 o2 o3 o4 o5 o6 o7 oW R' := by
  intro p hp
  rcases List.mem_append.mp (show p ∈ plN c dW o1 o2 o3 o4 o5 o6 o7 oW [] ++ (x :: R) from hp) with e | e
  · exact List.mem_cons_of_mem _ (List.mem_cons_of_mem _ (List.mem_cons_of_mem _ (List.mem_append_left (bs := R') e)))
  rcases List.mem_cons.mp e with e | e
  · rw [e]; exact List.mem_cons_self
  · exact List.mem_cons_of_mem _ (List.mem_cons_of_mem _ (List.mem_cons_of_mem _ (List.mem_append_right (plN c dW o1 o2 o3 o4 o5 o6 o7 oW []) (h p e))))
theorem pl_won {n2 n3 i j k : Nat} {up dn : Int → Bool} {kvs : List (Int × Value)} {R : List (Addr × Obj)} {l : Addr} {n : Nat} (h2 : n2 ≤ 7) (h3 : n3 ≤ 7) (hj : j < n2 + 1) (hk : k < n3 + 1)
    (hp : ∀ a b e, P2 n2 n3 i j k a b e → ∃ l n, valueAt kvs (pkey a b e) = some (.ref l) ∧ (l, W.listOf #[.bool (up (pkey a b e)), .bool (dn (pkey a b e))] n) ∈ R) :
    ∀ a b e, P2 n2 n3 i j (k + 1) a b e → ∃ l' n', valueAt (stored kvs (pkey i j k) (.ref l)) (pkey a b e) = some (.ref l') ∧ (l', W.listOf #[.bool (up (pkey a b e)), .bool (dn (pkey a b e))] n') ∈ (l, W.listOf #[.bool (up (pkey i j k)), .bool (dn (pkey i j k))] n) :: R := by
  intro a b e h
  rw [valueAt_stored]
  by_cases hkey : pkey a b e = pkey i j k
  · rw [if_pos hkey, hkey]
    exact ⟨l, n, rfl, List.mem_cons_self⟩
  · rw [if_neg hkey]
    have h' : P2 n2 n3 i j k a b e := by
      unfold P2 at h ⊢
      rcases h with h | ⟨ha, hb, he⟩
      · exact .inl h
      · refine .inr ⟨ha, hb, ?_⟩
        rcases Nat.lt_or_ge e k with q | q
        · exact q
        · exfalso; apply hkey
          have : e = k := by omega
          rw [ha, hb, this]
    obtain ⟨l', n', hv, hm⟩ := hp a b e h'
    exact ⟨l', n', hv, List.mem_cons_of_mem _ hm⟩
end Mine
end
section
open PySem PySem.W PyProof.Rows PySem.Calls PySem.Spec PyProof.Rows.LCg
namespace Mine
theorem go_pair {prog : Program} {w : World} {A : Around} {E : Value → Shared → Prop} {s : Shared} {elts : List PySem.Expr} {x1} {pos : Pos} {I l : Addr} {i : Nat} {v : Value} {Q : Unit → Shared → Prop} (hit : s.heap.IsListIter I l i) (hQ : Q () s) :
    wpAny (model prog w) A (letOwnedTupleGo (.Tuple elts x1 pos) (.ref I) v) Q E s := by
  cases v with
  | ref T => exact wpAny_letOwnedTupleGo_listiter hit hQ
  | _ => exact wpAny_pure hQ
/-- an object of two items: a tuple or a list -/
noncomputable def TwoObj (o : Obj) (x y : Value) : Prop := (o.cls = .type "tuple" ∨ o.cls = .type "list") ∧ ∃ n, o.data = .seq #[x, y] n
section
variable {prog : Program} {w : World} {A : Around} {E : Value → Shared → Prop} {s : Shared} {env : Env} {h₀ : Heap} {L : Addr} {m : Str → Option Value}
theorem two_assign {a b : Str} {pa pb tp : Pos} {kk : Nat} {T : Addr} {o : Obj} {x y : Value} {mC : Str → Option Value} {Q : Unit → Shared → Prop} (hh : A.handled = none) (ho : s.heap.get? T = some o) (ht : TwoObj o x y)
    (ha : env.kindOf a = some .local) (hb : env.kindOf b = some .local) (hp : (env.scope.kind == .class || (env.scope.kind == .module && env.locals != env.globals)) = false) (hn : s.heap.Ns env.locals mC)
    (h : ∀ (h' : Heap) (tk : Nat), h'.Ns env.locals (fun z => if z = b then some y else if z = a then some x else mC z) → (∀ c o, c ≠ env.locals → s.heap.get? c = some o → h'.get? c = some o) → Q () { s with heap := h', toks := tk }) :
    wpAny (model prog w) A (assign (.Tuple [.Name a pa, .Name b pb] kk tp) env (.ref T)) Q E s := by
  obtain ⟨hc | hc, n, hd⟩ := ht
  · exact kcp_assign hh ⟨o, ho, hc, n, hd⟩ ha hb hp hn h
  · have hl : s.heap.IsList T #[x, y] := ⟨o, ho, hc, n, hd⟩
    rw [arm_assign_Tuple]
    refine wpAny_bind (wpAny_standAt ?_)
    show wpAny _ A (unpack (.ref T) (assignEach [.Name a pa, .Name b pb] env)) Q E s
    unfold unpack
    refine wpAny_bind (wpAny_holding ?_)
    show wpAny (model prog w) A (unpackItems (.ref T) (#[x, y] : Array Value).size none) _ _ _
    refine kun_itemsOf hh hl fun h₁ he₁ => ?_
    have hL : env.locals ≠ s.heap.objs.size := Nat.ne_of_lt hn.lt
    have hn₁ : h₁.Ns env.locals mC := hn.at' fun o e => he₁ _ o hL e
    have up₁ : ∀ c o, s.heap.get? c = some o → h₁.get? c = some o := fun c o e => he₁ c o (Nat.ne_of_lt (Heap.lt_size e)) e
    show wpAny _ _ (assignInOrder [assign (.Name a pa) env, assign (.Name b pb) env] [x, y]) _ _ _
    refine assignInOrder_cons ?_
    refine wpAny_assign_Name (wpAny_storeName_local ha hn₁ (fun h₂ hn₂ hs₂ => ?_) hp)
    refine assignInOrder_cons ?_
    refine wpAny_assign_Name (wpAny_storeName_local hb hn₂ (fun h₃ hn₃ hs₃ => ?_) hp)
    refine assignInOrder_nil ?_
    exact h h₃ _ hn₃ fun c o hc e => hs₃.extBut c o hc (hs₂.extBut c o hc (up₁ c o e))
/-- a list comprehension «.. for a, b in l ..» over a list of pairs (tuples or lists of two) -/
theorem CSrc.pairs {elt iter : PySem.Expr} {a b : Str} {pa pb tp : Pos} {kk : Nat} {ifs : List PySem.Expr} {scope : Scope} {cl : List (Str × Addr)} {pos : Pos} {Fin : Shared → List Value → List (Addr × Obj) → Prop} {l : Addr} {its : Array Value} {nx₀ : List (Addr × Obj)} {s₁ : Shared}
    (hh : A.handled = none) (F : Fr h₀ L s₁.heap m) (N : News h₀ L s₁.heap nx₀) (hsz : its.size ≤ sizeLine)
    (hcell : ∀ y ∈ scope.names, y.2 ≠ .cell) (hkind : scope.kind = .function) (hxa : scope.names.lookup a = some .local) (hxb : scope.names.lookup b = some .local) (hab : ¬ a = b)
    (J : Nat → List Value → List (Addr × Obj) → Prop) (hS : ∀ i ys nx, J i ys nx → SrcAt h₀ l its nx) (hJ : J 0 [] nx₀)
    (B : Nat → Value → Value → Prop)
    (htup : ∀ i v ys nx, its[i]? = some v → J i ys nx → ∃ T o x y, v = .ref T ∧ (T, o) ∈ nx ∧ TwoObj o x y ∧ B i x y)
    (turn : ∀ i x y ys nx, i < its.size → B i x y → J i ys nx → ys.length ≤ i → CTurn prog w A h₀ L m env elt ifs scope cl s₁ i ys nx (fun mC => mC a = some x ∧ mC b = some y) J)
    (fin : ∀ g ys nx, J its.size ys nx → Fin { s₁ with heap := g } ys nx) :
    CSrc prog w A h₀ L m env elt (.Tuple [.Name a pa, .Name b pb] kk tp) iter ifs scope cl pos Fin (.ref l) s₁ := by
  intro RR hRR
  have hl : s₁.heap.IsList l its := (hS _ _ _ hJ).list F.keep N
  have hlt : l < s₁.heap.objs.size := by obtain ⟨_, e, _⟩ := hl; exact Heap.lt_size e
  refine wpAny_pyIter_list hl ?_
  have up : ∀ b o, s₁.heap.get? b = some o → (s₁.heap.push { cls := .type "list_iterator", data := .fields #[.ref l, .int 0 0] }).get? b = some o := fun b o e => Heap.get?_push_of_some _ e
  refine comp_block (S := SrcAt h₀ l its) (Walks.list hh s₁.heap.objs.size l (Nat.ne_of_lt hlt) its) hsz (fun i h st => by obtain ⟨o, e, _⟩ := st.1; exact ⟨o, e⟩) list_st (fun i v s Q st q => go_pair st.1 q) hcell hkind ⟨⟨_, Heap.get?_push_size _ rfl, rfl, rfl⟩, hl.push _⟩ (fun b hb => ?_)
    (fun i v mC => ∃ x y, B i x y ∧ mC a = some x ∧ mC b = some y) J hS hJ (fun i v ys nx s C mC Q hi hP hJ' hk hN hC q => ?_)
    (F.keeps up) (N.grown up) (Nat.ne_of_lt F.ns.lt) (next_is_new F) (fun p hp => Nat.ne_of_lt (Heap.lt_size (N p hp).1)) ?_ ?_
  · show b < (s₁.heap.push _).objs.size
    rw [Heap.size_push]
    rcases List.mem_cons.mp hb with rfl | hb
    · exact Nat.lt_succ_self _
    · rw [List.mem_singleton.mp hb]; exact Nat.lt_succ_of_lt hlt
  · obtain ⟨T, o, x, y, rfl, hm, ht, hBi⟩ := htup i v ys nx hP hJ'
    refine two_assign (env := compEnvC scope cl C env) hh (hN _ hm).1 ht (lookup_relabel_local hxa) (lookup_relabel_local hxb) (by simp [compEnvC, relabel, hkind]) hC fun h' tk hn' hs' => ?_
    exact q h' tk _ hn' ⟨x, y, hBi, by simp [hab], by simp⟩ hs'
  · rintro i v ys nx h tk oI C oC D mC hi hP hJ' hyl ⟨x, y, hBi, hx, hy⟩ hoC F' N' off' ne'
    refine wpAny_mono (turn i x y ys nx hi hBi hJ' hyl h h tk _ oI C oC D mC ⟨hx, hy⟩ hoC F' N' off' ne') (fun ok s₃ h₃ => ?_) fun _ _ e => e
    cases ok with
    | false => exact h₃.anew
    | true => exact wpAny_mono h₃ (fun y s₄ h₄ => h₄.anew) fun _ _ e => e
  · intro D C h tk m' ys nx' F' N' o1 hn' hC₀ hD₀ hCL hDL hCD offC hJ' _
    exact hRR _ D C h tk m' ys nx' F' N' o1 hn' hC₀ hD₀ hCL hDL hCD offC (fin h ys nx' hJ')
theorem add_lst {a b : Addr} {ys zs : List Value} {n k : Nat} {nx : List (Addr × Obj)} {Q : Value → Shared → Prop} (F : Fr h₀ L s.heap m) (N : News h₀ L s.heap nx) (ha : (a, W.listOf ys.toArray n) ∈ nx) (hb : (b, W.listOf zs.toArray k) ∈ nx) (hz : ys.length + zs.length ≤ 1000)
    (h : ∀ D h', Fr h₀ L h' m → News h₀ L h' ((D, W.listOf (ys ++ zs).toArray 0) :: nx) → (∀ p ∈ nx, p.1 < D) → Q (.ref D) { s with heap := h' }) : wpAny (model prog w) A (binaryOp .Add (.ref a) (.ref b)) Q E s :=
  kmk_add_lit (its := ys.toArray) (its2 := zs.toArray) F N ⟨_, (N _ ha).1, rfl, _, rfl⟩ ⟨_, (N _ hb).1, rfl, _, rfl⟩ (by simp) h (by simp only [sizeLine_eq]; omega)
end
theorem Off1.mem {D : Addr} : ∀ {l : List (Addr × Obj)}, Off1 D l → ∀ p ∈ l, p.1 ≠ D
  | [], _, _, h => nomatch h
  | _ :: _, x, p, h => by
    rcases List.mem_cons.mp h with rfl | h
    · exact x.1
    · exact Off1.mem x.2 p h
end Mine
namespace Mine
section
variable {prog : Program} {w : World} {A : Around} {E : Value → Shared → Prop} {s : Shared}
theorem item_got {value slice : PySem.Expr} {l : Addr} {items : Array Value} {n : Nat} {k : Int} {u : Tok} {x : Value} {Q : Value → Shared → Prop} (ho : s.heap.get? l = some (W.listOf items n)) (h0 : 0 ≤ k) (hfit : k < 2 ^ 63) (hx : items[k.toNat]? = some x) (h : Q x s)
    (hs : subscripted slice false (.ref l) (.int k u) = operate [.ref l, .int k u] (getItem (.ref l) (.int k u)) := by with_unfolding_all rfl) :
    wpAny (model prog w) A (subscriptTail value slice (.ref l) (.int k u)) Q E s :=
  item_listR ⟨_, ho, rfl, _, rfl⟩ h0 hfit hx h hs
end
end Mine
end
section
open PySem PySem.W PyProof.Rows
namespace Mine
theorem fill4 (w : World) : hd.heap_39 w.params = hd.heap_39 w.params ∧ PySem.Challenge.rw_xg0038_01 = PySem.Challenge.rw_xg0038_01 := by
  k_fill
  exact ⟨rfl, rfl⟩
theorem cells_inv {cm : Str → Option Value} {n : Str} {c : Addr} {l : List (Str × Addr)} {cells : List (Addr × Obj)} (x : CellsAre cm ((n, c) :: l) cells) : ∃ o r, cells = (c, o) :: r ∧ o.data = .cell (cm n) ∧ CellsAre cm l r := by
  cases x with | cons h r => exact ⟨_, _, rfl, h, r⟩
inductive Cells7 (cm : Str → Option Value) (n₁ n₂ n₃ n₄ n₅ n₆ n₇ : Str) (c₁ c₂ c₃ c₄ c₅ c₆ c₇ : Addr) (cells : List (Addr × Obj)) : Prop
  | mk (o₁ o₂ o₃ o₄ o₅ o₆ o₇ : Obj) (e : cells = [(c₁, o₁), (c₂, o₂), (c₃, o₃), (c₄, o₄), (c₅, o₅), (c₆, o₆), (c₇, o₇)]) (h₁ : o₁.data = .cell (cm n₁)) (h₂ : o₂.data = .cell (cm n₂)) (h₃ : o₃.data = .cell (cm n₃)) (h₄ : o₄.data = .cell (cm n₄)) (h₅ : o₅.data = .cell (cm n₅)) (h₆ : o₆.data = .cell (cm n₆)) (h₇ : o₇.data = .cell (cm n₇)) : Cells7 cm n₁ n₂ n₃ n₄ n₅ n₆ n₇ c₁ c₂ c₃ c₄ c₅ c₆ c₇ cells
theorem cellsAre_seven {cm : Str → Option Value} {n₁ n₂ n₃ n₄ n₅ n₆ n₇ : Str} {c₁ c₂ c₃ c₄ c₅ c₆ c₇ : Addr} {cells : List (Addr × Obj)} (x : CellsAre cm [(n₁, c₁), (n₂, c₂), (n₃, c₃), (n₄, c₄), (n₅, c₅), (n₆, c₆), (n₇, c₇)] cells) : Cells7 cm n₁ n₂ n₃ n₄ n₅ n₆ n₇ c₁ c₂ c₃ c₄ c₅ c₆ c₇ cells := by
  obtain ⟨o₁, _, rfl, h₁, r⟩ := cells_inv x
  obtain ⟨o₂, _, rfl, h₂, r⟩ := cells_inv r
  obtain ⟨o₃, _, rfl, h₃, r⟩ := cells_inv r
  obtain ⟨o₄, o₅, o₆, o₇, rfl, h⟩ := r.four
  exact ⟨o₁, o₂, o₃, o₄, o₅, o₆, o₇, rfl, h₁, h₂, h₃, h.1, h.2.1, h.2.2.1, h.2.2.2⟩
local macro_rules | `(tactic| k_room) => `(tactic| (dsimp only [ktrTop, Around.deeper]; omega))
local macro_rules | `(tactic| k_all) => `(tactic| exact PlR.cell (by assumption) ⟨by omega, by omega⟩)
local macro_rules | `(tactic| k_all) => `(tactic| exact PlR.dict (by assumption))
set_option maxRecDepth 100000
set_option maxHeartbeats 8000000
theorem played_ok (w : World) (s₀ : Shared) (mg mb : Str → Option Value) (one two three : List Nat) (up dn : Int → Bool) (hs1 : ∀ c ∈ one, c = 43 ∨ c = 45) (hs2 : ∀ c ∈ two, c = 43 ∨ c = 45) (hs3 : ∀ c ∈ three, c = 43 ∨ c = 45) (h1z : one.length ≤ 7) (h2z : two.length ≤ 7) (h3z : three.length ≤ 7)
    (hfair : ∀ i j k, i ≤ one.length → j ≤ two.length → k ≤ three.length → up (pkey i j k) = (!decide (upsL 43 dn (cutsAll one two three i j k) = [])) ∧ dn (pkey i j k) = (!decide (upsL 45 up (cutsAll one two three i j k) = []))) :
  ∀ (t t' t'' : Tok) (dp un : Nat) (gd : Option (List Code)) (cn : Str) (cs : Scope) (a : Addr) (ccd : Value) (cl : List (Str × Addr)) (outer : List Env) (A₀ : Around) (base h₀ : Heap) (L : Addr) (m : Str → Option Value) (news : List (Addr × Obj)) (s : Shared) (Q : Value → Shared → Prop),
    Below A₀ base outer h₀ → Fr h₀ L s.heap m → (hd.heap_39 w.params).In h₀ → News h₀ L s.heap news → Top hd.view_39 (looseW hd.view_39 [Str.ofString "EXACT_TOKEN_TYPES"]) (ExcName.means s₀.heap) mg mb h₀ → cs.kind = .function →
    dp + 10 < recursionLimit → un + 80 < cLine →
    (∀ h' tk' d o kvs R, Fr h₀ L h' m → News h₀ L h' ((d, o) :: (news ++ R)) → o.IsDictOf (intKind PySem.Challenge.rw_xg0038_01.row.prog w) kvs →
      (∀ a b e, a ≤ one.length → b ≤ two.length → e ≤ three.length → ∃ l n, valueAt kvs (pkey a b e) = some (.ref l) ∧ (l, W.listOf #[.bool (up (pkey a b e)), .bool (dn (pkey a b e))] n) ∈ R) → (∀ q ∈ news, @LT.lt Nat _ q.1 d) → Q (.ref d) { s with heap := h', toks := tk' }) →
      wpAny (model PySem.Challenge.rw_xg0038_01.row.prog w) (ktrTop dp un gd cn cs L a ccd cl outer) (call (.ref 104) [.str (tx one) t, .str (tx two) t', .str (tx three) t'']) Q (fun _ _ => False) s := by
  intro t t' t'' dp un gd cn cs a ccd cl outer A₀ base h₀ L m news s Q B F X N T hk hd hu hret
  refine wpAny_call ?_
  k_dflt (refine' code_defC ?k1 ?k2 ?k3 ?k4 ?k5 ?kA ?kF ?kK ?k6 ?k7 ?k8 ?k9 ?kB ?kD ?_ ?c2 ?c3 ?c4; (case kA => exact rfl); (case kF => exact rfl); (case kK => assumption); (case k1 => k_asm); (case k2 => k_asm); (case k3 => k_asm); (case k4 => k_asm); (case k5 => k_asm); (case k6 => k_is); (case k7 => k_is); (case k8 => k_room); (case k9 => exact BindsTo.of_eq rfl); (case kB => exact rfl); (case kD => decide +kernel); (case c2 => exact rfl); (case c3 => exact rfl); (case c4 => exact rfl))
  intro g L' h1 tk cells FG F1 N1 Y B1 X1 T1 l1
  obtain ⟨o1, o2, o3, o4, o5, o6, o7, rfl, d1, d2, d3, d4, d5, d6, d7⟩ := cellsAre_seven Y
  have e7 : o7.data = .cell (some (.str (tx one) t)) := d7.trans (by with_unfolding_all rfl)
  have e6 : o6.data = .cell (some (.str (tx two) t')) := d6.trans (by with_unfolding_all rfl)
  have e5 : o5.data = .cell (some (.str (tx three) t'')) := d5.trans (by with_unfolding_all rfl)
  have e4 : o4.data = .cell none := d4.trans (by with_unfolding_all rfl)
  have e3 : o3.data = .cell none := d3.trans (by with_unfolding_all rfl)
  have e2 : o2.data = .cell none := d2.trans (by with_unfolding_all rfl)
  have e1 : o1.data = .cell none := d1.trans (by with_unfolding_all rfl)
  clear d1 d2 d3 d4 d5 d6 d7 Y
  simp only [List.cons_append, List.nil_append] at N1
  have hR0 : ∀ a : Nat, (L' : Nat) ≤ a → ∀ p ∈ news, p.1 ≠ a := fun a ha p hp e => Nat.lt_irrefl _ (Nat.lt_of_lt_of_le (l1 p hp) (e ▸ ha))
  refine wpAny_noRaise ?_
  repeat' (first | ((fail_if_success (with_reducible show wpAny _ _ (storeName _ _ _) _ _ _)); (fail_if_success (with_reducible show wpAny _ _ (exec (Stmt.For _ _ _ _ _) _) _ _ _)); walk1))
  rename_i dW hW oW FW NW loW hsW fsW hiW fiW lW
  have PR : PlR L' dW news := fun p hp => ⟨.inl (Nat.le_of_lt (l1 p hp)), fun e => by
    have h1 := l1 p hp
    rw [e] at h1
    have h2 : (L' + 1 : Nat) < dW := lW.2.2.2.2.2.2.1
    exact Nat.lt_irrefl _ (Nat.lt_trans h1 (Nat.lt_of_succ_lt h2))⟩
  repeat' (first | ((fail_if_success (with_reducible show wpAny _ _ (exec (Stmt.For _ _ _ _ _) _) _ _ _)); walk1))
  rename_i hV o4' FV NV e4'
  refine For_src ?_
  repeat' (first
    | ((with_reducible show wpAny _ _ (call (Value.builtin "len") [Value.str (tx _) _]) _ _ _); refine len_tx (by omega) ?_)
    | ((fail_if_success (with_reducible show ForSrc _ _ _ _ _ _ _ _ _)); walk1))
  rename IsRange _ _ _ _ _ _ _ _ => hr1
  rename Fr _ _ _ _ => F2
  rename News _ _ _ _ => N2
  refine ForSrc.rangeV (n := one.length + 1) (by rfl) hr1 (range_small (one.length + 1) (by omega)) (range_size (one.length + 1)) (fun _ _ _ _ q => go_name q) F2 N2
    (fun i _ nx => PlJ PySem.Challenge.rw_xg0038_01.row.prog w L' dW o4' o5 o6 o7 up dn news AC0 (P0 two.length three.length i) (64 * i) nx)
    ⟨o1, o2, o3, oW, [], news, rfl, PR, fun _ q => q, ⟨_, _, _, e1, e2, e3⟩, hiW, Nat.le_refl _, fun a b e h => absurd h.1 (Nat.not_lt_zero _)⟩ ?_ ?_
  · clear F2 N2 hr1 hiW fiW hsW fsW e1 e2 e3
    intro Ja Qa ga da oa i ti m1 nx h3 tk3 I1 oI1 hJa _ _ hi hJ F3 N3 off1 hc1
    obtain ⟨o1, o2, o3, oW, kvs, R, rfl, hPR, hR0', ⟨v1, v2, v3, c1, c2, c3⟩, hd, hl, hp⟩ := hJ
    have hPR1 := hPR.iter (oI := oI1) off1
    have N4 := pl_perm N3
    have hoffn : ∀ p ∈ news, p.1 ≠ I1 := fun p hp => off1 p (pl_news (hR0' p hp))
    clear N3 PR
    unfold plN at N4
    rw [Int.zero_add]
    repeat' (first
      | ((fail_if_success (with_reducible show wpAny _ _ (exec (Stmt.For _ _ _ _ _) _) _ _ _)); walk1))
    refine For_src ?_
    repeat' (first
      | ((with_reducible show wpAny _ _ (call (Value.builtin "len") [Value.str (tx _) _]) _ _ _); refine len_tx (by omega) ?_)
      | ((fail_if_success (with_reducible show ForSrc _ _ _ _ _ _ _ _ _)); walk1))
    rename IsRange _ _ _ _ _ _ _ _ => hr2
    rename Fr _ _ _ _ => F5
    rename News _ _ _ _ => N5
    rename Obj.data _ = Data.cell (some (Value.int _ _)) => ci
    refine ForSrc.rangeV (n := two.length + 1) (by rfl) hr2 (range_small (two.length + 1) (by omega)) (range_size (two.length + 1)) (fun _ _ _ _ q => go_name q) F5 N5
      (fun j _ nx => PlJ PySem.Challenge.rw_xg0038_01.row.prog w L' dW o4' o5 o6 o7 up dn ((I1, oI1) :: news) (AC1 i) (P1 two.length three.length i j) (64 * i + 8 * j) nx)
      ⟨o1, o2, _, oW, kvs, (I1, oI1) :: R, rfl, hPR1, fun p q => by
          rcases List.mem_cons.mp q with rfl | q
          · exact List.mem_cons_self
          · exact List.mem_cons_of_mem _ (hR0' p q), ⟨_, _, _, c1, c2, ci⟩, hd, by omega, fun a b e h => by
          obtain ⟨l, n, hv, hm⟩ := hp a b e (P1.start a b e h)
          exact ⟨l, n, hv, List.mem_cons_of_mem _ hm⟩⟩ ?_ ?_
    · clear F5 N5 hr2 c1 c2 c3 hd hl hp hPR1 hR0' hPR N4 ci
      intro Jb Qb gb db ob' j tj m2 nx h4 tk4 I2 oI2 hJb _ _ hj hJ F6 N6 off2 hc2
      obtain ⟨o1, o2, o3, oW, kvs, R, rfl, hPR, hR0', ⟨v1, v2, v3, c1, c2, c3⟩, hd, hl, hp⟩ := hJ
      have hPR1 := hPR.iter (oI := oI2) off2
      have N7 := pl_perm N6
      have hoffn2 : ∀ p ∈ (I1, oI1) :: news, p.1 ≠ I2 := fun p hp => off2 p (pl_news (hR0' p hp))
      clear N6
      unfold plN at N7
      rw [Int.zero_add]
      repeat' (first
        | ((fail_if_success (with_reducible show wpAny _ _ (exec (Stmt.For _ _ _ _ _) _) _ _ _)); walk1))
      refine For_src ?_
      repeat' (first
        | ((with_reducible show wpAny _ _ (call (Value.builtin "len") [Value.str (tx _) _]) _ _ _); refine len_tx (by omega) ?_)
        | ((fail_if_success (with_reducible show ForSrc _ _ _ _ _ _ _ _ _)); walk1))
      rename IsRange _ _ _ _ _ _ _ _ => hr2
      rename Fr _ _ _ _ => F5
      rename News _ _ _ _ => N5
      rename Obj.data _ = Data.cell (some (Value.int _ _)) => ci
      refine ForSrc.rangeV (n := three.length + 1) (by rfl) hr2 (range_small (three.length + 1) (by omega)) (range_size (three.length + 1)) (fun _ _ _ _ q => go_name q) F5 N5
        (fun k _ nx => PlJ PySem.Challenge.rw_xg0038_01.row.prog w L' dW o4' o5 o6 o7 up dn ((I2, oI2) :: (I1, oI1) :: news) (AC2 i j) (P2 two.length three.length i j k) (64 * i + 8 * j + k) nx)
        ⟨o1, _, o3, oW, kvs, (I2, oI2) :: R, rfl, hPR1, fun p q => by
          rcases List.mem_cons.mp q with rfl | q
          · exact List.mem_cons_self
          · exact List.mem_cons_of_mem _ (hR0' p q), ⟨_, _, _, c1, ci, c3⟩, hd, by omega, fun a b e h => by
          obtain ⟨l, n, hv, hm⟩ := hp a b e (P2.start a b e h)
          exact ⟨l, n, hv, List.mem_cons_of_mem _ hm⟩⟩ ?_ ?_
      · clear F5 N5 hr2 c1 c2 c3 hd hl hp hPR1 hR0' hPR N7 ci
        intro Jc Qc gc dc oc k tk' m3 nx h5 tk5 I3 oI3 hJc _ _ hk3 hJ F7 N8 off3 hc3
        obtain ⟨o1, o2, o3, oW, kvs, R, rfl, hPR, hR0', ⟨v1, v2, v3, c1, c2, c3⟩, hd, hl, hp⟩ := hJ
        have hPR1 := hPR.iter (oI := oI3) off3
        have N9 := pl_perm N8
        clear N8
        unfold plN at N9
        rw [Int.zero_add]
        repeat' (first
          | ((fail_if_success (with_reducible show wpAny _ _ (exec (Stmt.Assign _ _ _) _) _ _ _)); walk1))
        rename Fr _ _ _ _ => FA
        rename News _ _ _ _ => NA
        rename Obj.data _ = Data.cell (some (Value.int _ _)) => ck
        refine Assign_ListComp_src FA (by rfl) (by with_unfolding_all rfl) (by with_unfolding_all rfl) (by rfl) (by decide) (by rfl) (by rfl) ?_
        repeat' (first
          | ((fail_if_success (with_reducible show CSrc _ _ _ _ _ _ _ _ _ _ _ _ _ _ _ _ _)); walk1))
        rename IsRange _ _ _ _ _ _ _ _ => hr3
        rename Fr _ _ _ _ => FB
        rename News _ _ _ _ => NB
        refine CSrc.range (n := i) (by rfl) FB NB hr3 (range_small i (by omega)) (range_size i) (by rw [sizeLine_eq]; omega) (by decide) (by rfl) (by rfl)
          (CutJ L' dW _ o2 o3 o4' o5 o6 o7 oW ((I3, oI3) :: R) one (fun p => pkey p j k)) ⟨_, rfl, hPR1, fun _ q => q, trivial⟩ ?_ ?_
        · clear FB NB hr3 N9
          rintro q tq ys nx hq ⟨R', rfl, hPR', hsub, htup⟩ hyl g' h' tk' I oI C oC D mC hB hoC FC NC offC neC
          refine wpAny_tests_nil ?_
          simp only [if_true]
          unfold plN at NC
          rw [Int.zero_add] at hB
          repeat' (first
            | ((with_reducible show wpAny _ _ (subscriptTail _ _ (Value.str (tx _) _) (Value.int _ _)) _ _ _); refine item_tx rfl (by omega) (by omega) (by omega) ?_)
            | ((fail_if_success (with_reducible show CompOk _ _ _ _ _ _ _ _ _ _ _ _)); walk1))
          rename_i T9 hh9 FE NE l9
          rw [Int.toNat_natCast] at NE
          exact cut_end FE NE offC l9 (CutJ.next (oI := oI) (oC := oC) (oD := oC) hPR' hsub htup l9)
        · rintro gg ys1 nx ⟨R1, rfl, hP1, hu1, ht1⟩ D1 hh1 tk1 FD ND offD
          have hQ1 := hP1.iter (oI := LCg.lst ys1) (Off1.mem offD)
          have ND' := pl_perm ND
          unfold plN at ND'
          clear ND
          repeat' (first
            | ((fail_if_success (with_reducible show wpAny _ _ (eval (PySem.Expr.ListComp _ _ _ _) _) _ _ _)); walk1))
          rename Fr _ _ _ _ => FG1
          refine ListComp_src FG1 (by with_unfolding_all rfl) (by rfl) (by decide) ?_
          repeat' (first
            | ((fail_if_success (with_reducible show CSrc _ _ _ _ _ _ _ _ _ _ _ _ _ _ _ _ _)); walk1))
          rename IsRange _ _ _ _ _ _ _ _ => hr4
          rename Fr _ _ _ _ => FB1
          rename News _ _ _ _ => NB1
          refine CSrc.range (n := j) (by rfl) FB1 NB1 hr4 (range_small j (by omega)) (range_size j) (by rw [sizeLine_eq]; omega) (by decide) (by rfl) (by rfl)
            (CutJ L' dW _ o2 o3 o4' o5 o6 o7 oW ((D1, LCg.lst ys1) :: R1) two (fun p => pkey i p k)) ⟨_, rfl, hQ1, fun _ q => q, trivial⟩ ?_ ?_
          · clear FB1 NB1 hr4
            rintro q tq ys nx hq ⟨R', rfl, hPR', hsub, htup⟩ hyl g' h' tk' I oI C oC D mC hB hoC FC NC offC neC
            refine wpAny_tests_nil ?_
            simp only [if_true]
            unfold plN at NC
            rw [Int.zero_add] at hB
            repeat' (first
              | ((with_reducible show wpAny _ _ (subscriptTail _ _ (Value.str (tx _) _) (Value.int _ _)) _ _ _); refine item_tx rfl (by omega) (by omega) (by omega) ?_)
              | ((fail_if_success (with_reducible show CompOk _ _ _ _ _ _ _ _ _ _ _ _)); walk1))
            rename_i T9 hh9 FE NE l9
            rw [Int.toNat_natCast] at NE
            exact cut_end FE NE offC l9 (CutJ.next (oI := oI) (oC := oC) (oD := oC) hPR' hsub htup l9)
          · rintro gg2 ys2 nx ⟨R2, rfl, hP2, hu2, ht2⟩ D2 hh2 tk2 FD2 ND2 offD2
            have hQ2 := hP2.iter (oI := LCg.lst ys2) (Off1.mem offD2)
            have ND2' := pl_perm ND2
            unfold plN at ND2'
            clear ND2
            have hm1 : (D1, LCg.lst ys1) ∈ R2 := hu2 _ List.mem_cons_self
            refine add_lst (n := ys1.length) (k := ys2.length) FD2 ND2' (pl_news (List.mem_cons_of_mem _ hm1)) (pl_news List.mem_cons_self) (by rw [ht1.len, ht2.len]; simp [cutsOf]; omega) ?_
            intro D3 h3 F3 N3 l3
            have hQ3 := hQ2.lt (o := W.listOf (ys1 ++ ys2).toArray 0) l3
            have N3' := pl_perm2 N3
            unfold plN at N3'
            clear N3 ND2' FD2
            repeat' (first
              | ((fail_if_success (with_reducible show wpAny _ _ (eval (PySem.Expr.ListComp _ _ _ _) _) _ _ _)); walk1))
            rename Fr _ _ _ _ => FG2
            refine ListComp_src FG2 (by with_unfolding_all rfl) (by rfl) (by decide) ?_
            repeat' (first
              | ((fail_if_success (with_reducible show CSrc _ _ _ _ _ _ _ _ _ _ _ _ _ _ _ _ _)); walk1))
            rename IsRange _ _ _ _ _ _ _ _ => hr5
            rename Fr _ _ _ _ => FB2
            rename News _ _ _ _ => NB2
            refine CSrc.range (n := k) (by rfl) FB2 NB2 hr5 (range_small k (by omega)) (range_size k) (by rw [sizeLine_eq]; omega) (by decide) (by rfl) (by rfl)
              (CutJ L' dW _ o2 o3 o4' o5 o6 o7 oW ((D3, W.listOf (ys1 ++ ys2).toArray 0) :: (D2, LCg.lst ys2) :: R2) three (fun p => pkey i j p)) ⟨_, rfl, hQ3, fun _ q => q, trivial⟩ ?_ ?_
            · clear FB2 NB2 hr5
              rintro q tq ys nx hq ⟨R', rfl, hPR', hsub, htup⟩ hyl g' h' tk' I oI C oC D mC hB hoC FC NC offC neC
              refine wpAny_tests_nil ?_
              simp only [if_true]
              unfold plN at NC
              rw [Int.zero_add] at hB
              repeat' (first
                | ((with_reducible show wpAny _ _ (subscriptTail _ _ (Value.str (tx _) _) (Value.int _ _)) _ _ _); refine item_tx rfl (by omega) (by omega) (by omega) ?_)
                | ((fail_if_success (with_reducible show CompOk _ _ _ _ _ _ _ _ _ _ _ _)); walk1))
              rename_i T9 hh9 FE NE l9
              rw [Int.toNat_natCast] at NE
              exact cut_end FE NE offC l9 (CutJ.next (oI := oI) (oC := oC) (oD := oC) hPR' hsub htup l9)
            · rintro gg3 ys3 nx ⟨R4, rfl, hP4, hu4, ht4⟩ D4 hh4 tk4 FD4 ND4 offD4
              have hQ4 := hP4.iter (oI := LCg.lst ys3) (Off1.mem offD4)
              have ND4' := pl_perm ND4
              unfold plN at ND4'
              clear ND4
              have hm3 : (D3, W.listOf (ys1 ++ ys2).toArray 0) ∈ R4 := hu4 _ List.mem_cons_self
              refine add_lst (n := 0) (k := ys3.length) FD4 ND4' (pl_news (List.mem_cons_of_mem _ hm3)) (pl_news List.mem_cons_self) (by rw [List.length_append, ht1.len, ht2.len, ht4.len]; simp [cutsOf]; omega) ?_
              intro D5 h5 F5 N5 l5
              have hQ5 := hQ4.lt (o := W.listOf (ys1 ++ ys2 ++ ys3).toArray 0) l5
              have N5' := pl_perm2 N5
              have s2 : ∀ p ∈ R1, p ∈ R2 := fun p q => hu2 _ (List.mem_cons_of_mem _ q)
              have s4 : ∀ p ∈ R2, p ∈ R4 := fun p q => hu4 _ (List.mem_cons_of_mem _ (List.mem_cons_of_mem _ q))
              have s5 : ∀ p ∈ R4, p ∈ (D5, W.listOf (ys1 ++ ys2 ++ ys3).toArray 0) :: (D4, LCg.lst ys3) :: R4 := fun p q => List.mem_cons_of_mem _ (List.mem_cons_of_mem _ q)
              have ht5 : TupsIn ((D5, W.listOf (ys1 ++ ys2 ++ ys3).toArray 0) :: (D4, LCg.lst ys3) :: R4) (ys1 ++ ys2 ++ ys3) (cutsOf one (fun p => pkey p j k) i ++ cutsOf two (fun p => pkey i p k) j ++ cutsOf three (fun p => pkey i j p) k) :=
                TupsIn.append (ht4.mono s5) (TupsIn.append (ht2.mono fun p q => s5 p (s4 p q)) (ht1.mono fun p q => s5 p (s4 p (s2 p q))))
              have sR : ∀ p ∈ (I3, oI3) :: R, p ∈ (D5, W.listOf (ys1 ++ ys2 ++ ys3).toArray 0) :: (D4, LCg.lst ys3) :: R4 := fun p q => s5 p (s4 p (s2 p (hu1 p q)))
              generalize hR5 : (D5, W.listOf (ys1 ++ ys2 ++ ys3).toArray 0) :: (D4, LCg.lst ys3) :: R4 = R5 at *
              have hm5 : (D5, W.listOf (ys1 ++ ys2 ++ ys3).toArray 0) ∈ R5 := by rw [← hR5]; exact List.mem_cons_self
              clear hR5 hu1 hu2 hu4 s2 s4 s5 ht1 ht2 ht4 hP1 hQ1 hP2 hQ2 hQ3 hP4 hQ4 hm1 hm3 N5 ND4' FD4
              generalize ys1 ++ ys2 ++ ys3 = ys at *
              generalize hcs : cutsOf one (fun p => pkey p j k) i ++ cutsOf two (fun p => pkey i p k) j ++ cutsOf three (fun p => pkey i j p) k = cs at *
              unfold plN at N5'
              have hcut : ∀ c ∈ cs, WonAt kvs up dn R5 c := by
                rw [← hcs]
                intro c hc
                obtain ⟨a, l, n, hv, hm⟩ := cut_won (X := fun key => ∃ l n, valueAt kvs key = some (.ref l) ∧ (l, W.listOf #[.bool (up key), .bool (dn key)] n) ∈ R5) hs1 hs2 hs3 hi hj hk3 (fun a b e h => by
                  obtain ⟨l, n, hv, hm⟩ := hp a b e h
                  exact ⟨l, n, hv, sR _ (List.mem_cons_of_mem _ hm)⟩) c hc
                exact ⟨a, l, n, hv, hm⟩
              repeat' (first
                | ((fail_if_success (with_reducible show wpAny _ _ (exec (Stmt.Assign _ _ _) _) _ _ _)); walk1))
              rename Fr _ _ _ _ => FH
              rename News _ _ _ _ => NH
              refine Assign_ListComp_src FH (by rfl) (by with_unfolding_all rfl) (by with_unfolding_all rfl) (by rfl) (by decide) (by rfl) (by rfl) ?_
              repeat' (first
                | ((fail_if_success (with_reducible show CSrc _ _ _ _ _ _ _ _ _ _ _ _ _ _ _ _ _)); walk1))
              refine CSrc.pairs (its := ys.toArray) (by rfl) FH NH (by rw [List.size_toArray, sizeLine_eq, ht5.len, ← hcs]; simp [cutsOf]; omega) (by decide) (by rfl) (by rfl) (by rfl) (by decide)
                (fun q zs nx => nx = plN L' dW _ o2 o3 o4' o5 o6 o7 oW R5 ∧ IntsAre zs (upsL 43 dn (cs.take q))) (fun q zs nx hJ => by
                  rw [hJ.1]; exact .inr ⟨W.listOf ys.toArray 0, pl_news hm5, rfl, _, rfl⟩) ⟨rfl, .nil⟩
                (CtJ cs) (fun q v zs nx hv hJ => by
                  obtain ⟨c, hc, T, t, t', rfl, hm⟩ := ht5.at (i := q) (by simpa using hv)
                  exact ⟨T, _, _, _, rfl, by rw [hJ.1]; exact pl_news hm, ⟨.inl rfl, _, rfl⟩, c, t, t', hc, rfl, rfl⟩) ?_ ?_
              · rintro q x y zs nx hq ⟨c, t, t', hc, rfl, rfl⟩ ⟨rfl, hI⟩ hyl g' h' tk' I oI C oC D mC ⟨hA, hB⟩ hoC FC NC offC neC
                obtain ⟨h43, lw, nw, hvw, hmw⟩ := hcut c (List.mem_of_getElem? hc)
                refine wpAny_tests_one ?_
                unfold plN at NC
                rcases h43 with h43 | h43
                · rw [h43, ← lit_plus] at hA
                  cases hdc : dn c.2
                  · rw [hdc] at hmw
                    have hlw : h'.get? lw = some (W.listOf #[.bool (up c.2), .bool false] nw) := (NC _ (List.mem_cons_of_mem _ (List.mem_cons_of_mem _ (List.mem_cons_of_mem _ (pl_news hmw))))).1
                    repeat' (first
                      | ((with_reducible show wpAny _ _ (subscriptTail _ _ (Value.ref dW) (Value.int _ _)) _ _ _); refine kda_item (knd := PySem.intKind _ _) (by assumption) (by k_mem) hd (intKind_is _ _ _ _) hvw ?_; (try dsimp only))
                      | ((with_reducible show wpAny _ _ (subscriptTail _ _ (Value.ref lw) (Value.int _ _)) _ _ _); refine item_got (x := .bool false) hlw (by decide) (by decide) (by rfl) ?_)
                      | ((fail_if_success (with_reducible show CompOk _ _ _ _ _ _ _ _ _ _ _ _)); walk1))
                    exact CompOk.intro FC NC _ List.mem_cons_self (List.mem_cons_of_mem _ List.mem_cons_self) (List.mem_cons_of_mem _ (List.mem_cons_of_mem _ List.mem_cons_self)) (fun p hp => List.mem_cons_of_mem _ (List.mem_cons_of_mem _ (List.mem_cons_of_mem _ hp))) offC ⟨rfl, by rw [upsL_take hc]; simp only [h43, hdc, beq_self_eq_true, Bool.not_false, Bool.and_self, if_true]; exact intsAre_snoc hI⟩
                  · rw [hdc] at hmw
                    have hlw : h'.get? lw = some (W.listOf #[.bool (up c.2), .bool true] nw) := (NC _ (List.mem_cons_of_mem _ (List.mem_cons_of_mem _ (List.mem_cons_of_mem _ (pl_news hmw))))).1
                    repeat' (first
                      | ((with_reducible show wpAny _ _ (subscriptTail _ _ (Value.ref dW) (Value.int _ _)) _ _ _); refine kda_item (knd := PySem.intKind _ _) (by assumption) (by k_mem) hd (intKind_is _ _ _ _) hvw ?_; (try dsimp only))
                      | ((with_reducible show wpAny _ _ (subscriptTail _ _ (Value.ref lw) (Value.int _ _)) _ _ _); refine item_got (x := .bool true) hlw (by decide) (by decide) (by rfl) ?_)
                      | ((fail_if_success (with_reducible show CompOk _ _ _ _ _ _ _ _ _ _ _ _)); walk1))
                    exact CompOk.intro FC NC _ List.mem_cons_self (List.mem_cons_of_mem _ List.mem_cons_self) (List.mem_cons_of_mem _ (List.mem_cons_of_mem _ List.mem_cons_self)) (fun p hp => List.mem_cons_of_mem _ (List.mem_cons_of_mem _ (List.mem_cons_of_mem _ hp))) offC ⟨rfl, by rw [upsL_take hc]; simp only [h43, hdc, beq_self_eq_true, Bool.not_true, Bool.and_false, Bool.false_eq_true, if_false, List.append_nil]; exact hI⟩
                · rw [h43, ← lit_minus] at hA
                  repeat' (first
                    | ((fail_if_success (with_reducible show CompOk _ _ _ _ _ _ _ _ _ _ _ _)); walk1))
                  exact CompOk.intro FC NC _ List.mem_cons_self (List.mem_cons_of_mem _ List.mem_cons_self) (List.mem_cons_of_mem _ (List.mem_cons_of_mem _ List.mem_cons_self)) (fun p hp => List.mem_cons_of_mem _ (List.mem_cons_of_mem _ (List.mem_cons_of_mem _ hp))) offC ⟨rfl, by rw [upsL_take hc]; simp only [h43, show ((45 : Nat) == 43) = false from rfl, Bool.false_and, Bool.false_eq_true, if_false, List.append_nil]; exact hI⟩
              · rintro gg6 us nx ⟨rfl, hus⟩ Du hhu tku FU NU offU
                rw [List.size_toArray, ht5.len, List.take_length] at hus
                have hQ6 := hQ5.iter (oI := LCg.lst us) (Off1.mem offU)
                have NU' := pl_perm NU
                unfold plN at NU'
                clear NU
                repeat' (first
                  | ((fail_if_success (with_reducible show wpAny _ _ (exec (Stmt.Assign _ _ _) _) _ _ _)); walk1))
                rename Fr _ _ _ _ => FK
                rename News _ _ _ _ => NK
                refine Assign_ListComp_src FK (by rfl) (by with_unfolding_all rfl) (by with_unfolding_all rfl) (by rfl) (by decide) (by rfl) (by rfl) ?_
                repeat' (first
                  | ((fail_if_success (with_reducible show CSrc _ _ _ _ _ _ _ _ _ _ _ _ _ _ _ _ _)); walk1))
                refine CSrc.pairs (its := ys.toArray) (by rfl) FK NK (by rw [List.size_toArray, sizeLine_eq, ht5.len, ← hcs]; simp [cutsOf]; omega) (by decide) (by rfl) (by rfl) (by rfl) (by decide)
                  (fun q zs nx => nx = plN L' dW _ o2 o3 o4' o5 o6 o7 oW ((Du, LCg.lst us) :: R5) ∧ IntsAre zs (upsL 45 up (cs.take q))) (fun q zs nx hJ => by
                    rw [hJ.1]; exact .inr ⟨W.listOf ys.toArray 0, pl_news (List.mem_cons_of_mem _ hm5), rfl, _, rfl⟩) ⟨rfl, .nil⟩
                  (CtJ cs) (fun q v zs nx hv hJ => by
                    obtain ⟨c, hc, T, t, t', rfl, hm⟩ := ht5.at (i := q) (by simpa using hv)
                    exact ⟨T, _, _, _, rfl, by rw [hJ.1]; exact pl_news (List.mem_cons_of_mem _ hm), ⟨.inl rfl, _, rfl⟩, c, t, t', hc, rfl, rfl⟩) ?_ ?_
                · rintro q x y zs nx hq ⟨c, t, t', hc, rfl, rfl⟩ ⟨rfl, hI⟩ hyl g' h' tk' I oI C oC D mC ⟨hA, hB⟩ hoC FC NC offC neC
                  obtain ⟨h43, lw, nw, hvw, hmw⟩ := hcut c (List.mem_of_getElem? hc)
                  refine wpAny_tests_one ?_
                  unfold plN at NC
                  rcases h43 with h43 | h43
                  · rw [h43, ← lit_plus] at hA
                    repeat' (first
                      | ((fail_if_success (with_reducible show CompOk _ _ _ _ _ _ _ _ _ _ _ _)); walk1))
                    exact CompOk.intro FC NC _ List.mem_cons_self (List.mem_cons_of_mem _ List.mem_cons_self) (List.mem_cons_of_mem _ (List.mem_cons_of_mem _ List.mem_cons_self)) (fun p hp => List.mem_cons_of_mem _ (List.mem_cons_of_mem _ (List.mem_cons_of_mem _ hp))) offC ⟨rfl, by rw [upsL_take hc]; simp only [h43, show ((43 : Nat) == 45) = false from rfl, Bool.false_and, Bool.false_eq_true, if_false, List.append_nil]; exact hI⟩
                  · rw [h43, ← lit_minus] at hA
                    cases hdc : up c.2
                    · rw [hdc] at hmw
                      have hlw : h'.get? lw = some (W.listOf #[.bool false, .bool (dn c.2)] nw) := (NC _ (List.mem_cons_of_mem _ (List.mem_cons_of_mem _ (List.mem_cons_of_mem _ (pl_news (List.mem_cons_of_mem _ hmw)))))).1
                      repeat' (first
                        | ((with_reducible show wpAny _ _ (subscriptTail _ _ (Value.ref dW) (Value.int _ _)) _ _ _); refine kda_item (knd := PySem.intKind _ _) (by assumption) (by k_mem) hd (intKind_is _ _ _ _) hvw ?_; (try dsimp only))
                        | ((with_reducible show wpAny _ _ (subscriptTail _ _ (Value.ref lw) (Value.int _ _)) _ _ _); refine item_got (x := .bool false) hlw (by decide) (by decide) (by rfl) ?_)
                        | ((fail_if_success (with_reducible show CompOk _ _ _ _ _ _ _ _ _ _ _ _)); walk1))
                      exact CompOk.intro FC NC _ List.mem_cons_self (List.mem_cons_of_mem _ List.mem_cons_self) (List.mem_cons_of_mem _ (List.mem_cons_of_mem _ List.mem_cons_self)) (fun p hp => List.mem_cons_of_mem _ (List.mem_cons_of_mem _ (List.mem_cons_of_mem _ hp))) offC ⟨rfl, by rw [upsL_take hc]; simp only [h43, hdc, beq_self_eq_true, Bool.not_false, Bool.and_self, if_true]; exact intsAre_snoc hI⟩
                    · rw [hdc] at hmw
                      have hlw : h'.get? lw = some (W.listOf #[.bool true, .bool (dn c.2)] nw) := (NC _ (List.mem_cons_of_mem _ (List.mem_cons_of_mem _ (List.mem_cons_of_mem _ (pl_news (List.mem_cons_of_mem _ hmw)))))).1
                      repeat' (first
                        | ((with_reducible show wpAny _ _ (subscriptTail _ _ (Value.ref dW) (Value.int _ _)) _ _ _); refine kda_item (knd := PySem.intKind _ _) (by assumption) (by k_mem) hd (intKind_is _ _ _ _) hvw ?_; (try dsimp only))
                        | ((with_reducible show wpAny _ _ (subscriptTail _ _ (Value.ref lw) (Value.int _ _)) _ _ _); refine item_got (x := .bool true) hlw (by decide) (by decide) (by rfl) ?_)
                        | ((fail_if_success (with_reducible show CompOk _ _ _ _ _ _ _ _ _ _ _ _)); walk1))
                      exact CompOk.intro FC NC _ List.mem_cons_self (List.mem_cons_of_mem _ List.mem_cons_self) (List.mem_cons_of_mem _ (List.mem_cons_of_mem _ List.mem_cons_self)) (fun p hp => List.mem_cons_of_mem _ (List.mem_cons_of_mem _ (List.mem_cons_of_mem _ hp))) offC ⟨rfl, by rw [upsL_take hc]; simp only [h43, hdc, beq_self_eq_true, Bool.not_true, Bool.and_false, Bool.false_eq_true, if_false, List.append_nil]; exact hI⟩
                · rintro gg7 ds nx ⟨rfl, hds⟩ Dd hhd tkd FZ NZ offZ
                  rw [List.size_toArray, ht5.len, List.take_length] at hds
                  have hQ7 := hQ6.iter (oI := LCg.lst ds) (Off1.mem offZ)
                  have NZ' := pl_perm NZ
                  unfold plN at NZ'
                  clear NZ
                  repeat' walk1
                  have hfr := hfair i j k (by omega) (by omega) (by omega)
                  rw [show cutsAll one two three i j k = cs from hcs] at hfr
                  rename_i lE1 hE1 lE1' lE2 hE2 lE2' lE3 hE3 FE NE lE3'
                  rw [← hfr.1, ← hfr.2] at NE
                  refine kda_set (knd := PySem.intKind _ _) FE NE (by k_updF) hd (intKind_is _ _ _ _) (by rw [sizeLine_eq]; omega) ?_
                  intro h9 oW' F9 N9 hd9
                  repeat' (first
                    | ((fail_if_success (with_reducible show FtPost _ _ _ _ _ _ _ _ _)); walk1))
                  refine FtOk.introV hJc F9 N9 (plN L' dW _ o2 o3 o4' o5 o6 o7 oW' ((lE3, W.listOf #[.bool (up (pkey i j k)), .bool (dn (pkey i j k))] 0) :: R)) (List.mem_cons_of_mem _ (List.mem_cons_of_mem _ (List.mem_cons_of_mem _ (pl_news (List.mem_cons_of_mem _ (List.mem_cons_of_mem _ (sR _ List.mem_cons_self)))))))
                    (pl_sub fun p q => List.mem_cons_of_mem _ (List.mem_cons_of_mem _ (sR p (List.mem_cons_of_mem _ q)))) (fun p q => ?_)
                    ⟨_, o2, o3, oW', _, _, rfl, hPR.new lE3'.2.2.2.1 lE3'.2.2.1, fun p q => List.mem_cons_of_mem _ (hR0' p q), ⟨_, _, _, ck, c2, c3⟩, hd9, Nat.le_trans (stored_length_le _ _ _) (by omega), pl_won h2z h3z hj hk3 hp⟩
                  rcases pl_off off3 q with e | e
                  · exact .inl e
                  · right; rw [e, hc3]; exact fun x => absurd (Value.type.inj x) (by decide)
      · intro m nx h tk hJ F6 N6
        dsimp only
        repeat' (first
          | ((fail_if_success (with_reducible show FtPost _ _ _ _ _ _ _ _ _)); walk1))
        obtain ⟨nx', hsub, hoff, hI, hJ'⟩ := hJ.out N6 hc2 hoffn2
        exact FtOk.introV hJb F6 N6 nx' hI hsub (fun p q => .inl (hoff p q)) (hJ'.mono (fun _ q => q) (fun _ _ _ q => q.wide) P1.next (by omega))
    · intro m nx h tk hJ F6 N6
      dsimp only
      repeat' (first
        | ((fail_if_success (with_reducible show FtPost _ _ _ _ _ _ _ _ _)); walk1))
      obtain ⟨nx', hsub, hoff, hI, hJ'⟩ := hJ.out N6 hc1 hoffn
      exact FtOk.introV hJa F6 N6 nx' hI hsub (fun p q => .inl (hoff p q)) (hJ'.mono (fun _ q => q) (fun _ _ _ q => q.wide) P0.next (by omega))
  · intro m nx h tk hJ F6 N6
    dsimp only
    obtain ⟨o1, o2, o3, oW, kvs, R, rfl, hPR, hR0', ⟨v1, v2, v3, c1, c2, c3⟩, hd, hl, hp⟩ := hJ
    unfold plN at N6
    repeat' walk1
    refine hret _ _ dW oW kvs R (by assumption) (cb_drop (by assumption) fun p hp => ?_) hd (fun a b e h1 h2 h3 => hp a b e ⟨by omega, h2, h3⟩) (allLt_mem lW.2.2.2.2.2.2.2)
    rcases List.mem_cons.mp hp with e | hp
    · rw [e]; exact List.mem_cons_self
    · exact pl_news (c := L') (dW := dW) (o1 := o1) (o2 := o2) (o3 := o3) (o4 := o4') (o5 := o5) (o6 := o6) (o7 := o7) (oW := oW) ((List.mem_append.mp hp).elim (hR0' p) id)
end Mine
end
section
open PySem PySem.W PyProof.Rows
namespace Mine
/-- the sort's questions answered by a relation, inside a bound -/
noncomputable def kasRun {α : Type} (n : Nat) (lt : Nat → Nat → Bool) : KasT α → Option α
  | .ret a => some a
  | .ask i j k => if i < n ∧ j < n then kasRun n lt (k (lt i j)) else none
theorem kasRun_wp {α : Type} {n : Nat} {lt : Nat → Nat → Bool} {cmp : Nat → Nat → (Bool → Shared → Prop) → Shared → Prop} (hc : ∀ i j C s, i < n → j < n → C (lt i j) s → cmp i j C s) {Q : α → Shared → Prop} {a : α} {s : Shared} :
    ∀ T : KasT α, kasRun n lt T = some a → Q a s → T.kasWp cmp Q s
  | .ret b, e, h => by
    have : b = a := Option.some.inj e
    subst this; exact h
  | .ask i j k, e, h => by
    unfold kasRun at e
    by_cases hij : i < n ∧ j < n
    · rw [if_pos hij] at e
      exact hc i j _ s hij.1 hij.2 (kasRun_wp hc (k (lt i j)) e h)
    · rw [if_neg hij] at e; cases e
noncomputable def endsTo (l : List Nat) (A : List Int) (n : Nat) : List (List Nat × Int) := (List.range n).map fun k => (l.take k ++ [44], A.getD k 0)
theorem endsTo_succ (l : List Nat) (A : List Int) (n : Nat) : endsTo l A (n + 1) = endsTo l A n ++ [(l.take n ++ [44], A.getD n 0)] := by
  simp [endsTo, List.range_succ]
noncomputable def endsL (l : List Nat) (A : List Int) : List (List Nat × Int) := endsTo l A (l.length + 1)
/-- the values are references to lists of a text and a number -/
noncomputable def PairsIn (R : List (Addr × Obj)) : List Value → List (List Nat × Int) → Prop
  | [], [] => True
  | v :: vs, c :: cs => (∃ T t t' n, v = .ref T ∧ (T, W.listOf #[.str (tx c.1) t, .int c.2 t'] n) ∈ R) ∧ PairsIn R vs cs
  | _, _ => False
theorem PairsIn.mono {R R' : List (Addr × Obj)} (h : ∀ p ∈ R, p ∈ R') : ∀ {vs : List Value} {cs : List (List Nat × Int)}, PairsIn R vs cs → PairsIn R' vs cs
  | [], [], _ => trivial
  | _ :: _, _ :: _, ⟨⟨T, t, t', n, e, hm⟩, r⟩ => ⟨⟨T, t, t', n, e, h _ hm⟩, PairsIn.mono h r⟩
theorem PairsIn.append {R : List (Addr × Obj)} {vs' : List Value} {cs' : List (List Nat × Int)} (h' : PairsIn R vs' cs') : ∀ {vs : List Value} {cs : List (List Nat × Int)}, PairsIn R vs cs → PairsIn R (vs ++ vs') (cs ++ cs')
  | [], [], _ => h'
  | _ :: _, _ :: _, ⟨e, r⟩ => ⟨e, PairsIn.append h' r⟩
theorem PairsIn.one {R : List (Addr × Obj)} {T : Addr} {t t' : Tok} {n : Nat} {c : List Nat} {k : Int} (h : (T, W.listOf #[.str (tx c) t, .int k t'] n) ∈ R) : PairsIn R [.ref T] [(c, k)] := ⟨⟨T, t, t', n, rfl, h⟩, trivial⟩
theorem PairsIn.len {R : List (Addr × Obj)} : ∀ {vs : List Value} {cs : List (List Nat × Int)}, PairsIn R vs cs → vs.length = cs.length
  | [], [], _ => rfl
  | _ :: _, _ :: _, ⟨_, r⟩ => congrArg (· + 1) (PairsIn.len r)
inductive PairAt (R : List (Addr × Obj)) (cs : List (List Nat × Int)) (i : Nat) (v : Value) : Prop
  | mk (c : List Nat × Int) (hc : cs[i]? = some c) (T : Addr) (t t' : Tok) (n : Nat) (hv : v = .ref T) (hm : (T, W.listOf #[.str (tx c.1) t, .int c.2 t'] n) ∈ R) : PairAt R cs i v
theorem PairsIn.at {R : List (Addr × Obj)} {vs : List Value} : ∀ {cs : List (List Nat × Int)} {i : Nat} {v : Value}, PairsIn R vs cs → vs[i]? = some v → PairAt R cs i v := by
  induction vs with
  | nil => intro _ _ _ _ h; cases h
  | cons x vs ih =>
    intro cs i v hc h
    cases cs with
    | nil => exact hc.elim
    | cons c cs =>
      cases i with
      | zero =>
        obtain ⟨T, t, t', n, e, hm⟩ := hc.1
        exact ⟨c, rfl, T, t, t', n, (Option.some.inj h).symm.trans e, hm⟩
      | succ i => obtain ⟨c', hc', T, t, t', n, e, hm⟩ := ih (i := i) hc.2 h; exact ⟨c', hc', T, t, t', n, e, hm⟩
theorem far_all {I a : Nat} {R : List (Addr × Obj)} (h : ∀ p ∈ R, @LT.lt Nat _ (I + 4) p.1) (ha : a ≤ I + 4) : ∀ p ∈ R, p.1 ≠ a := fun p hp e => Nat.lt_irrefl _ (Nat.lt_of_lt_of_le (h p hp) (e ▸ ha))
noncomputable def endN (I lZ lE D a0 a1 a2 c : Addr) (o4 o2 o3 o0 o1 oZ oT : Obj) (refs : List Value) (n nD n0 n1 n2 : Nat) (v0 v1 v2 : List Value) (R : List (Addr × Obj)) : List (Addr × Obj) :=
  (I + 4, o4) :: (I + 2, o2) :: (I + 3, o3) :: (I, o0) :: (I + 1, o1) :: (lZ, oZ) :: (lE, W.listOf refs.toArray n) :: (D, W.listOf #[Value.ref a0, Value.ref a1, Value.ref a2] nD) :: (a0, W.listOf v0.toArray n0) :: (a1, W.listOf v1.toArray n1) :: (a2, W.listOf v2.toArray n2) :: (c, oT) :: R
inductive EndJ (I lZ lE D a0 a1 a2 c : Addr) (o4 o2 o3 o0 o1 oZ oT : Obj) (nD n0 n1 n2 : Nat) (v0 v1 v2 : List Value) (a : Addr) (x : Value) (E : List (List Nat × Int)) (m : Str → Option Value) (nx : List (Addr × Obj)) : Prop
  | mk (refs : List Value) (n : Nat) (R : List (Addr × Obj)) (h1 : m (Str.ofString "ends") = some (.ref lE)) (h2 : m (Str.ofString "stalk") = some x) (h3 : m (Str.ofString "row") = some (.ref a))
    (h4 : nx = endN I lZ lE D a0 a1 a2 c o4 o2 o3 o0 o1 oZ oT refs n nD n0 n1 n2 v0 v1 v2 R) (h5 : ∀ p ∈ R, @LT.lt Nat _ (I + 4) p.1) (h6 : PairsIn R refs E) : EndJ I lZ lE D a0 a1 a2 c o4 o2 o3 o0 o1 oZ oT nD n0 n1 n2 v0 v1 v2 a x E m nx
inductive NmJ (lE : Addr) (c : List Nat × Int) (t t' : Tok) (nx₀ : List (Addr × Obj)) (m : Str → Option Value) (nx : List (Addr × Obj)) : Prop
  | mk (h1 : m (Str.ofString "ends") = some (.ref lE)) (h2 : m (Str.ofString "name") = some (.str (tx c.1) t)) (h3 : m (Str.ofString "worth") = some (.int c.2 t')) (e : nx = nx₀) : NmJ lE c t t' nx₀ m nx
inductive XyJ (E : List (List Nat × Int)) (q : Nat) (x y : Value) : Prop
  | mk (c : List Nat × Int) (t t' : Tok) (hc : E[q]? = some c) (hx : x = .str (tx c.1) t) (hy : y = .int c.2 t') : XyJ E q x y
noncomputable def endsAll (one two three : List Nat) (A B C : List Int) : List (List Nat × Int) := endsL one A ++ endsL two B ++ endsL three C
noncomputable def ltE (E : List (List Nat × Int)) (i j : Nat) : Bool := decide ((E.getD i ([], 0)).1 < (E.getD j ([], 0)).1)
noncomputable def sortE (E : List (List Nat × Int)) : Option (Array Nat) := kasRun E.length (ltE E) (kas_sort E.length)
end Mine
end
section
open PySem PySem.W PyProof.Rows
namespace Mine
theorem fr_at {h₀ h : Heap} {L : Addr} {m : Str → Option Value} {x : Str} {v : Value} (F : Fr h₀ L h m) (hx : m x = some v) : Fr h₀ L h (fun z => if z = x then some v else m z) := by
  rw [← map1 hx]; exact F
section
variable {w : World} {s₀ : Shared} {mg mb : Str → Option Value} {news : List (Addr × Obj)} {t : Tok} {dp un : Nat} {gd : Option (List Code)} {cn : Str} {cs : Scope} {a : Addr} {ccd : Value} {cl : List (Str × Addr)} {outer : List Env} {A₀ : Around} {base h₀ : Heap} {L : Addr} {m : Str → Option Value} {s : Shared} {Q E : Value → Shared → Prop}
theorem drawn_use {code : Int} {l : List Nat} (hl : drawnL code = l) (B : Below A₀ base outer h₀) (F : Fr h₀ L s.heap m) (X : (hd.heap_39 w.params).In h₀) (N : News h₀ L s.heap news) (T : Top hd.view_39 (looseW hd.view_39 [Str.ofString "EXACT_TOKEN_TYPES"]) (ExcName.means s₀.heap) mg mb h₀) (hk : cs.kind = .function)
    (hd1 : dp + 1 < recursionLimit) (hu : un + 8 < cLine) (h : ∀ t h' tk', Fr h₀ L h' m → News h₀ L h' news → Q (.str (tx l) t) { s with heap := h', toks := tk' }) :
    wpAny (model PySem.Challenge.rw_xg0038_01.row.prog w) (ktrTop dp un gd cn cs L a ccd cl outer) (call (.ref 87) [.int code t]) Q E s := by
  subst hl
  have := drawn_ok w s₀ mg mb news code t
  dsimp only [CbClaim, CbLists, CbRet] at this
  exact this _ _ _ _ _ _ _ _ _ _ _ _ _ _ _ _ _ B F X N T hk trivial hd1 hu h
theorem written_use {goal : Int} {l : List Nat} (hl : writtenL goal = some l) (B : Below A₀ base outer h₀) (F : Fr h₀ L s.heap m) (X : (hd.heap_39 w.params).In h₀) (N : News h₀ L s.heap news) (T : Top hd.view_39 (looseW hd.view_39 [Str.ofString "EXACT_TOKEN_TYPES"]) (ExcName.means s₀.heap) mg mb h₀) (hk : cs.kind = .function)
    (hd1 : dp + 1 < recursionLimit) (hu : un + 8 < cLine) (h : ∀ t h' tk', Fr h₀ L h' m → News h₀ L h' news → Q (.str (tx l) t) { s with heap := h', toks := tk' }) :
    wpAny (model PySem.Challenge.rw_xg0038_01.row.prog w) (ktrTop dp un gd cn cs L a ccd cl outer) (call (.ref 94) [.int goal t]) Q E s := by
  have := written_ok w s₀ mg mb news goal t l hl
  dsimp only [CbClaim, CbLists, CbRet] at this
  exact this _ _ _ _ _ _ _ _ _ _ _ _ _ _ _ _ _ B F X N T hk trivial hd1 hu h
theorem RowsAre.two {rs : List RowE} {A B : List Int} (h : RowsAre rs [A, B]) : ∃ a v n a' v' n', rs = [(a, v, n), (a', v', n')] ∧ IntsAre v A ∧ IntsAre v' B := by
  match rs, h with
  | [(a, v, n), (a', v', n')], ⟨h1, h2, _⟩ => exact ⟨a, v, n, a', v', n', rfl, h1, h2⟩
theorem RowsAre.three {rs : List RowE} {A B C : List Int} (h : RowsAre rs [A, B, C]) : ∃ a v n a' v' n' a'' v'' n'', rs = [(a, v, n), (a', v', n'), (a'', v'', n'')] ∧ IntsAre v A ∧ IntsAre v' B ∧ IntsAre v'' C := by
  match rs, h with
  | [(a, v, n), (a', v', n'), (a'', v'', n'')], ⟨h1, h2, h3, _⟩ => exact ⟨a, v, n, a', v', n', a'', v'', n'', rfl, h1, h2, h3⟩
theorem read2_use {l : List Nat} {R S : List Int} (hr : readL l = [R, S]) (hl : ∀ c ∈ l, c = 43 ∨ c = 45 ∨ c = 44) (hz : l.length ≤ 100) (B : Below A₀ base outer h₀) (F : Fr h₀ L s.heap m) (X : (hd.heap_39 w.params).In h₀) (N : News h₀ L s.heap news) (T : Top hd.view_39 (looseW hd.view_39 [Str.ofString "EXACT_TOKEN_TYPES"]) (ExcName.means s₀.heap) mg mb h₀) (hk : cs.kind = .function)
    (hd1 : dp + 10 < recursionLimit) (hu : un + 80 < cLine)
    (h : ∀ h' tk' D nD a0 v0 n0 a1 v1 n1, Fr h₀ L h' m → News h₀ L h' ((D, W.listOf #[Value.ref a0, Value.ref a1] nD) :: (a0, W.listOf v0.toArray n0) :: (a1, W.listOf v1.toArray n1) :: news) → IntsAre v0 R → IntsAre v1 S → Q (.ref D) { s with heap := h', toks := tk' }) :
    wpAny (model PySem.Challenge.rw_xg0038_01.row.prog w) (ktrTop dp un gd cn cs L a ccd cl outer) (call (.ref 99) [.str (tx l) t]) Q (fun _ _ => False) s := by
  refine read_ok w s₀ mg mb l hl hz t dp un gd cn cs a ccd cl outer A₀ base h₀ L m news s Q B F X N T hk hd1 hu ?_
  intro h' tk' D nD rs F' N' R' _ _
  rw [hr] at R'
  obtain ⟨a, v, n, a', v', n', rfl, h1, h2⟩ := R'.two
  exact h h' tk' D nD a v n a' v' n' F' N' h1 h2
theorem read3_use {l : List Nat} {R S U : List Int} (hr : readL l = [R, S, U]) (hl : ∀ c ∈ l, c = 43 ∨ c = 45 ∨ c = 44) (hz : l.length ≤ 100) (B : Below A₀ base outer h₀) (F : Fr h₀ L s.heap m) (X : (hd.heap_39 w.params).In h₀) (N : News h₀ L s.heap news) (T : Top hd.view_39 (looseW hd.view_39 [Str.ofString "EXACT_TOKEN_TYPES"]) (ExcName.means s₀.heap) mg mb h₀) (hk : cs.kind = .function)
    (hd1 : dp + 10 < recursionLimit) (hu : un + 80 < cLine)
    (h : ∀ h' tk' D nD a0 v0 n0 a1 v1 n1 a2 v2 n2, Fr h₀ L h' m → News h₀ L h' ((D, W.listOf #[Value.ref a0, Value.ref a1, Value.ref a2] nD) :: (a0, W.listOf v0.toArray n0) :: (a1, W.listOf v1.toArray n1) :: (a2, W.listOf v2.toArray n2) :: news) → IntsAre v0 R → IntsAre v1 S → IntsAre v2 U →
      (∀ q ∈ news, @LT.lt Nat _ q.1 D ∧ @LT.lt Nat _ q.1 a0 ∧ @LT.lt Nat _ q.1 a1 ∧ @LT.lt Nat _ q.1 a2) → Q (.ref D) { s with heap := h', toks := tk' }) :
    wpAny (model PySem.Challenge.rw_xg0038_01.row.prog w) (ktrTop dp un gd cn cs L a ccd cl outer) (call (.ref 99) [.str (tx l) t]) Q (fun _ _ => False) s := by
  refine read_ok w s₀ mg mb l hl hz t dp un gd cn cs a ccd cl outer A₀ base h₀ L m news s Q B F X N T hk hd1 hu ?_
  intro h' tk' D nD rs F' N' R' l1 l2
  rw [hr] at R'
  obtain ⟨a, v, n, a', v', n', a'', v'', n'', rfl, h1, h2, h3⟩ := R'.three
  exact h h' tk' D nD a v n a' v' n' a'' v'' n'' F' N' h1 h2 h3 fun q hq => ⟨l1 q hq, l2 q hq _ List.mem_cons_self, l2 q hq _ (List.mem_cons_of_mem _ List.mem_cons_self), l2 q hq _ (List.mem_cons_of_mem _ (List.mem_cons_of_mem _ List.mem_cons_self))⟩
end
/-- what the plain law says of three stalks and their rows -/
noncomputable def upK (A B C : List Int) (n : Int) : Bool := decide (0 - C.getD (n % 8).toNat 0 < A.getD (n / 64).toNat 0 + B.getD (n / 8 % 8).toNat 0)
noncomputable def dnK (A B C : List Int) (n : Int) : Bool := decide (A.getD (n / 64).toNat 0 + B.getD (n / 8 % 8).toNat 0 < 0 - C.getD (n % 8).toNat 0)
inductive OrdOk (E : List (List Nat × Int)) : Prop
  | mk (P : Array Nat) (h1 : sortE E = some P) (h2 : P.toList.Perm (List.range E.length)) (h3 : (P.toList.map fun i => (E.getD i ([], 0)).2).Pairwise (fun x y => y ≤ x)) : OrdOk E
structure LawOk (one two three : List Nat) (A B C : List Int) : Prop where
  s1 : ∀ c ∈ one, c = 43 ∨ c = 45
  s2 : ∀ c ∈ two, c = 43 ∨ c = 45
  s3 : ∀ c ∈ three, c = 43 ∨ c = 45
  z1 : one.length ≤ 7
  z2 : two.length ≤ 7
  z3 : three.length ≤ 7
  rd2 : readL (one ++ [44] ++ two) = [A, B]
  rd3 : readL (one ++ [44] ++ two ++ [44] ++ three) = [A, B, C]
  la : A.length = one.length + 1
  lb : B.length = two.length + 1
  lc : C.length = three.length + 1
  wr : writtenL (-(A.getLastD 0 + B.getLastD 0)) = some three
  zero : A.getLastD 0 + B.getLastD 0 + C.getLastD 0 = 0
  fair : ∀ i j k, i ≤ one.length → j ≤ two.length → k ≤ three.length → upK A B C (pkey i j k) = (!decide (upsL 43 (dnK A B C) (cutsAll one two three i j k) = [])) ∧ dnK A B C (pkey i j k) = (!decide (upsL 45 (upK A B C) (cutsAll one two three i j k) = []))
  coll : ∀ c ∈ endsAll one two three A B C, ∀ c' ∈ endsAll one two three A B C, decide (c.1 < c'.1) = decide (c'.2 < c.2)
  ord : OrdOk (endsAll one two three A B C)
theorem item_gotN {prog : Program} {w : World} {A : Around} {E : Value → Shared → Prop} {s : Shared} {h₀ : Heap} {L : Addr} {nx : List (Addr × Obj)} {value slice : PySem.Expr} {l : Addr} {items : Array Value} {n : Nat} {k : Int} {u : Tok} {x : Value} {Q : Value → Shared → Prop} (N : News h₀ L s.heap nx) (hm : (l, W.listOf items n) ∈ nx) (h0 : 0 ≤ k) (hfit : k < 2 ^ 63) (hx : items[k.toNat]? = some x) (h : Q x s)
    (hs : subscripted slice false (.ref l) (.int k u) = operate [.ref l, .int k u] (getItem (.ref l) (.int k u)) := by with_unfolding_all rfl) :
    wpAny (model prog w) A (subscriptTail value slice (.ref l) (.int k u)) Q E s := item_got (N _ hm).1 h0 hfit hx h hs
theorem int_gotN {prog : Program} {w : World} {A : Around} {E : Value → Shared → Prop} {s : Shared} {h₀ : Heap} {L : Addr} {nx : List (Addr × Obj)} {value slice : PySem.Expr} {l : Addr} {vs : List Value} {ns : List Int} {n : Nat} {i : Nat} {u : Tok} {Q : Value → Shared → Prop} (N : News h₀ L s.heap nx) (hm : (l, W.listOf vs.toArray n) ∈ nx) (hi : IntsAre vs ns) (h0 : i < ns.length) (h1 : i < 1000) (h : ∀ t, Q (.int (ns.getD i 0) t) s)
    (hs : subscripted slice false (.ref l) (.int (i : Int) u) = operate [.ref l, .int (i : Int) u] (getItem (.ref l) (.int (i : Int) u)) := by with_unfolding_all rfl) :
    wpAny (model prog w) A (subscriptTail value slice (.ref l) (.int (i : Int) u)) Q E s := by
  obtain ⟨t, ht⟩ := hi.get i (ns.getD i 0) (by rw [List.getD_eq_getElem?_getD, List.getElem?_eq_getElem h0]; rfl)
  exact item_got (x := .int (ns.getD i 0) t) (N _ hm).1 (by omega) (by omega) (by simpa using ht) (h t) hs
noncomputable def baseN (d D a0 a1 a2 c : Addr) (od oT : Obj) (nD n0 n1 n2 : Nat) (v0 v1 v2 : List Value) (R : List (Addr × Obj)) : List (Addr × Obj) := (d, od) :: (D, W.listOf #[Value.ref a0, Value.ref a1, Value.ref a2] nD) :: (a0, W.listOf v0.toArray n0) :: (a1, W.listOf v1.toArray n1) :: (a2, W.listOf v2.toArray n2) :: (c, oT) :: R
inductive Lv (one two three : List Nat) (D d : Addr) (nx₀ : List (Addr × Obj)) (m : Str → Option Value) (nx : List (Addr × Obj)) : Prop
  | mk (t1 t2 t3 : Tok) (h1 : m (Str.ofString "one") = some (.str (tx one) t1)) (h2 : m (Str.ofString "two") = some (.str (tx two) t2)) (h3 : m (Str.ofString "three") = some (.str (tx three) t3)) (h4 : m (Str.ofString "rows") = some (.ref D)) (h5 : m (Str.ofString "won") = some (.ref d)) (e : nx = nx₀) : Lv one two three D d nx₀ m nx
inductive LvI (one two three : List Nat) (D d : Addr) (i : Nat) (nx₀ : List (Addr × Obj)) (m : Str → Option Value) (nx : List (Addr × Obj)) : Prop
  | mk (t1 t2 t3 : Tok) (h1 : m (Str.ofString "one") = some (.str (tx one) t1)) (h2 : m (Str.ofString "two") = some (.str (tx two) t2)) (h3 : m (Str.ofString "three") = some (.str (tx three) t3)) (h4 : m (Str.ofString "rows") = some (.ref D)) (h5 : m (Str.ofString "won") = some (.ref d)) (ti : Tok) (h6 : m (Str.ofString "i") = some (.int (i : Int) ti)) (e : nx = nx₀) : LvI one two three D d i nx₀ m nx
inductive LvJ (one two three : List Nat) (D d : Addr) (i j : Nat) (nx₀ : List (Addr × Obj)) (m : Str → Option Value) (nx : List (Addr × Obj)) : Prop
  | mk (t1 t2 t3 : Tok) (h1 : m (Str.ofString "one") = some (.str (tx one) t1)) (h2 : m (Str.ofString "two") = some (.str (tx two) t2)) (h3 : m (Str.ofString "three") = some (.str (tx three) t3)) (h4 : m (Str.ofString "rows") = some (.ref D)) (h5 : m (Str.ofString "won") = some (.ref d)) (ti : Tok) (h6 : m (Str.ofString "i") = some (.int (i : Int) ti)) (tj : Tok) (h7 : m (Str.ofString "j") = some (.int (j : Int) tj)) (e : nx = nx₀) : LvJ one two three D d i j nx₀ m nx
inductive SumsJ (lS l : Addr) (x : Addr × Obj) (m : Str → Option Value) (nx : List (Addr × Obj)) : Prop
  | mk (a b : Int) (ta tb : Tok) (n : Nat) (h1 : m (Str.ofString "sums") = some (.ref lS)) (h2 : m (Str.ofString "script") = some (.ref l)) (e : nx = [(lS, W.listOf #[.int a ta, .int b tb] n), x]) : SumsJ lS l x m nx
inductive Plain (a b : Int) : Prop
  | mk (one two three : List Nat) (A B C : List Int) (h1 : drawnL a = one) (h2 : drawnL b = two) (ok : LawOk one two three A B C) : Plain a b
theorem ne_bools {prog : Program} {w : World} {A : Around} {E : Value → Shared → Prop} {s : Shared} {a b : Addr} {n k : Nat} {p q : Bool} {Q : Value → Shared → Prop} (ha : s.heap.get? a = some (W.listOf #[.bool p, .bool q] n)) (hb : s.heap.get? b = some (W.listOf #[.bool p, .bool q] k)) (hu : A.units + 8 < cLine) (h : Q (.bool false) s) :
    wpAny (model prog w) A (compareOp .NotEq (.ref a) (.ref b)) Q E s := by
  have ra : ∀ {c : Addr} {j : Nat}, s.heap.get? c = some (W.listOf #[.bool p, .bool q] j) → Reads s.heap (.ref c) (.list [.bool p, .bool q]) [c] := fun hc => .list hc rfl rfl (.cons (.bool p) (.cons (.bool q) .nil))
  refine SeqAt.compareNe_reads (ra ha) (ra hb) (by cases p <;> cases q <;> rfl) (by cases p <;> cases q <;> rfl) (Nat.lt_of_le_of_lt ?_ hu) ?_
  · exact Nat.add_le_add_left (by cases p <;> cases q <;> decide) _
  · have : (!PyData.eqv (.list [.bool p, .bool q]) (.list [.bool p, .bool q])) = false := by cases p <;> cases q <;> rfl
    rw [this]; exact h
theorem upK_at {A B C : List Int} {i j k : Nat} (hj : j ≤ 7) (hk : k ≤ 7) : upK A B C (pkey i j k) = decide (0 - C.getD k 0 < A.getD i 0 + B.getD j 0) := by
  unfold upK pkey
  rw [show ((((i : Int) * 8 + j) * 8 + k) % 8).toNat = k by omega, show ((((i : Int) * 8 + j) * 8 + k) / 64).toNat = i by omega, show ((((i : Int) * 8 + j) * 8 + k) / 8 % 8).toNat = j by omega]
theorem dnK_at {A B C : List Int} {i j k : Nat} (hj : j ≤ 7) (hk : k ≤ 7) : dnK A B C (pkey i j k) = decide (A.getD i 0 + B.getD j 0 < 0 - C.getD k 0) := by
  unfold dnK pkey
  rw [show ((((i : Int) * 8 + j) * 8 + k) % 8).toNat = k by omega, show ((((i : Int) * 8 + j) * 8 + k) / 64).toNat = i by omega, show ((((i : Int) * 8 + j) * 8 + k) / 8 % 8).toNat = j by omega]
theorem mem10 {α : Type} {x a b c d e f g h i j : α} {R : List α} (hx : x ∈ R) : x ∈ a :: b :: c :: d :: e :: f :: g :: h :: i :: j :: R := by
  simp [hx]
theorem sgn2 {l : List Nat} (h : ∀ c ∈ l, c = 43 ∨ c = 45) : ∀ c ∈ l, c = 43 ∨ c = 45 ∨ c = 44 := fun c q => (h c q).elim .inl (fun e => .inr (.inl e))
theorem sgn_app {l l' : List Nat} (h : ∀ c ∈ l, c = 43 ∨ c = 45 ∨ c = 44) (h' : ∀ c ∈ l', c = 43 ∨ c = 45 ∨ c = 44) : ∀ c ∈ l ++ l', c = 43 ∨ c = 45 ∨ c = 44 := fun c q => (List.mem_append.mp q).elim (h c) (h' c)
theorem sgn_44 : ∀ c ∈ [44], c = 43 ∨ c = 45 ∨ c = 44 := by decide
end Mine
end
section
open PySem PySem.W PyProof.Rows
namespace Mine
theorem kasRun_congr {α : Type} {n : Nat} {lt lt' : Nat → Nat → Bool} (h : ∀ i j, i < n → j < n → lt i j = lt' i j) : ∀ T : KasT α, kasRun n lt T = kasRun n lt' T
  | .ret _ => rfl
  | .ask i j k => by
    unfold kasRun
    by_cases hij : i < n ∧ j < n
    · rw [if_pos hij, if_pos hij, h i j hij.1 hij.2]
      exact kasRun_congr h _
    · rw [if_neg hij, if_neg hij]
noncomputable def signsB (l : List Nat) : Bool := l.all fun c => Nat.beq c 43 || Nat.beq c 45
noncomputable def ltL : List Nat → List Nat → Bool
  | [], [] => false
  | [], _ :: _ => true
  | _ :: _, [] => false
  | a :: as, b :: bs => Nat.blt a b || (Nat.beq a b && ltL as bs)
theorem ltL_eq : ∀ a b : List Nat, ltL a b = decide (a < b)
  | [], [] => by simp [ltL]
  | [], _ :: _ => by simp [ltL]
  | _ :: _, [] => by simp [ltL]
  | a :: as, b :: bs => by
    unfold ltL
    rw [ltL_eq as bs, Bool.eq_iff_iff]
    simp [List.cons_lt_cons_iff, Nat.blt_eq, Nat.beq_eq]
noncomputable def upB (A B C : List Int) (i j k : Nat) : Bool := decide (0 - C.getD k 0 < A.getD i 0 + B.getD j 0)
noncomputable def dnB (A B C : List Int) (i j k : Nat) : Bool := decide (A.getD i 0 + B.getD j 0 < 0 - C.getD k 0)
noncomputable def cutB (s : Nat) (g : Nat → Nat → Nat → Bool) (one two three : List Nat) (i j k : Nat) : Bool :=
  ((List.range i).any fun p => Nat.beq (one.getD p 0) s && !g p j k) || (((List.range j).any fun p => Nat.beq (two.getD p 0) s && !g i p k) || (List.range k).any fun p => Nat.beq (three.getD p 0) s && !g i j p)
noncomputable def fairB (one two three : List Nat) (A B C : List Int) : Bool :=
  (List.range (one.length + 1)).all fun i => (List.range (two.length + 1)).all fun j => (List.range (three.length + 1)).all fun k =>
    (upB A B C i j k == cutB 43 (dnB A B C) one two three i j k) && (dnB A B C i j k == cutB 45 (upB A B C) one two three i j k)
theorem ups_any (s : Nat) (g : Int → Bool) : ∀ cs : List (Nat × Int), (!decide (upsL s g cs = [])) = cs.any fun c => Nat.beq c.1 s && !g c.2
  | [] => rfl
  | c :: cs => by
    have ih := ups_any s g cs
    have e : (c.1 == s) = Nat.beq c.1 s := by rw [Bool.eq_iff_iff, beq_iff_eq, Nat.beq_eq]
    unfold upsL at ih ⊢
    rw [List.filter_cons, List.any_cons, ← ih, e]
    cases Nat.beq c.1 s && !g c.2 <;> rfl
theorem cuts_any {l : List Nat} {key : Nat → Int} {n s : Nat} {g : Int → Bool} {g' : Nat → Bool} (h : ∀ p, p < n → g (key p) = g' p) : ((cutsOf l key n).any fun c => Nat.beq c.1 s && !g c.2) = (List.range n).any fun p => Nat.beq (l.getD p 0) s && !g' p := by
  unfold cutsOf
  rw [List.any_map, Bool.eq_iff_iff, List.any_eq_true, List.any_eq_true]
  exact ⟨fun ⟨p, hp, e⟩ => ⟨p, hp, by rw [← h p (List.mem_range.mp hp)]; exact e⟩, fun ⟨p, hp, e⟩ => ⟨p, hp, by rw [← h p (List.mem_range.mp hp)] at e; exact e⟩⟩
theorem all_any {s : Nat} {g : Int → Bool} {g' : Nat → Nat → Nat → Bool} {one two three : List Nat} {i j k : Nat} (hj : j ≤ 7) (hk : k ≤ 7) (h : ∀ a b e, b ≤ 7 → e ≤ 7 → g (pkey a b e) = g' a b e) : (!decide (upsL s g (cutsAll one two three i j k) = [])) = cutB s g' one two three i j k := by
  rw [ups_any, List.any_append, List.any_append, cuts_any (fun p _ => h p j k hj hk), cuts_any (fun p hp => h i p k (by omega) hk), cuts_any (fun p hp => h i j p hj (by omega)), Bool.or_assoc]
  rfl
noncomputable def collB (E : List (List Nat × Int)) : Bool := E.all fun c => E.all fun c' => ltL c.1 c'.1 == decide (c'.2 < c.2)
noncomputable def ltW (E : List (List Nat × Int)) (i j : Nat) : Bool := decide ((E.getD j ([], 0)).2 < (E.getD i ([], 0)).2)
noncomputable def ordB (E : List (List Nat × Int)) : Bool :=
  match kasRun E.length (ltW E) (kas_sort E.length) with
  | none => false
  | some P => P.toList.isPerm (List.range E.length) && decide ((P.toList.map fun i => (E.getD i ([], 0)).2).Pairwise (fun x y => y ≤ x))
noncomputable def chkLit (one two three : List Nat) (A B C : List Int) (E : List (List Nat × Int)) : Bool :=
  signsB one && signsB two && signsB three && Nat.ble one.length 7 && Nat.ble two.length 7 && Nat.ble three.length 7 &&
  decide (readL (one ++ [44] ++ two) = [A, B]) && decide (writtenL (-(A.getLastD 0 + B.getLastD 0)) = some three) && decide (readL (one ++ [44] ++ two ++ [44] ++ three) = [A, B, C]) &&
  Nat.beq A.length (one.length + 1) && Nat.beq B.length (two.length + 1) && Nat.beq C.length (three.length + 1) && decide (A.getLastD 0 + B.getLastD 0 + C.getLastD 0 = 0) &&
  decide (endsAll one two three A B C = E) && fairB one two three A B C && collB E && ordB E
theorem signsB_ok {l : List Nat} (h : signsB l = true) : ∀ c ∈ l, c = 43 ∨ c = 45 := fun c hc => by
  have := List.all_eq_true.mp h c hc
  simpa using this
theorem chkLit_ok {one two three : List Nat} {A B C : List Int} {E : List (List Nat × Int)} (h : chkLit one two three A B C E = true) : LawOk one two three A B C := by
  simp only [chkLit, Bool.and_eq_true, Nat.ble_eq, Nat.beq_eq, decide_eq_true_eq] at h
  obtain ⟨⟨⟨⟨⟨⟨⟨⟨⟨⟨⟨⟨⟨⟨⟨⟨s1, s2⟩, s3⟩, z1⟩, z2⟩, z3⟩, rd2⟩, wr⟩, rd3⟩, la⟩, lb⟩, lc⟩, zero⟩, hE⟩, hf⟩, hc⟩, ho⟩ := h
  have hcoll : ∀ c ∈ E, ∀ c' ∈ E, decide (c.1 < c'.1) = decide (c'.2 < c.2) := fun c hc1 c' hc2 => by
    have := List.all_eq_true.mp (List.all_eq_true.mp hc c hc1) c' hc2
    rw [← ltL_eq]
    exact beq_iff_eq.mp this
  refine { s1 := signsB_ok s1, s2 := signsB_ok s2, s3 := signsB_ok s3, z1 := z1, z2 := z2, z3 := z3, rd2 := rd2, rd3 := rd3, la := la, lb := lb, lc := lc, wr := wr, zero := zero, fair := fun i j k hi hj hk => ?_, coll := ?_, ord := ?_ }
  · have h1 := List.all_eq_true.mp (List.all_eq_true.mp (List.all_eq_true.mp hf i (List.mem_range.mpr (by omega))) j (List.mem_range.mpr (by omega))) k (List.mem_range.mpr (by omega))
    rw [Bool.and_eq_true, beq_iff_eq, beq_iff_eq] at h1
    rw [all_any (by omega) (by omega) (fun a b e hb he => dnK_at hb he), all_any (by omega) (by omega) (fun a b e hb he => upK_at hb he), upK_at (by omega) (by omega), dnK_at (by omega) (by omega)]
    exact h1
  · rw [hE]; exact hcoll
  · rw [hE]
    unfold ordB at ho
    have hs : sortE E = kasRun E.length (ltW E) (kas_sort E.length) := kasRun_congr (fun i j hi hj => by
      have m : ∀ i, i < E.length → E.getD i ([], 0) ∈ E := fun i hi => by
        rw [List.getD_eq_getElem?_getD, List.getElem?_eq_getElem hi]; exact List.getElem_mem hi
      exact hcoll _ (m i hi) _ (m j hj)) _
    cases hP : kasRun E.length (ltW E) (kas_sort E.length) with
    | none => rw [hP] at ho; cases ho
    | some P =>
      rw [hP] at ho
      simp only [Bool.and_eq_true, decide_eq_true_eq] at ho
      exact ⟨P, hs.trans hP, List.isPerm_iff.mp ho.1, ho.2⟩
noncomputable abbrev Row := List Nat × List Nat × List Int × List Int × List Int × List (List Nat × Int)
noncomputable def rowOk (one : List Nat) : Row → Bool
  | (two, three, A, B, C, E) => chkLit one two three A B C E
noncomputable def alls : List (List Nat) := [[], [45], [43], [45, 45], [45, 43], [43, 45], [43, 43], [45, 45, 45], [45, 45, 43], [45, 43, 45], [45, 43, 43], [43, 45, 45], [43, 45, 43], [43, 43, 45], [43, 43, 43]]
theorem rows_ok {one : List Nat} {tab : List Row} (h : tab.all (rowOk one) = true) (hf : tab.map (fun r => r.1) = alls) {two : List Nat} (ht : two ∈ alls) : ∃ three A B C, LawOk one two three A B C := by
  rw [← hf] at ht
  obtain ⟨⟨two', three, A, B, C, E⟩, hr, rfl⟩ := List.mem_map.mp ht
  exact ⟨three, A, B, C, chkLit_ok (List.all_eq_true.mp h _ hr)⟩
theorem drawn_alls (a : Int) : drawnL a ∈ alls := by
  unfold drawnL
  have h0 := Int.fmod_nonneg_of_pos a (b := 15) (by decide)
  have h1 := Int.fmod_lt_of_pos a (b := 15) (by decide)
  generalize a.fmod 15 = r at h0 h1
  obtain ⟨n, rfl⟩ := Int.eq_ofNat_of_zero_le h0
  have hn : n < 15 := by omega
  have : ∀ n : Fin 15, drGo 4 ((n.val : Int) + 1) [] ∈ alls := by decide +kernel
  exact this ⟨n, hn⟩
end Mine
end
section
open PySem PySem.W PyProof.Rows
namespace Mine
set_option maxRecDepth 100000
noncomputable def tab0 : List Row := [
  ([], [], [0], [0], [0], [([44], 0), ([44], 0), ([44], 0)]),
  ([45], [43], [0], [0, -4], [0, 4], [([44], 0), ([44], 0), ([45, 44], -4), ([44], 0), ([43, 44], 4)]),
  ([43], [45], [0], [0, 4], [0, -4], [([44], 0), ([44], 0), ([43, 44], 4), ([44], 0), ([45, 44], -4)]),
  ([45, 45], [43, 43], [0], [0, -4, -8], [0, 4, 8], [([44], 0), ([44], 0), ([45, 44], -4), ([45, 45, 44], -8), ([44], 0), ([43, 44], 4), ([43, 43, 44], 8)]),
  ([45, 43], [43, 45], [0], [0, -4, -2], [0, 4, 2], [([44], 0), ([44], 0), ([45, 44], -4), ([45, 43, 44], -2), ([44], 0), ([43, 44], 4), ([43, 45, 44], 2)]),
  ([43, 45], [45, 43], [0], [0, 4, 2], [0, -4, -2], [([44], 0), ([44], 0), ([43, 44], 4), ([43, 45, 44], 2), ([44], 0), ([45, 44], -4), ([45, 43, 44], -2)]),
  ([43, 43], [45, 45], [0], [0, 4, 8], [0, -4, -8], [([44], 0), ([44], 0), ([43, 44], 4), ([43, 43, 44], 8), ([44], 0), ([45, 44], -4), ([45, 45, 44], -8)]),
  ([45, 45, 45], [43, 43, 43], [0], [0, -4, -8, -12], [0, 4, 8, 12], [([44], 0), ([44], 0), ([45, 44], -4), ([45, 45, 44], -8), ([45, 45, 45, 44], -12), ([44], 0), ([43, 44], 4), ([43, 43, 44], 8), ([43, 43, 43, 44], 12)]),
  ([45, 45, 43], [43, 43, 45], [0], [0, -4, -8, -6], [0, 4, 8, 6], [([44], 0), ([44], 0), ([45, 44], -4), ([45, 45, 44], -8), ([45, 45, 43, 44], -6), ([44], 0), ([43, 44], 4), ([43, 43, 44], 8), ([43, 43, 45, 44], 6)]),
  ([45, 43, 45], [43, 45, 43], [0], [0, -4, -2, -3], [0, 4, 2, 3], [([44], 0), ([44], 0), ([45, 44], -4), ([45, 43, 44], -2), ([45, 43, 45, 44], -3), ([44], 0), ([43, 44], 4), ([43, 45, 44], 2), ([43, 45, 43, 44], 3)]),
  ([45, 43, 43], [43, 45, 45], [0], [0, -4, -2, -1], [0, 4, 2, 1], [([44], 0), ([44], 0), ([45, 44], -4), ([45, 43, 44], -2), ([45, 43, 43, 44], -1), ([44], 0), ([43, 44], 4), ([43, 45, 44], 2), ([43, 45, 45, 44], 1)]),
  ([43, 45, 45], [45, 43, 43], [0], [0, 4, 2, 1], [0, -4, -2, -1], [([44], 0), ([44], 0), ([43, 44], 4), ([43, 45, 44], 2), ([43, 45, 45, 44], 1), ([44], 0), ([45, 44], -4), ([45, 43, 44], -2), ([45, 43, 43, 44], -1)]),
  ([43, 45, 43], [45, 43, 45], [0], [0, 4, 2, 3], [0, -4, -2, -3], [([44], 0), ([44], 0), ([43, 44], 4), ([43, 45, 44], 2), ([43, 45, 43, 44], 3), ([44], 0), ([45, 44], -4), ([45, 43, 44], -2), ([45, 43, 45, 44], -3)]),
  ([43, 43, 45], [45, 45, 43], [0], [0, 4, 8, 6], [0, -4, -8, -6], [([44], 0), ([44], 0), ([43, 44], 4), ([43, 43, 44], 8), ([43, 43, 45, 44], 6), ([44], 0), ([45, 44], -4), ([45, 45, 44], -8), ([45, 45, 43, 44], -6)]),
  ([43, 43, 43], [45, 45, 45], [0], [0, 4, 8, 12], [0, -4, -8, -12], [([44], 0), ([44], 0), ([43, 44], 4), ([43, 43, 44], 8), ([43, 43, 43, 44], 12), ([44], 0), ([45, 44], -4), ([45, 45, 44], -8), ([45, 45, 45, 44], -12)])]
theorem row0 : tab0.all (rowOk []) = true := by decide +kernel
theorem fst0 : tab0.map (fun r => r.1) = alls := by decide +kernel
noncomputable def tab1 : List Row := [
  ([], [43], [0, -4], [0], [0, 4], [([44], 0), ([45, 44], -4), ([44], 0), ([44], 0), ([43, 44], 4)]),
  ([45], [43, 43], [0, -4], [0, -4], [0, 4, 8], [([44], 0), ([45, 44], -4), ([44], 0), ([45, 44], -4), ([44], 0), ([43, 44], 4), ([43, 43, 44], 8)]),
  ([43], [], [0, -4], [0, 4], [0], [([44], 0), ([45, 44], -4), ([44], 0), ([43, 44], 4), ([44], 0)]),
  ([45, 45], [43, 43, 43], [0, -4], [0, -4, -8], [0, 4, 8, 12], [([44], 0), ([45, 44], -4), ([44], 0), ([45, 44], -4), ([45, 45, 44], -8), ([44], 0), ([43, 44], 4), ([43, 43, 44], 8), ([43, 43, 43, 44], 12)]),
  ([45, 43], [43, 43, 45], [0, -4], [0, -4, -2], [0, 4, 8, 6], [([44], 0), ([45, 44], -4), ([44], 0), ([45, 44], -4), ([45, 43, 44], -2), ([44], 0), ([43, 44], 4), ([43, 43, 44], 8), ([43, 43, 45, 44], 6)]),
  ([43, 45], [43, 45], [0, -4], [0, 4, 2], [0, 4, 2], [([44], 0), ([45, 44], -4), ([44], 0), ([43, 44], 4), ([43, 45, 44], 2), ([44], 0), ([43, 44], 4), ([43, 45, 44], 2)]),
  ([43, 43], [45], [0, -4], [0, 4, 8], [0, -4], [([44], 0), ([45, 44], -4), ([44], 0), ([43, 44], 4), ([43, 43, 44], 8), ([44], 0), ([45, 44], -4)]),
  ([45, 45, 45], [43, 43, 43, 43], [0, -4], [0, -4, -8, -12], [0, 4, 8, 12, 16], [([44], 0), ([45, 44], -4), ([44], 0), ([45, 44], -4), ([45, 45, 44], -8), ([45, 45, 45, 44], -12), ([44], 0), ([43, 44], 4), ([43, 43, 44], 8), ([43, 43, 43, 44], 12), ([43, 43, 43, 43, 44], 16)]),
  ([45, 45, 43], [43, 43, 43, 45], [0, -4], [0, -4, -8, -6], [0, 4, 8, 12, 10], [([44], 0), ([45, 44], -4), ([44], 0), ([45, 44], -4), ([45, 45, 44], -8), ([45, 45, 43, 44], -6), ([44], 0), ([43, 44], 4), ([43, 43, 44], 8), ([43, 43, 43, 44], 12), ([43, 43, 43, 45, 44], 10)]),
  ([45, 43, 45], [43, 43, 45, 43], [0, -4], [0, -4, -2, -3], [0, 4, 8, 6, 7], [([44], 0), ([45, 44], -4), ([44], 0), ([45, 44], -4), ([45, 43, 44], -2), ([45, 43, 45, 44], -3), ([44], 0), ([43, 44], 4), ([43, 43, 44], 8), ([43, 43, 45, 44], 6), ([43, 43, 45, 43, 44], 7)]),
  ([45, 43, 43], [43, 43, 45, 45], [0, -4], [0, -4, -2, -1], [0, 4, 8, 6, 5], [([44], 0), ([45, 44], -4), ([44], 0), ([45, 44], -4), ([45, 43, 44], -2), ([45, 43, 43, 44], -1), ([44], 0), ([43, 44], 4), ([43, 43, 44], 8), ([43, 43, 45, 44], 6), ([43, 43, 45, 45, 44], 5)]),
  ([43, 45, 45], [43, 45, 43], [0, -4], [0, 4, 2, 1], [0, 4, 2, 3], [([44], 0), ([45, 44], -4), ([44], 0), ([43, 44], 4), ([43, 45, 44], 2), ([43, 45, 45, 44], 1), ([44], 0), ([43, 44], 4), ([43, 45, 44], 2), ([43, 45, 43, 44], 3)]),
  ([43, 45, 43], [43, 45, 45], [0, -4], [0, 4, 2, 3], [0, 4, 2, 1], [([44], 0), ([45, 44], -4), ([44], 0), ([43, 44], 4), ([43, 45, 44], 2), ([43, 45, 43, 44], 3), ([44], 0), ([43, 44], 4), ([43, 45, 44], 2), ([43, 45, 45, 44], 1)]),
  ([43, 43, 45], [45, 43], [0, -4], [0, 4, 8, 6], [0, -4, -2], [([44], 0), ([45, 44], -4), ([44], 0), ([43, 44], 4), ([43, 43, 44], 8), ([43, 43, 45, 44], 6), ([44], 0), ([45, 44], -4), ([45, 43, 44], -2)]),
  ([43, 43, 43], [45, 45], [0, -4], [0, 4, 8, 12], [0, -4, -8], [([44], 0), ([45, 44], -4), ([44], 0), ([43, 44], 4), ([43, 43, 44], 8), ([43, 43, 43, 44], 12), ([44], 0), ([45, 44], -4), ([45, 45, 44], -8)])]
theorem row1 : tab1.all (rowOk [45]) = true := by decide +kernel
theorem fst1 : tab1.map (fun r => r.1) = alls := by decide +kernel
noncomputable def tab2 : List Row := [
  ([], [45], [0, 4], [0], [0, -4], [([44], 0), ([43, 44], 4), ([44], 0), ([44], 0), ([45, 44], -4)]),
  ([45], [], [0, 4], [0, -4], [0], [([44], 0), ([43, 44], 4), ([44], 0), ([45, 44], -4), ([44], 0)]),
  ([43], [45, 45], [0, 4], [0, 4], [0, -4, -8], [([44], 0), ([43, 44], 4), ([44], 0), ([43, 44], 4), ([44], 0), ([45, 44], -4), ([45, 45, 44], -8)]),
  ([45, 45], [43], [0, 4], [0, -4, -8], [0, 4], [([44], 0), ([43, 44], 4), ([44], 0), ([45, 44], -4), ([45, 45, 44], -8), ([44], 0), ([43, 44], 4)]),
  ([45, 43], [45, 43], [0, 4], [0, -4, -2], [0, -4, -2], [([44], 0), ([43, 44], 4), ([44], 0), ([45, 44], -4), ([45, 43, 44], -2), ([44], 0), ([45, 44], -4), ([45, 43, 44], -2)]),
  ([43, 45], [45, 45, 43], [0, 4], [0, 4, 2], [0, -4, -8, -6], [([44], 0), ([43, 44], 4), ([44], 0), ([43, 44], 4), ([43, 45, 44], 2), ([44], 0), ([45, 44], -4), ([45, 45, 44], -8), ([45, 45, 43, 44], -6)]),
  ([43, 43], [45, 45, 45], [0, 4], [0, 4, 8], [0, -4, -8, -12], [([44], 0), ([43, 44], 4), ([44], 0), ([43, 44], 4), ([43, 43, 44], 8), ([44], 0), ([45, 44], -4), ([45, 45, 44], -8), ([45, 45, 45, 44], -12)]),
  ([45, 45, 45], [43, 43], [0, 4], [0, -4, -8, -12], [0, 4, 8], [([44], 0), ([43, 44], 4), ([44], 0), ([45, 44], -4), ([45, 45, 44], -8), ([45, 45, 45, 44], -12), ([44], 0), ([43, 44], 4), ([43, 43, 44], 8)]),
  ([45, 45, 43], [43, 45], [0, 4], [0, -4, -8, -6], [0, 4, 2], [([44], 0), ([43, 44], 4), ([44], 0), ([45, 44], -4), ([45, 45, 44], -8), ([45, 45, 43, 44], -6), ([44], 0), ([43, 44], 4), ([43, 45, 44], 2)]),
  ([45, 43, 45], [45, 43, 43], [0, 4], [0, -4, -2, -3], [0, -4, -2, -1], [([44], 0), ([43, 44], 4), ([44], 0), ([45, 44], -4), ([45, 43, 44], -2), ([45, 43, 45, 44], -3), ([44], 0), ([45, 44], -4), ([45, 43, 44], -2), ([45, 43, 43, 44], -1)]),
  ([45, 43, 43], [45, 43, 45], [0, 4], [0, -4, -2, -1], [0, -4, -2, -3], [([44], 0), ([43, 44], 4), ([44], 0), ([45, 44], -4), ([45, 43, 44], -2), ([45, 43, 43, 44], -1), ([44], 0), ([45, 44], -4), ([45, 43, 44], -2), ([45, 43, 45, 44], -3)]),
  ([43, 45, 45], [45, 45, 43, 43], [0, 4], [0, 4, 2, 1], [0, -4, -8, -6, -5], [([44], 0), ([43, 44], 4), ([44], 0), ([43, 44], 4), ([43, 45, 44], 2), ([43, 45, 45, 44], 1), ([44], 0), ([45, 44], -4), ([45, 45, 44], -8), ([45, 45, 43, 44], -6), ([45, 45, 43, 43, 44], -5)]),
  ([43, 45, 43], [45, 45, 43, 45], [0, 4], [0, 4, 2, 3], [0, -4, -8, -6, -7], [([44], 0), ([43, 44], 4), ([44], 0), ([43, 44], 4), ([43, 45, 44], 2), ([43, 45, 43, 44], 3), ([44], 0), ([45, 44], -4), ([45, 45, 44], -8), ([45, 45, 43, 44], -6), ([45, 45, 43, 45, 44], -7)]),
  ([43, 43, 45], [45, 45, 45, 43], [0, 4], [0, 4, 8, 6], [0, -4, -8, -12, -10], [([44], 0), ([43, 44], 4), ([44], 0), ([43, 44], 4), ([43, 43, 44], 8), ([43, 43, 45, 44], 6), ([44], 0), ([45, 44], -4), ([45, 45, 44], -8), ([45, 45, 45, 44], -12), ([45, 45, 45, 43, 44], -10)]),
  ([43, 43, 43], [45, 45, 45, 45], [0, 4], [0, 4, 8, 12], [0, -4, -8, -12, -16], [([44], 0), ([43, 44], 4), ([44], 0), ([43, 44], 4), ([43, 43, 44], 8), ([43, 43, 43, 44], 12), ([44], 0), ([45, 44], -4), ([45, 45, 44], -8), ([45, 45, 45, 44], -12), ([45, 45, 45, 45, 44], -16)])]
theorem row2 : tab2.all (rowOk [43]) = true := by decide +kernel
theorem fst2 : tab2.map (fun r => r.1) = alls := by decide +kernel
noncomputable def tab3 : List Row := [
  ([], [43, 43], [0, -4, -8], [0], [0, 4, 8], [([44], 0), ([45, 44], -4), ([45, 45, 44], -8), ([44], 0), ([44], 0), ([43, 44], 4), ([43, 43, 44], 8)]),
  ([45], [43, 43, 43], [0, -4, -8], [0, -4], [0, 4, 8, 12], [([44], 0), ([45, 44], -4), ([45, 45, 44], -8), ([44], 0), ([45, 44], -4), ([44], 0), ([43, 44], 4), ([43, 43, 44], 8), ([43, 43, 43, 44], 12)]),
  ([43], [43], [0, -4, -8], [0, 4], [0, 4], [([44], 0), ([45, 44], -4), ([45, 45, 44], -8), ([44], 0), ([43, 44], 4), ([44], 0), ([43, 44], 4)]),
  ([45, 45], [43, 43, 43, 43], [0, -4, -8], [0, -4, -8], [0, 4, 8, 12, 16], [([44], 0), ([45, 44], -4), ([45, 45, 44], -8), ([44], 0), ([45, 44], -4), ([45, 45, 44], -8), ([44], 0), ([43, 44], 4), ([43, 43, 44], 8), ([43, 43, 43, 44], 12), ([43, 43, 43, 43, 44], 16)]),
  ([45, 43], [43, 43, 43, 45], [0, -4, -8], [0, -4, -2], [0, 4, 8, 12, 10], [([44], 0), ([45, 44], -4), ([45, 45, 44], -8), ([44], 0), ([45, 44], -4), ([45, 43, 44], -2), ([44], 0), ([43, 44], 4), ([43, 43, 44], 8), ([43, 43, 43, 44], 12), ([43, 43, 43, 45, 44], 10)]),
  ([43, 45], [43, 43, 45], [0, -4, -8], [0, 4, 2], [0, 4, 8, 6], [([44], 0), ([45, 44], -4), ([45, 45, 44], -8), ([44], 0), ([43, 44], 4), ([43, 45, 44], 2), ([44], 0), ([43, 44], 4), ([43, 43, 44], 8), ([43, 43, 45, 44], 6)]),
  ([43, 43], [], [0, -4, -8], [0, 4, 8], [0], [([44], 0), ([45, 44], -4), ([45, 45, 44], -8), ([44], 0), ([43, 44], 4), ([43, 43, 44], 8), ([44], 0)]),
  ([45, 45, 45], [43, 43, 43, 43, 43], [0, -4, -8], [0, -4, -8, -12], [0, 4, 8, 12, 16, 20], [([44], 0), ([45, 44], -4), ([45, 45, 44], -8), ([44], 0), ([45, 44], -4), ([45, 45, 44], -8), ([45, 45, 45, 44], -12), ([44], 0), ([43, 44], 4), ([43, 43, 44], 8), ([43, 43, 43, 44], 12), ([43, 43, 43, 43, 44], 16), ([43, 43, 43, 43, 43, 44], 20)]),
  ([45, 45, 43], [43, 43, 43, 43, 45], [0, -4, -8], [0, -4, -8, -6], [0, 4, 8, 12, 16, 14], [([44], 0), ([45, 44], -4), ([45, 45, 44], -8), ([44], 0), ([45, 44], -4), ([45, 45, 44], -8), ([45, 45, 43, 44], -6), ([44], 0), ([43, 44], 4), ([43, 43, 44], 8), ([43, 43, 43, 44], 12), ([43, 43, 43, 43, 44], 16), ([43, 43, 43, 43, 45, 44], 14)]),
  ([45, 43, 45], [43, 43, 43, 45, 43], [0, -4, -8], [0, -4, -2, -3], [0, 4, 8, 12, 10, 11], [([44], 0), ([45, 44], -4), ([45, 45, 44], -8), ([44], 0), ([45, 44], -4), ([45, 43, 44], -2), ([45, 43, 45, 44], -3), ([44], 0), ([43, 44], 4), ([43, 43, 44], 8), ([43, 43, 43, 44], 12), ([43, 43, 43, 45, 44], 10), ([43, 43, 43, 45, 43, 44], 11)]),
  ([45, 43, 43], [43, 43, 43, 45, 45], [0, -4, -8], [0, -4, -2, -1], [0, 4, 8, 12, 10, 9], [([44], 0), ([45, 44], -4), ([45, 45, 44], -8), ([44], 0), ([45, 44], -4), ([45, 43, 44], -2), ([45, 43, 43, 44], -1), ([44], 0), ([43, 44], 4), ([43, 43, 44], 8), ([43, 43, 43, 44], 12), ([43, 43, 43, 45, 44], 10), ([43, 43, 43, 45, 45, 44], 9)]),
  ([43, 45, 45], [43, 43, 45, 43], [0, -4, -8], [0, 4, 2, 1], [0, 4, 8, 6, 7], [([44], 0), ([45, 44], -4), ([45, 45, 44], -8), ([44], 0), ([43, 44], 4), ([43, 45, 44], 2), ([43, 45, 45, 44], 1), ([44], 0), ([43, 44], 4), ([43, 43, 44], 8), ([43, 43, 45, 44], 6), ([43, 43, 45, 43, 44], 7)]),
  ([43, 45, 43], [43, 43, 45, 45], [0, -4, -8], [0, 4, 2, 3], [0, 4, 8, 6, 5], [([44], 0), ([45, 44], -4), ([45, 45, 44], -8), ([44], 0), ([43, 44], 4), ([43, 45, 44], 2), ([43, 45, 43, 44], 3), ([44], 0), ([43, 44], 4), ([43, 43, 44], 8), ([43, 43, 45, 44], 6), ([43, 43, 45, 45, 44], 5)]),
  ([43, 43, 45], [43, 45], [0, -4, -8], [0, 4, 8, 6], [0, 4, 2], [([44], 0), ([45, 44], -4), ([45, 45, 44], -8), ([44], 0), ([43, 44], 4), ([43, 43, 44], 8), ([43, 43, 45, 44], 6), ([44], 0), ([43, 44], 4), ([43, 45, 44], 2)]),
  ([43, 43, 43], [45], [0, -4, -8], [0, 4, 8, 12], [0, -4], [([44], 0), ([45, 44], -4), ([45, 45, 44], -8), ([44], 0), ([43, 44], 4), ([43, 43, 44], 8), ([43, 43, 43, 44], 12), ([44], 0), ([45, 44], -4)])]
theorem row3 : tab3.all (rowOk [45, 45]) = true := by decide +kernel
theorem fst3 : tab3.map (fun r => r.1) = alls := by decide +kernel
noncomputable def tab4 : List Row := [
  ([], [43, 45], [0, -4, -2], [0], [0, 4, 2], [([44], 0), ([45, 44], -4), ([45, 43, 44], -2), ([44], 0), ([44], 0), ([43, 44], 4), ([43, 45, 44], 2)]),
  ([45], [43, 43, 45], [0, -4, -2], [0, -4], [0, 4, 8, 6], [([44], 0), ([45, 44], -4), ([45, 43, 44], -2), ([44], 0), ([45, 44], -4), ([44], 0), ([43, 44], 4), ([43, 43, 44], 8), ([43, 43, 45, 44], 6)]),
  ([43], [45, 43], [0, -4, -2], [0, 4], [0, -4, -2], [([44], 0), ([45, 44], -4), ([45, 43, 44], -2), ([44], 0), ([43, 44], 4), ([44], 0), ([45, 44], -4), ([45, 43, 44], -2)]),
  ([45, 45], [43, 43, 43, 45], [0, -4, -2], [0, -4, -8], [0, 4, 8, 12, 10], [([44], 0), ([45, 44], -4), ([45, 43, 44], -2), ([44], 0), ([45, 44], -4), ([45, 45, 44], -8), ([44], 0), ([43, 44], 4), ([43, 43, 44], 8), ([43, 43, 43, 44], 12), ([43, 43, 43, 45, 44], 10)]),
  ([45, 43], [43], [0, -4, -2], [0, -4, -2], [0, 4], [([44], 0), ([45, 44], -4), ([45, 43, 44], -2), ([44], 0), ([45, 44], -4), ([45, 43, 44], -2), ([44], 0), ([43, 44], 4)]),
  ([43, 45], [], [0, -4, -2], [0, 4, 2], [0], [([44], 0), ([45, 44], -4), ([45, 43, 44], -2), ([44], 0), ([43, 44], 4), ([43, 45, 44], 2), ([44], 0)]),
  ([43, 43], [45, 45, 43], [0, -4, -2], [0, 4, 8], [0, -4, -8, -6], [([44], 0), ([45, 44], -4), ([45, 43, 44], -2), ([44], 0), ([43, 44], 4), ([43, 43, 44], 8), ([44], 0), ([45, 44], -4), ([45, 45, 44], -8), ([45, 45, 43, 44], -6)]),
  ([45, 45, 45], [43, 43, 43, 43, 45], [0, -4, -2], [0, -4, -8, -12], [0, 4, 8, 12, 16, 14], [([44], 0), ([45, 44], -4), ([45, 43, 44], -2), ([44], 0), ([45, 44], -4), ([45, 45, 44], -8), ([45, 45, 45, 44], -12), ([44], 0), ([43, 44], 4), ([43, 43, 44], 8), ([43, 43, 43, 44], 12), ([43, 43, 43, 43, 44], 16), ([43, 43, 43, 43, 45, 44], 14)]),
  ([45, 45, 43], [43, 43], [0, -4, -2], [0, -4, -8, -6], [0, 4, 8], [([44], 0), ([45, 44], -4), ([45, 43, 44], -2), ([44], 0), ([45, 44], -4), ([45, 45, 44], -8), ([45, 45, 43, 44], -6), ([44], 0), ([43, 44], 4), ([43, 43, 44], 8)]),
  ([45, 43, 45], [43, 43, 45, 45], [0, -4, -2], [0, -4, -2, -3], [0, 4, 8, 6, 5], [([44], 0), ([45, 44], -4), ([45, 43, 44], -2), ([44], 0), ([45, 44], -4), ([45, 43, 44], -2), ([45, 43, 45, 44], -3), ([44], 0), ([43, 44], 4), ([43, 43, 44], 8), ([43, 43, 45, 44], 6), ([43, 43, 45, 45, 44], 5)]),
  ([45, 43, 43], [43, 45, 43], [0, -4, -2], [0, -4, -2, -1], [0, 4, 2, 3], [([44], 0), ([45, 44], -4), ([45, 43, 44], -2), ([44], 0), ([45, 44], -4), ([45, 43, 44], -2), ([45, 43, 43, 44], -1), ([44], 0), ([43, 44], 4), ([43, 45, 44], 2), ([43, 45, 43, 44], 3)]),
  ([43, 45, 45], [43, 45, 45], [0, -4, -2], [0, 4, 2, 1], [0, 4, 2, 1], [([44], 0), ([45, 44], -4), ([45, 43, 44], -2), ([44], 0), ([43, 44], 4), ([43, 45, 44], 2), ([43, 45, 45, 44], 1), ([44], 0), ([43, 44], 4), ([43, 45, 44], 2), ([43, 45, 45, 44], 1)]),
  ([43, 45, 43], [45, 43, 43], [0, -4, -2], [0, 4, 2, 3], [0, -4, -2, -1], [([44], 0), ([45, 44], -4), ([45, 43, 44], -2), ([44], 0), ([43, 44], 4), ([43, 45, 44], 2), ([43, 45, 43, 44], 3), ([44], 0), ([45, 44], -4), ([45, 43, 44], -2), ([45, 43, 43, 44], -1)]),
  ([43, 43, 45], [45], [0, -4, -2], [0, 4, 8, 6], [0, -4], [([44], 0), ([45, 44], -4), ([45, 43, 44], -2), ([44], 0), ([43, 44], 4), ([43, 43, 44], 8), ([43, 43, 45, 44], 6), ([44], 0), ([45, 44], -4)]),
  ([43, 43, 43], [45, 45, 45, 43], [0, -4, -2], [0, 4, 8, 12], [0, -4, -8, -12, -10], [([44], 0), ([45, 44], -4), ([45, 43, 44], -2), ([44], 0), ([43, 44], 4), ([43, 43, 44], 8), ([43, 43, 43, 44], 12), ([44], 0), ([45, 44], -4), ([45, 45, 44], -8), ([45, 45, 45, 44], -12), ([45, 45, 45, 43, 44], -10)])]
theorem row4 : tab4.all (rowOk [45, 43]) = true := by decide +kernel
theorem fst4 : tab4.map (fun r => r.1) = alls := by decide +kernel
noncomputable def tab5 : List Row := [
  ([], [45, 43], [0, 4, 2], [0], [0, -4, -2], [([44], 0), ([43, 44], 4), ([43, 45, 44], 2), ([44], 0), ([44], 0), ([45, 44], -4), ([45, 43, 44], -2)]),
  ([45], [43, 45], [0, 4, 2], [0, -4], [0, 4, 2], [([44], 0), ([43, 44], 4), ([43, 45, 44], 2), ([44], 0), ([45, 44], -4), ([44], 0), ([43, 44], 4), ([43, 45, 44], 2)]),
  ([43], [45, 45, 43], [0, 4, 2], [0, 4], [0, -4, -8, -6], [([44], 0), ([43, 44], 4), ([43, 45, 44], 2), ([44], 0), ([43, 44], 4), ([44], 0), ([45, 44], -4), ([45, 45, 44], -8), ([45, 45, 43, 44], -6)]),
  ([45, 45], [43, 43, 45], [0, 4, 2], [0, -4, -8], [0, 4, 8, 6], [([44], 0), ([43, 44], 4), ([43, 45, 44], 2), ([44], 0), ([45, 44], -4), ([45, 45, 44], -8), ([44], 0), ([43, 44], 4), ([43, 43, 44], 8), ([43, 43, 45, 44], 6)]),
  ([45, 43], [], [0, 4, 2], [0, -4, -2], [0], [([44], 0), ([43, 44], 4), ([43, 45, 44], 2), ([44], 0), ([45, 44], -4), ([45, 43, 44], -2), ([44], 0)]),
  ([43, 45], [45], [0, 4, 2], [0, 4, 2], [0, -4], [([44], 0), ([43, 44], 4), ([43, 45, 44], 2), ([44], 0), ([43, 44], 4), ([43, 45, 44], 2), ([44], 0), ([45, 44], -4)]),
  ([43, 43], [45, 45, 45, 43], [0, 4, 2], [0, 4, 8], [0, -4, -8, -12, -10], [([44], 0), ([43, 44], 4), ([43, 45, 44], 2), ([44], 0), ([43, 44], 4), ([43, 43, 44], 8), ([44], 0), ([45, 44], -4), ([45, 45, 44], -8), ([45, 45, 45, 44], -12), ([45, 45, 45, 43, 44], -10)]),
  ([45, 45, 45], [43, 43, 43, 45], [0, 4, 2], [0, -4, -8, -12], [0, 4, 8, 12, 10], [([44], 0), ([43, 44], 4), ([43, 45, 44], 2), ([44], 0), ([45, 44], -4), ([45, 45, 44], -8), ([45, 45, 45, 44], -12), ([44], 0), ([43, 44], 4), ([43, 43, 44], 8), ([43, 43, 43, 44], 12), ([43, 43, 43, 45, 44], 10)]),
  ([45, 45, 43], [43], [0, 4, 2], [0, -4, -8, -6], [0, 4], [([44], 0), ([43, 44], 4), ([43, 45, 44], 2), ([44], 0), ([45, 44], -4), ([45, 45, 44], -8), ([45, 45, 43, 44], -6), ([44], 0), ([43, 44], 4)]),
  ([45, 43, 45], [43, 45, 45], [0, 4, 2], [0, -4, -2, -3], [0, 4, 2, 1], [([44], 0), ([43, 44], 4), ([43, 45, 44], 2), ([44], 0), ([45, 44], -4), ([45, 43, 44], -2), ([45, 43, 45, 44], -3), ([44], 0), ([43, 44], 4), ([43, 45, 44], 2), ([43, 45, 45, 44], 1)]),
  ([45, 43, 43], [45, 43, 43], [0, 4, 2], [0, -4, -2, -1], [0, -4, -2, -1], [([44], 0), ([43, 44], 4), ([43, 45, 44], 2), ([44], 0), ([45, 44], -4), ([45, 43, 44], -2), ([45, 43, 43, 44], -1), ([44], 0), ([45, 44], -4), ([45, 43, 44], -2), ([45, 43, 43, 44], -1)]),
  ([43, 45, 45], [45, 43, 45], [0, 4, 2], [0, 4, 2, 1], [0, -4, -2, -3], [([44], 0), ([43, 44], 4), ([43, 45, 44], 2), ([44], 0), ([43, 44], 4), ([43, 45, 44], 2), ([43, 45, 45, 44], 1), ([44], 0), ([45, 44], -4), ([45, 43, 44], -2), ([45, 43, 45, 44], -3)]),
  ([43, 45, 43], [45, 45, 43, 43], [0, 4, 2], [0, 4, 2, 3], [0, -4, -8, -6, -5], [([44], 0), ([43, 44], 4), ([43, 45, 44], 2), ([44], 0), ([43, 44], 4), ([43, 45, 44], 2), ([43, 45, 43, 44], 3), ([44], 0), ([45, 44], -4), ([45, 45, 44], -8), ([45, 45, 43, 44], -6), ([45, 45, 43, 43, 44], -5)]),
  ([43, 43, 45], [45, 45], [0, 4, 2], [0, 4, 8, 6], [0, -4, -8], [([44], 0), ([43, 44], 4), ([43, 45, 44], 2), ([44], 0), ([43, 44], 4), ([43, 43, 44], 8), ([43, 43, 45, 44], 6), ([44], 0), ([45, 44], -4), ([45, 45, 44], -8)]),
  ([43, 43, 43], [45, 45, 45, 45, 43], [0, 4, 2], [0, 4, 8, 12], [0, -4, -8, -12, -16, -14], [([44], 0), ([43, 44], 4), ([43, 45, 44], 2), ([44], 0), ([43, 44], 4), ([43, 43, 44], 8), ([43, 43, 43, 44], 12), ([44], 0), ([45, 44], -4), ([45, 45, 44], -8), ([45, 45, 45, 44], -12), ([45, 45, 45, 45, 44], -16), ([45, 45, 45, 45, 43, 44], -14)])]
theorem row5 : tab5.all (rowOk [43, 45]) = true := by decide +kernel
theorem fst5 : tab5.map (fun r => r.1) = alls := by decide +kernel
noncomputable def tab6 : List Row := [
  ([], [45, 45], [0, 4, 8], [0], [0, -4, -8], [([44], 0), ([43, 44], 4), ([43, 43, 44], 8), ([44], 0), ([44], 0), ([45, 44], -4), ([45, 45, 44], -8)]),
  ([45], [45], [0, 4, 8], [0, -4], [0, -4], [([44], 0), ([43, 44], 4), ([43, 43, 44], 8), ([44], 0), ([45, 44], -4), ([44], 0), ([45, 44], -4)]),
  ([43], [45, 45, 45], [0, 4, 8], [0, 4], [0, -4, -8, -12], [([44], 0), ([43, 44], 4), ([43, 43, 44], 8), ([44], 0), ([43, 44], 4), ([44], 0), ([45, 44], -4), ([45, 45, 44], -8), ([45, 45, 45, 44], -12)]),
  ([45, 45], [], [0, 4, 8], [0, -4, -8], [0], [([44], 0), ([43, 44], 4), ([43, 43, 44], 8), ([44], 0), ([45, 44], -4), ([45, 45, 44], -8), ([44], 0)]),
  ([45, 43], [45, 45, 43], [0, 4, 8], [0, -4, -2], [0, -4, -8, -6], [([44], 0), ([43, 44], 4), ([43, 43, 44], 8), ([44], 0), ([45, 44], -4), ([45, 43, 44], -2), ([44], 0), ([45, 44], -4), ([45, 45, 44], -8), ([45, 45, 43, 44], -6)]),
  ([43, 45], [45, 45, 45, 43], [0, 4, 8], [0, 4, 2], [0, -4, -8, -12, -10], [([44], 0), ([43, 44], 4), ([43, 43, 44], 8), ([44], 0), ([43, 44], 4), ([43, 45, 44], 2), ([44], 0), ([45, 44], -4), ([45, 45, 44], -8), ([45, 45, 45, 44], -12), ([45, 45, 45, 43, 44], -10)]),
  ([43, 43], [45, 45, 45, 45], [0, 4, 8], [0, 4, 8], [0, -4, -8, -12, -16], [([44], 0), ([43, 44], 4), ([43, 43, 44], 8), ([44], 0), ([43, 44], 4), ([43, 43, 44], 8), ([44], 0), ([45, 44], -4), ([45, 45, 44], -8), ([45, 45, 45, 44], -12), ([45, 45, 45, 45, 44], -16)]),
  ([45, 45, 45], [43], [0, 4, 8], [0, -4, -8, -12], [0, 4], [([44], 0), ([43, 44], 4), ([43, 43, 44], 8), ([44], 0), ([45, 44], -4), ([45, 45, 44], -8), ([45, 45, 45, 44], -12), ([44], 0), ([43, 44], 4)]),
  ([45, 45, 43], [45, 43], [0, 4, 8], [0, -4, -8, -6], [0, -4, -2], [([44], 0), ([43, 44], 4), ([43, 43, 44], 8), ([44], 0), ([45, 44], -4), ([45, 45, 44], -8), ([45, 45, 43, 44], -6), ([44], 0), ([45, 44], -4), ([45, 43, 44], -2)]),
  ([45, 43, 45], [45, 45, 43, 43], [0, 4, 8], [0, -4, -2, -3], [0, -4, -8, -6, -5], [([44], 0), ([43, 44], 4), ([43, 43, 44], 8), ([44], 0), ([45, 44], -4), ([45, 43, 44], -2), ([45, 43, 45, 44], -3), ([44], 0), ([45, 44], -4), ([45, 45, 44], -8), ([45, 45, 43, 44], -6), ([45, 45, 43, 43, 44], -5)]),
  ([45, 43, 43], [45, 45, 43, 45], [0, 4, 8], [0, -4, -2, -1], [0, -4, -8, -6, -7], [([44], 0), ([43, 44], 4), ([43, 43, 44], 8), ([44], 0), ([45, 44], -4), ([45, 43, 44], -2), ([45, 43, 43, 44], -1), ([44], 0), ([45, 44], -4), ([45, 45, 44], -8), ([45, 45, 43, 44], -6), ([45, 45, 43, 45, 44], -7)]),
  ([43, 45, 45], [45, 45, 45, 43, 43], [0, 4, 8], [0, 4, 2, 1], [0, -4, -8, -12, -10, -9], [([44], 0), ([43, 44], 4), ([43, 43, 44], 8), ([44], 0), ([43, 44], 4), ([43, 45, 44], 2), ([43, 45, 45, 44], 1), ([44], 0), ([45, 44], -4), ([45, 45, 44], -8), ([45, 45, 45, 44], -12), ([45, 45, 45, 43, 44], -10), ([45, 45, 45, 43, 43, 44], -9)]),
  ([43, 45, 43], [45, 45, 45, 43, 45], [0, 4, 8], [0, 4, 2, 3], [0, -4, -8, -12, -10, -11], [([44], 0), ([43, 44], 4), ([43, 43, 44], 8), ([44], 0), ([43, 44], 4), ([43, 45, 44], 2), ([43, 45, 43, 44], 3), ([44], 0), ([45, 44], -4), ([45, 45, 44], -8), ([45, 45, 45, 44], -12), ([45, 45, 45, 43, 44], -10), ([45, 45, 45, 43, 45, 44], -11)]),
  ([43, 43, 45], [45, 45, 45, 45, 43], [0, 4, 8], [0, 4, 8, 6], [0, -4, -8, -12, -16, -14], [([44], 0), ([43, 44], 4), ([43, 43, 44], 8), ([44], 0), ([43, 44], 4), ([43, 43, 44], 8), ([43, 43, 45, 44], 6), ([44], 0), ([45, 44], -4), ([45, 45, 44], -8), ([45, 45, 45, 44], -12), ([45, 45, 45, 45, 44], -16), ([45, 45, 45, 45, 43, 44], -14)]),
  ([43, 43, 43], [45, 45, 45, 45, 45], [0, 4, 8], [0, 4, 8, 12], [0, -4, -8, -12, -16, -20], [([44], 0), ([43, 44], 4), ([43, 43, 44], 8), ([44], 0), ([43, 44], 4), ([43, 43, 44], 8), ([43, 43, 43, 44], 12), ([44], 0), ([45, 44], -4), ([45, 45, 44], -8), ([45, 45, 45, 44], -12), ([45, 45, 45, 45, 44], -16), ([45, 45, 45, 45, 45, 44], -20)])]
theorem row6 : tab6.all (rowOk [43, 43]) = true := by decide +kernel
theorem fst6 : tab6.map (fun r => r.1) = alls := by decide +kernel
noncomputable def tab7 : List Row := [
  ([], [43, 43, 43], [0, -4, -8, -12], [0], [0, 4, 8, 12], [([44], 0), ([45, 44], -4), ([45, 45, 44], -8), ([45, 45, 45, 44], -12), ([44], 0), ([44], 0), ([43, 44], 4), ([43, 43, 44], 8), ([43, 43, 43, 44], 12)]),
  ([45], [43, 43, 43, 43], [0, -4, -8, -12], [0, -4], [0, 4, 8, 12, 16], [([44], 0), ([45, 44], -4), ([45, 45, 44], -8), ([45, 45, 45, 44], -12), ([44], 0), ([45, 44], -4), ([44], 0), ([43, 44], 4), ([43, 43, 44], 8), ([43, 43, 43, 44], 12), ([43, 43, 43, 43, 44], 16)]),
  ([43], [43, 43], [0, -4, -8, -12], [0, 4], [0, 4, 8], [([44], 0), ([45, 44], -4), ([45, 45, 44], -8), ([45, 45, 45, 44], -12), ([44], 0), ([43, 44], 4), ([44], 0), ([43, 44], 4), ([43, 43, 44], 8)]),
  ([45, 45], [43, 43, 43, 43, 43], [0, -4, -8, -12], [0, -4, -8], [0, 4, 8, 12, 16, 20], [([44], 0), ([45, 44], -4), ([45, 45, 44], -8), ([45, 45, 45, 44], -12), ([44], 0), ([45, 44], -4), ([45, 45, 44], -8), ([44], 0), ([43, 44], 4), ([43, 43, 44], 8), ([43, 43, 43, 44], 12), ([43, 43, 43, 43, 44], 16), ([43, 43, 43, 43, 43, 44], 20)]),
  ([45, 43], [43, 43, 43, 43, 45], [0, -4, -8, -12], [0, -4, -2], [0, 4, 8, 12, 16, 14], [([44], 0), ([45, 44], -4), ([45, 45, 44], -8), ([45, 45, 45, 44], -12), ([44], 0), ([45, 44], -4), ([45, 43, 44], -2), ([44], 0), ([43, 44], 4), ([43, 43, 44], 8), ([43, 43, 43, 44], 12), ([43, 43, 43, 43, 44], 16), ([43, 43, 43, 43, 45, 44], 14)]),
  ([43, 45], [43, 43, 43, 45], [0, -4, -8, -12], [0, 4, 2], [0, 4, 8, 12, 10], [([44], 0), ([45, 44], -4), ([45, 45, 44], -8), ([45, 45, 45, 44], -12), ([44], 0), ([43, 44], 4), ([43, 45, 44], 2), ([44], 0), ([43, 44], 4), ([43, 43, 44], 8), ([43, 43, 43, 44], 12), ([43, 43, 43, 45, 44], 10)]),
  ([43, 43], [43], [0, -4, -8, -12], [0, 4, 8], [0, 4], [([44], 0), ([45, 44], -4), ([45, 45, 44], -8), ([45, 45, 45, 44], -12), ([44], 0), ([43, 44], 4), ([43, 43, 44], 8), ([44], 0), ([43, 44], 4)]),
  ([45, 45, 45], [43, 43, 43, 43, 43, 43], [0, -4, -8, -12], [0, -4, -8, -12], [0, 4, 8, 12, 16, 20, 24], [([44], 0), ([45, 44], -4), ([45, 45, 44], -8), ([45, 45, 45, 44], -12), ([44], 0), ([45, 44], -4), ([45, 45, 44], -8), ([45, 45, 45, 44], -12), ([44], 0), ([43, 44], 4), ([43, 43, 44], 8), ([43, 43, 43, 44], 12), ([43, 43, 43, 43, 44], 16), ([43, 43, 43, 43, 43, 44], 20), ([43, 43, 43, 43, 43, 43, 44], 24)]),
  ([45, 45, 43], [43, 43, 43, 43, 43, 45], [0, -4, -8, -12], [0, -4, -8, -6], [0, 4, 8, 12, 16, 20, 18], [([44], 0), ([45, 44], -4), ([45, 45, 44], -8), ([45, 45, 45, 44], -12), ([44], 0), ([45, 44], -4), ([45, 45, 44], -8), ([45, 45, 43, 44], -6), ([44], 0), ([43, 44], 4), ([43, 43, 44], 8), ([43, 43, 43, 44], 12), ([43, 43, 43, 43, 44], 16), ([43, 43, 43, 43, 43, 44], 20), ([43, 43, 43, 43, 43, 45, 44], 18)]),
  ([45, 43, 45], [43, 43, 43, 43, 45, 43], [0, -4, -8, -12], [0, -4, -2, -3], [0, 4, 8, 12, 16, 14, 15], [([44], 0), ([45, 44], -4), ([45, 45, 44], -8), ([45, 45, 45, 44], -12), ([44], 0), ([45, 44], -4), ([45, 43, 44], -2), ([45, 43, 45, 44], -3), ([44], 0), ([43, 44], 4), ([43, 43, 44], 8), ([43, 43, 43, 44], 12), ([43, 43, 43, 43, 44], 16), ([43, 43, 43, 43, 45, 44], 14), ([43, 43, 43, 43, 45, 43, 44], 15)]),
  ([45, 43, 43], [43, 43, 43, 43, 45, 45], [0, -4, -8, -12], [0, -4, -2, -1], [0, 4, 8, 12, 16, 14, 13], [([44], 0), ([45, 44], -4), ([45, 45, 44], -8), ([45, 45, 45, 44], -12), ([44], 0), ([45, 44], -4), ([45, 43, 44], -2), ([45, 43, 43, 44], -1), ([44], 0), ([43, 44], 4), ([43, 43, 44], 8), ([43, 43, 43, 44], 12), ([43, 43, 43, 43, 44], 16), ([43, 43, 43, 43, 45, 44], 14), ([43, 43, 43, 43, 45, 45, 44], 13)]),
  ([43, 45, 45], [43, 43, 43, 45, 43], [0, -4, -8, -12], [0, 4, 2, 1], [0, 4, 8, 12, 10, 11], [([44], 0), ([45, 44], -4), ([45, 45, 44], -8), ([45, 45, 45, 44], -12), ([44], 0), ([43, 44], 4), ([43, 45, 44], 2), ([43, 45, 45, 44], 1), ([44], 0), ([43, 44], 4), ([43, 43, 44], 8), ([43, 43, 43, 44], 12), ([43, 43, 43, 45, 44], 10), ([43, 43, 43, 45, 43, 44], 11)]),
  ([43, 45, 43], [43, 43, 43, 45, 45], [0, -4, -8, -12], [0, 4, 2, 3], [0, 4, 8, 12, 10, 9], [([44], 0), ([45, 44], -4), ([45, 45, 44], -8), ([45, 45, 45, 44], -12), ([44], 0), ([43, 44], 4), ([43, 45, 44], 2), ([43, 45, 43, 44], 3), ([44], 0), ([43, 44], 4), ([43, 43, 44], 8), ([43, 43, 43, 44], 12), ([43, 43, 43, 45, 44], 10), ([43, 43, 43, 45, 45, 44], 9)]),
  ([43, 43, 45], [43, 43, 45], [0, -4, -8, -12], [0, 4, 8, 6], [0, 4, 8, 6], [([44], 0), ([45, 44], -4), ([45, 45, 44], -8), ([45, 45, 45, 44], -12), ([44], 0), ([43, 44], 4), ([43, 43, 44], 8), ([43, 43, 45, 44], 6), ([44], 0), ([43, 44], 4), ([43, 43, 44], 8), ([43, 43, 45, 44], 6)]),
  ([43, 43, 43], [], [0, -4, -8, -12], [0, 4, 8, 12], [0], [([44], 0), ([45, 44], -4), ([45, 45, 44], -8), ([45, 45, 45, 44], -12), ([44], 0), ([43, 44], 4), ([43, 43, 44], 8), ([43, 43, 43, 44], 12), ([44], 0)])]
theorem row7 : tab7.all (rowOk [45, 45, 45]) = true := by decide +kernel
theorem fst7 : tab7.map (fun r => r.1) = alls := by decide +kernel
noncomputable def tab8 : List Row := [
  ([], [43, 43, 45], [0, -4, -8, -6], [0], [0, 4, 8, 6], [([44], 0), ([45, 44], -4), ([45, 45, 44], -8), ([45, 45, 43, 44], -6), ([44], 0), ([44], 0), ([43, 44], 4), ([43, 43, 44], 8), ([43, 43, 45, 44], 6)]),
  ([45], [43, 43, 43, 45], [0, -4, -8, -6], [0, -4], [0, 4, 8, 12, 10], [([44], 0), ([45, 44], -4), ([45, 45, 44], -8), ([45, 45, 43, 44], -6), ([44], 0), ([45, 44], -4), ([44], 0), ([43, 44], 4), ([43, 43, 44], 8), ([43, 43, 43, 44], 12), ([43, 43, 43, 45, 44], 10)]),
  ([43], [43, 45], [0, -4, -8, -6], [0, 4], [0, 4, 2], [([44], 0), ([45, 44], -4), ([45, 45, 44], -8), ([45, 45, 43, 44], -6), ([44], 0), ([43, 44], 4), ([44], 0), ([43, 44], 4), ([43, 45, 44], 2)]),
  ([45, 45], [43, 43, 43, 43, 45], [0, -4, -8, -6], [0, -4, -8], [0, 4, 8, 12, 16, 14], [([44], 0), ([45, 44], -4), ([45, 45, 44], -8), ([45, 45, 43, 44], -6), ([44], 0), ([45, 44], -4), ([45, 45, 44], -8), ([44], 0), ([43, 44], 4), ([43, 43, 44], 8), ([43, 43, 43, 44], 12), ([43, 43, 43, 43, 44], 16), ([43, 43, 43, 43, 45, 44], 14)]),
  ([45, 43], [43, 43], [0, -4, -8, -6], [0, -4, -2], [0, 4, 8], [([44], 0), ([45, 44], -4), ([45, 45, 44], -8), ([45, 45, 43, 44], -6), ([44], 0), ([45, 44], -4), ([45, 43, 44], -2), ([44], 0), ([43, 44], 4), ([43, 43, 44], 8)]),
  ([43, 45], [43], [0, -4, -8, -6], [0, 4, 2], [0, 4], [([44], 0), ([45, 44], -4), ([45, 45, 44], -8), ([45, 45, 43, 44], -6), ([44], 0), ([43, 44], 4), ([43, 45, 44], 2), ([44], 0), ([43, 44], 4)]),
  ([43, 43], [45, 43], [0, -4, -8, -6], [0, 4, 8], [0, -4, -2], [([44], 0), ([45, 44], -4), ([45, 45, 44], -8), ([45, 45, 43, 44], -6), ([44], 0), ([43, 44], 4), ([43, 43, 44], 8), ([44], 0), ([45, 44], -4), ([45, 43, 44], -2)]),
  ([45, 45, 45], [43, 43, 43, 43, 43, 45], [0, -4, -8, -6], [0, -4, -8, -12], [0, 4, 8, 12, 16, 20, 18], [([44], 0), ([45, 44], -4), ([45, 45, 44], -8), ([45, 45, 43, 44], -6), ([44], 0), ([45, 44], -4), ([45, 45, 44], -8), ([45, 45, 45, 44], -12), ([44], 0), ([43, 44], 4), ([43, 43, 44], 8), ([43, 43, 43, 44], 12), ([43, 43, 43, 43, 44], 16), ([43, 43, 43, 43, 43, 44], 20), ([43, 43, 43, 43, 43, 45, 44], 18)]),
  ([45, 45, 43], [43, 43, 43], [0, -4, -8, -6], [0, -4, -8, -6], [0, 4, 8, 12], [([44], 0), ([45, 44], -4), ([45, 45, 44], -8), ([45, 45, 43, 44], -6), ([44], 0), ([45, 44], -4), ([45, 45, 44], -8), ([45, 45, 43, 44], -6), ([44], 0), ([43, 44], 4), ([43, 43, 44], 8), ([43, 43, 43, 44], 12)]),
  ([45, 43, 45], [43, 43, 43, 45, 45], [0, -4, -8, -6], [0, -4, -2, -3], [0, 4, 8, 12, 10, 9], [([44], 0), ([45, 44], -4), ([45, 45, 44], -8), ([45, 45, 43, 44], -6), ([44], 0), ([45, 44], -4), ([45, 43, 44], -2), ([45, 43, 45, 44], -3), ([44], 0), ([43, 44], 4), ([43, 43, 44], 8), ([43, 43, 43, 44], 12), ([43, 43, 43, 45, 44], 10), ([43, 43, 43, 45, 45, 44], 9)]),
  ([45, 43, 43], [43, 43, 45, 43], [0, -4, -8, -6], [0, -4, -2, -1], [0, 4, 8, 6, 7], [([44], 0), ([45, 44], -4), ([45, 45, 44], -8), ([45, 45, 43, 44], -6), ([44], 0), ([45, 44], -4), ([45, 43, 44], -2), ([45, 43, 43, 44], -1), ([44], 0), ([43, 44], 4), ([43, 43, 44], 8), ([43, 43, 45, 44], 6), ([43, 43, 45, 43, 44], 7)]),
  ([43, 45, 45], [43, 43, 45, 45], [0, -4, -8, -6], [0, 4, 2, 1], [0, 4, 8, 6, 5], [([44], 0), ([45, 44], -4), ([45, 45, 44], -8), ([45, 45, 43, 44], -6), ([44], 0), ([43, 44], 4), ([43, 45, 44], 2), ([43, 45, 45, 44], 1), ([44], 0), ([43, 44], 4), ([43, 43, 44], 8), ([43, 43, 45, 44], 6), ([43, 43, 45, 45, 44], 5)]),
  ([43, 45, 43], [43, 45, 43], [0, -4, -8, -6], [0, 4, 2, 3], [0, 4, 2, 3], [([44], 0), ([45, 44], -4), ([45, 45, 44], -8), ([45, 45, 43, 44], -6), ([44], 0), ([43, 44], 4), ([43, 45, 44], 2), ([43, 45, 43, 44], 3), ([44], 0), ([43, 44], 4), ([43, 45, 44], 2), ([43, 45, 43, 44], 3)]),
  ([43, 43, 45], [], [0, -4, -8, -6], [0, 4, 8, 6], [0], [([44], 0), ([45, 44], -4), ([45, 45, 44], -8), ([45, 45, 43, 44], -6), ([44], 0), ([43, 44], 4), ([43, 43, 44], 8), ([43, 43, 45, 44], 6), ([44], 0)]),
  ([43, 43, 43], [45, 45, 43], [0, -4, -8, -6], [0, 4, 8, 12], [0, -4, -8, -6], [([44], 0), ([45, 44], -4), ([45, 45, 44], -8), ([45, 45, 43, 44], -6), ([44], 0), ([43, 44], 4), ([43, 43, 44], 8), ([43, 43, 43, 44], 12), ([44], 0), ([45, 44], -4), ([45, 45, 44], -8), ([45, 45, 43, 44], -6)])]
theorem row8 : tab8.all (rowOk [45, 45, 43]) = true := by decide +kernel
theorem fst8 : tab8.map (fun r => r.1) = alls := by decide +kernel
noncomputable def tab9 : List Row := [
  ([], [43, 45, 43], [0, -4, -2, -3], [0], [0, 4, 2, 3], [([44], 0), ([45, 44], -4), ([45, 43, 44], -2), ([45, 43, 45, 44], -3), ([44], 0), ([44], 0), ([43, 44], 4), ([43, 45, 44], 2), ([43, 45, 43, 44], 3)]),
  ([45], [43, 43, 45, 43], [0, -4, -2, -3], [0, -4], [0, 4, 8, 6, 7], [([44], 0), ([45, 44], -4), ([45, 43, 44], -2), ([45, 43, 45, 44], -3), ([44], 0), ([45, 44], -4), ([44], 0), ([43, 44], 4), ([43, 43, 44], 8), ([43, 43, 45, 44], 6), ([43, 43, 45, 43, 44], 7)]),
  ([43], [45, 43, 43], [0, -4, -2, -3], [0, 4], [0, -4, -2, -1], [([44], 0), ([45, 44], -4), ([45, 43, 44], -2), ([45, 43, 45, 44], -3), ([44], 0), ([43, 44], 4), ([44], 0), ([45, 44], -4), ([45, 43, 44], -2), ([45, 43, 43, 44], -1)]),
  ([45, 45], [43, 43, 43, 45, 43], [0, -4, -2, -3], [0, -4, -8], [0, 4, 8, 12, 10, 11], [([44], 0), ([45, 44], -4), ([45, 43, 44], -2), ([45, 43, 45, 44], -3), ([44], 0), ([45, 44], -4), ([45, 45, 44], -8), ([44], 0), ([43, 44], 4), ([43, 43, 44], 8), ([43, 43, 43, 44], 12), ([43, 43, 43, 45, 44], 10), ([43, 43, 43, 45, 43, 44], 11)]),
  ([45, 43], [43, 43, 45, 45], [0, -4, -2, -3], [0, -4, -2], [0, 4, 8, 6, 5], [([44], 0), ([45, 44], -4), ([45, 43, 44], -2), ([45, 43, 45, 44], -3), ([44], 0), ([45, 44], -4), ([45, 43, 44], -2), ([44], 0), ([43, 44], 4), ([43, 43, 44], 8), ([43, 43, 45, 44], 6), ([43, 43, 45, 45, 44], 5)]),
  ([43, 45], [43, 45, 45], [0, -4, -2, -3], [0, 4, 2], [0, 4, 2, 1], [([44], 0), ([45, 44], -4), ([45, 43, 44], -2), ([45, 43, 45, 44], -3), ([44], 0), ([43, 44], 4), ([43, 45, 44], 2), ([44], 0), ([43, 44], 4), ([43, 45, 44], 2), ([43, 45, 45, 44], 1)]),
  ([43, 43], [45, 45, 43, 43], [0, -4, -2, -3], [0, 4, 8], [0, -4, -8, -6, -5], [([44], 0), ([45, 44], -4), ([45, 43, 44], -2), ([45, 43, 45, 44], -3), ([44], 0), ([43, 44], 4), ([43, 43, 44], 8), ([44], 0), ([45, 44], -4), ([45, 45, 44], -8), ([45, 45, 43, 44], -6), ([45, 45, 43, 43, 44], -5)]),
  ([45, 45, 45], [43, 43, 43, 43, 45, 43], [0, -4, -2, -3], [0, -4, -8, -12], [0, 4, 8, 12, 16, 14, 15], [([44], 0), ([45, 44], -4), ([45, 43, 44], -2), ([45, 43, 45, 44], -3), ([44], 0), ([45, 44], -4), ([45, 45, 44], -8), ([45, 45, 45, 44], -12), ([44], 0), ([43, 44], 4), ([43, 43, 44], 8), ([43, 43, 43, 44], 12), ([43, 43, 43, 43, 44], 16), ([43, 43, 43, 43, 45, 44], 14), ([43, 43, 43, 43, 45, 43, 44], 15)]),
  ([45, 45, 43], [43, 43, 43, 45, 45], [0, -4, -2, -3], [0, -4, -8, -6], [0, 4, 8, 12, 10, 9], [([44], 0), ([45, 44], -4), ([45, 43, 44], -2), ([45, 43, 45, 44], -3), ([44], 0), ([45, 44], -4), ([45, 45, 44], -8), ([45, 45, 43, 44], -6), ([44], 0), ([43, 44], 4), ([43, 43, 44], 8), ([43, 43, 43, 44], 12), ([43, 43, 43, 45, 44], 10), ([43, 43, 43, 45, 45, 44], 9)]),
  ([45, 43, 45], [43, 43, 45], [0, -4, -2, -3], [0, -4, -2, -3], [0, 4, 8, 6], [([44], 0), ([45, 44], -4), ([45, 43, 44], -2), ([45, 43, 45, 44], -3), ([44], 0), ([45, 44], -4), ([45, 43, 44], -2), ([45, 43, 45, 44], -3), ([44], 0), ([43, 44], 4), ([43, 43, 44], 8), ([43, 43, 45, 44], 6)]),
  ([45, 43, 43], [43], [0, -4, -2, -3], [0, -4, -2, -1], [0, 4], [([44], 0), ([45, 44], -4), ([45, 43, 44], -2), ([45, 43, 45, 44], -3), ([44], 0), ([45, 44], -4), ([45, 43, 44], -2), ([45, 43, 43, 44], -1), ([44], 0), ([43, 44], 4)]),
  ([43, 45, 45], [43, 45], [0, -4, -2, -3], [0, 4, 2, 1], [0, 4, 2], [([44], 0), ([45, 44], -4), ([45, 43, 44], -2), ([45, 43, 45, 44], -3), ([44], 0), ([43, 44], 4), ([43, 45, 44], 2), ([43, 45, 45, 44], 1), ([44], 0), ([43, 44], 4), ([43, 45, 44], 2)]),
  ([43, 45, 43], [], [0, -4, -2, -3], [0, 4, 2, 3], [0], [([44], 0), ([45, 44], -4), ([45, 43, 44], -2), ([45, 43, 45, 44], -3), ([44], 0), ([43, 44], 4), ([43, 45, 44], 2), ([43, 45, 43, 44], 3), ([44], 0)]),
  ([43, 43, 45], [45, 43, 45], [0, -4, -2, -3], [0, 4, 8, 6], [0, -4, -2, -3], [([44], 0), ([45, 44], -4), ([45, 43, 44], -2), ([45, 43, 45, 44], -3), ([44], 0), ([43, 44], 4), ([43, 43, 44], 8), ([43, 43, 45, 44], 6), ([44], 0), ([45, 44], -4), ([45, 43, 44], -2), ([45, 43, 45, 44], -3)]),
  ([43, 43, 43], [45, 45, 45, 43, 43], [0, -4, -2, -3], [0, 4, 8, 12], [0, -4, -8, -12, -10, -9], [([44], 0), ([45, 44], -4), ([45, 43, 44], -2), ([45, 43, 45, 44], -3), ([44], 0), ([43, 44], 4), ([43, 43, 44], 8), ([43, 43, 43, 44], 12), ([44], 0), ([45, 44], -4), ([45, 45, 44], -8), ([45, 45, 45, 44], -12), ([45, 45, 45, 43, 44], -10), ([45, 45, 45, 43, 43, 44], -9)])]
theorem row9 : tab9.all (rowOk [45, 43, 45]) = true := by decide +kernel
theorem fst9 : tab9.map (fun r => r.1) = alls := by decide +kernel
noncomputable def tab10 : List Row := [
  ([], [43, 45, 45], [0, -4, -2, -1], [0], [0, 4, 2, 1], [([44], 0), ([45, 44], -4), ([45, 43, 44], -2), ([45, 43, 43, 44], -1), ([44], 0), ([44], 0), ([43, 44], 4), ([43, 45, 44], 2), ([43, 45, 45, 44], 1)]),
  ([45], [43, 43, 45, 45], [0, -4, -2, -1], [0, -4], [0, 4, 8, 6, 5], [([44], 0), ([45, 44], -4), ([45, 43, 44], -2), ([45, 43, 43, 44], -1), ([44], 0), ([45, 44], -4), ([44], 0), ([43, 44], 4), ([43, 43, 44], 8), ([43, 43, 45, 44], 6), ([43, 43, 45, 45, 44], 5)]),
  ([43], [45, 43, 45], [0, -4, -2, -1], [0, 4], [0, -4, -2, -3], [([44], 0), ([45, 44], -4), ([45, 43, 44], -2), ([45, 43, 43, 44], -1), ([44], 0), ([43, 44], 4), ([44], 0), ([45, 44], -4), ([45, 43, 44], -2), ([45, 43, 45, 44], -3)]),
  ([45, 45], [43, 43, 43, 45, 45], [0, -4, -2, -1], [0, -4, -8], [0, 4, 8, 12, 10, 9], [([44], 0), ([45, 44], -4), ([45, 43, 44], -2), ([45, 43, 43, 44], -1), ([44], 0), ([45, 44], -4), ([45, 45, 44], -8), ([44], 0), ([43, 44], 4), ([43, 43, 44], 8), ([43, 43, 43, 44], 12), ([43, 43, 43, 45, 44], 10), ([43, 43, 43, 45, 45, 44], 9)]),
  ([45, 43], [43, 45, 43], [0, -4, -2, -1], [0, -4, -2], [0, 4, 2, 3], [([44], 0), ([45, 44], -4), ([45, 43, 44], -2), ([45, 43, 43, 44], -1), ([44], 0), ([45, 44], -4), ([45, 43, 44], -2), ([44], 0), ([43, 44], 4), ([43, 45, 44], 2), ([43, 45, 43, 44], 3)]),
  ([43, 45], [45, 43, 43], [0, -4, -2, -1], [0, 4, 2], [0, -4, -2, -1], [([44], 0), ([45, 44], -4), ([45, 43, 44], -2), ([45, 43, 43, 44], -1), ([44], 0), ([43, 44], 4), ([43, 45, 44], 2), ([44], 0), ([45, 44], -4), ([45, 43, 44], -2), ([45, 43, 43, 44], -1)]),
  ([43, 43], [45, 45, 43, 45], [0, -4, -2, -1], [0, 4, 8], [0, -4, -8, -6, -7], [([44], 0), ([45, 44], -4), ([45, 43, 44], -2), ([45, 43, 43, 44], -1), ([44], 0), ([43, 44], 4), ([43, 43, 44], 8), ([44], 0), ([45, 44], -4), ([45, 45, 44], -8), ([45, 45, 43, 44], -6), ([45, 45, 43, 45, 44], -7)]),
  ([45, 45, 45], [43, 43, 43, 43, 45, 45], [0, -4, -2, -1], [0, -4, -8, -12], [0, 4, 8, 12, 16, 14, 13], [([44], 0), ([45, 44], -4), ([45, 43, 44], -2), ([45, 43, 43, 44], -1), ([44], 0), ([45, 44], -4), ([45, 45, 44], -8), ([45, 45, 45, 44], -12), ([44], 0), ([43, 44], 4), ([43, 43, 44], 8), ([43, 43, 43, 44], 12), ([43, 43, 43, 43, 44], 16), ([43, 43, 43, 43, 45, 44], 14), ([43, 43, 43, 43, 45, 45, 44], 13)]),
  ([45, 45, 43], [43, 43, 45, 43], [0, -4, -2, -1], [0, -4, -8, -6], [0, 4, 8, 6, 7], [([44], 0), ([45, 44], -4), ([45, 43, 44], -2), ([45, 43, 43, 44], -1), ([44], 0), ([45, 44], -4), ([45, 45, 44], -8), ([45, 45, 43, 44], -6), ([44], 0), ([43, 44], 4), ([43, 43, 44], 8), ([43, 43, 45, 44], 6), ([43, 43, 45, 43, 44], 7)]),
  ([45, 43, 45], [43], [0, -4, -2, -1], [0, -4, -2, -3], [0, 4], [([44], 0), ([45, 44], -4), ([45, 43, 44], -2), ([45, 43, 43, 44], -1), ([44], 0), ([45, 44], -4), ([45, 43, 44], -2), ([45, 43, 45, 44], -3), ([44], 0), ([43, 44], 4)]),
  ([45, 43, 43], [43, 45], [0, -4, -2, -1], [0, -4, -2, -1], [0, 4, 2], [([44], 0), ([45, 44], -4), ([45, 43, 44], -2), ([45, 43, 43, 44], -1), ([44], 0), ([45, 44], -4), ([45, 43, 44], -2), ([45, 43, 43, 44], -1), ([44], 0), ([43, 44], 4), ([43, 45, 44], 2)]),
  ([43, 45, 45], [], [0, -4, -2, -1], [0, 4, 2, 1], [0], [([44], 0), ([45, 44], -4), ([45, 43, 44], -2), ([45, 43, 43, 44], -1), ([44], 0), ([43, 44], 4), ([43, 45, 44], 2), ([43, 45, 45, 44], 1), ([44], 0)]),
  ([43, 45, 43], [45, 43], [0, -4, -2, -1], [0, 4, 2, 3], [0, -4, -2], [([44], 0), ([45, 44], -4), ([45, 43, 44], -2), ([45, 43, 43, 44], -1), ([44], 0), ([43, 44], 4), ([43, 45, 44], 2), ([43, 45, 43, 44], 3), ([44], 0), ([45, 44], -4), ([45, 43, 44], -2)]),
  ([43, 43, 45], [45, 45, 43, 43], [0, -4, -2, -1], [0, 4, 8, 6], [0, -4, -8, -6, -5], [([44], 0), ([45, 44], -4), ([45, 43, 44], -2), ([45, 43, 43, 44], -1), ([44], 0), ([43, 44], 4), ([43, 43, 44], 8), ([43, 43, 45, 44], 6), ([44], 0), ([45, 44], -4), ([45, 45, 44], -8), ([45, 45, 43, 44], -6), ([45, 45, 43, 43, 44], -5)]),
  ([43, 43, 43], [45, 45, 45, 43, 45], [0, -4, -2, -1], [0, 4, 8, 12], [0, -4, -8, -12, -10, -11], [([44], 0), ([45, 44], -4), ([45, 43, 44], -2), ([45, 43, 43, 44], -1), ([44], 0), ([43, 44], 4), ([43, 43, 44], 8), ([43, 43, 43, 44], 12), ([44], 0), ([45, 44], -4), ([45, 45, 44], -8), ([45, 45, 45, 44], -12), ([45, 45, 45, 43, 44], -10), ([45, 45, 45, 43, 45, 44], -11)])]
theorem row10 : tab10.all (rowOk [45, 43, 43]) = true := by decide +kernel
theorem fst10 : tab10.map (fun r => r.1) = alls := by decide +kernel
noncomputable def tab11 : List Row := [
  ([], [45, 43, 43], [0, 4, 2, 1], [0], [0, -4, -2, -1], [([44], 0), ([43, 44], 4), ([43, 45, 44], 2), ([43, 45, 45, 44], 1), ([44], 0), ([44], 0), ([45, 44], -4), ([45, 43, 44], -2), ([45, 43, 43, 44], -1)]),
  ([45], [43, 45, 43], [0, 4, 2, 1], [0, -4], [0, 4, 2, 3], [([44], 0), ([43, 44], 4), ([43, 45, 44], 2), ([43, 45, 45, 44], 1), ([44], 0), ([45, 44], -4), ([44], 0), ([43, 44], 4), ([43, 45, 44], 2), ([43, 45, 43, 44], 3)]),
  ([43], [45, 45, 43, 43], [0, 4, 2, 1], [0, 4], [0, -4, -8, -6, -5], [([44], 0), ([43, 44], 4), ([43, 45, 44], 2), ([43, 45, 45, 44], 1), ([44], 0), ([43, 44], 4), ([44], 0), ([45, 44], -4), ([45, 45, 44], -8), ([45, 45, 43, 44], -6), ([45, 45, 43, 43, 44], -5)]),
  ([45, 45], [43, 43, 45, 43], [0, 4, 2, 1], [0, -4, -8], [0, 4, 8, 6, 7], [([44], 0), ([43, 44], 4), ([43, 45, 44], 2), ([43, 45, 45, 44], 1), ([44], 0), ([45, 44], -4), ([45, 45, 44], -8), ([44], 0), ([43, 44], 4), ([43, 43, 44], 8), ([43, 43, 45, 44], 6), ([43, 43, 45, 43, 44], 7)]),
  ([45, 43], [43, 45, 45], [0, 4, 2, 1], [0, -4, -2], [0, 4, 2, 1], [([44], 0), ([43, 44], 4), ([43, 45, 44], 2), ([43, 45, 45, 44], 1), ([44], 0), ([45, 44], -4), ([45, 43, 44], -2), ([44], 0), ([43, 44], 4), ([43, 45, 44], 2), ([43, 45, 45, 44], 1)]),
  ([43, 45], [45, 43, 45], [0, 4, 2, 1], [0, 4, 2], [0, -4, -2, -3], [([44], 0), ([43, 44], 4), ([43, 45, 44], 2), ([43, 45, 45, 44], 1), ([44], 0), ([43, 44], 4), ([43, 45, 44], 2), ([44], 0), ([45, 44], -4), ([45, 43, 44], -2), ([45, 43, 45, 44], -3)]),
  ([43, 43], [45, 45, 45, 43, 43], [0, 4, 2, 1], [0, 4, 8], [0, -4, -8, -12, -10, -9], [([44], 0), ([43, 44], 4), ([43, 45, 44], 2), ([43, 45, 45, 44], 1), ([44], 0), ([43, 44], 4), ([43, 43, 44], 8), ([44], 0), ([45, 44], -4), ([45, 45, 44], -8), ([45, 45, 45, 44], -12), ([45, 45, 45, 43, 44], -10), ([45, 45, 45, 43, 43, 44], -9)]),
  ([45, 45, 45], [43, 43, 43, 45, 43], [0, 4, 2, 1], [0, -4, -8, -12], [0, 4, 8, 12, 10, 11], [([44], 0), ([43, 44], 4), ([43, 45, 44], 2), ([43, 45, 45, 44], 1), ([44], 0), ([45, 44], -4), ([45, 45, 44], -8), ([45, 45, 45, 44], -12), ([44], 0), ([43, 44], 4), ([43, 43, 44], 8), ([43, 43, 43, 44], 12), ([43, 43, 43, 45, 44], 10), ([43, 43, 43, 45, 43, 44], 11)]),
  ([45, 45, 43], [43, 43, 45, 45], [0, 4, 2, 1], [0, -4, -8, -6], [0, 4, 8, 6, 5], [([44], 0), ([43, 44], 4), ([43, 45, 44], 2), ([43, 45, 45, 44], 1), ([44], 0), ([45, 44], -4), ([45, 45, 44], -8), ([45, 45, 43, 44], -6), ([44], 0), ([43, 44], 4), ([43, 43, 44], 8), ([43, 43, 45, 44], 6), ([43, 43, 45, 45, 44], 5)]),
  ([45, 43, 45], [43, 45], [0, 4, 2, 1], [0, -4, -2, -3], [0, 4, 2], [([44], 0), ([43, 44], 4), ([43, 45, 44], 2), ([43, 45, 45, 44], 1), ([44], 0), ([45, 44], -4), ([45, 43, 44], -2), ([45, 43, 45, 44], -3), ([44], 0), ([43, 44], 4), ([43, 45, 44], 2)]),
  ([45, 43, 43], [], [0, 4, 2, 1], [0, -4, -2, -1], [0], [([44], 0), ([43, 44], 4), ([43, 45, 44], 2), ([43, 45, 45, 44], 1), ([44], 0), ([45, 44], -4), ([45, 43, 44], -2), ([45, 43, 43, 44], -1), ([44], 0)]),
  ([43, 45, 45], [45, 43], [0, 4, 2, 1], [0, 4, 2, 1], [0, -4, -2], [([44], 0), ([43, 44], 4), ([43, 45, 44], 2), ([43, 45, 45, 44], 1), ([44], 0), ([43, 44], 4), ([43, 45, 44], 2), ([43, 45, 45, 44], 1), ([44], 0), ([45, 44], -4), ([45, 43, 44], -2)]),
  ([43, 45, 43], [45], [0, 4, 2, 1], [0, 4, 2, 3], [0, -4], [([44], 0), ([43, 44], 4), ([43, 45, 44], 2), ([43, 45, 45, 44], 1), ([44], 0), ([43, 44], 4), ([43, 45, 44], 2), ([43, 45, 43, 44], 3), ([44], 0), ([45, 44], -4)]),
  ([43, 43, 45], [45, 45, 43, 45], [0, 4, 2, 1], [0, 4, 8, 6], [0, -4, -8, -6, -7], [([44], 0), ([43, 44], 4), ([43, 45, 44], 2), ([43, 45, 45, 44], 1), ([44], 0), ([43, 44], 4), ([43, 43, 44], 8), ([43, 43, 45, 44], 6), ([44], 0), ([45, 44], -4), ([45, 45, 44], -8), ([45, 45, 43, 44], -6), ([45, 45, 43, 45, 44], -7)]),
  ([43, 43, 43], [45, 45, 45, 45, 43, 43], [0, 4, 2, 1], [0, 4, 8, 12], [0, -4, -8, -12, -16, -14, -13], [([44], 0), ([43, 44], 4), ([43, 45, 44], 2), ([43, 45, 45, 44], 1), ([44], 0), ([43, 44], 4), ([43, 43, 44], 8), ([43, 43, 43, 44], 12), ([44], 0), ([45, 44], -4), ([45, 45, 44], -8), ([45, 45, 45, 44], -12), ([45, 45, 45, 45, 44], -16), ([45, 45, 45, 45, 43, 44], -14), ([45, 45, 45, 45, 43, 43, 44], -13)])]
theorem row11 : tab11.all (rowOk [43, 45, 45]) = true := by decide +kernel
theorem fst11 : tab11.map (fun r => r.1) = alls := by decide +kernel
noncomputable def tab12 : List Row := [
  ([], [45, 43, 45], [0, 4, 2, 3], [0], [0, -4, -2, -3], [([44], 0), ([43, 44], 4), ([43, 45, 44], 2), ([43, 45, 43, 44], 3), ([44], 0), ([44], 0), ([45, 44], -4), ([45, 43, 44], -2), ([45, 43, 45, 44], -3)]),
  ([45], [43, 45, 45], [0, 4, 2, 3], [0, -4], [0, 4, 2, 1], [([44], 0), ([43, 44], 4), ([43, 45, 44], 2), ([43, 45, 43, 44], 3), ([44], 0), ([45, 44], -4), ([44], 0), ([43, 44], 4), ([43, 45, 44], 2), ([43, 45, 45, 44], 1)]),
  ([43], [45, 45, 43, 45], [0, 4, 2, 3], [0, 4], [0, -4, -8, -6, -7], [([44], 0), ([43, 44], 4), ([43, 45, 44], 2), ([43, 45, 43, 44], 3), ([44], 0), ([43, 44], 4), ([44], 0), ([45, 44], -4), ([45, 45, 44], -8), ([45, 45, 43, 44], -6), ([45, 45, 43, 45, 44], -7)]),
  ([45, 45], [43, 43, 45, 45], [0, 4, 2, 3], [0, -4, -8], [0, 4, 8, 6, 5], [([44], 0), ([43, 44], 4), ([43, 45, 44], 2), ([43, 45, 43, 44], 3), ([44], 0), ([45, 44], -4), ([45, 45, 44], -8), ([44], 0), ([43, 44], 4), ([43, 43, 44], 8), ([43, 43, 45, 44], 6), ([43, 43, 45, 45, 44], 5)]),
  ([45, 43], [45, 43, 43], [0, 4, 2, 3], [0, -4, -2], [0, -4, -2, -1], [([44], 0), ([43, 44], 4), ([43, 45, 44], 2), ([43, 45, 43, 44], 3), ([44], 0), ([45, 44], -4), ([45, 43, 44], -2), ([44], 0), ([45, 44], -4), ([45, 43, 44], -2), ([45, 43, 43, 44], -1)]),
  ([43, 45], [45, 45, 43, 43], [0, 4, 2, 3], [0, 4, 2], [0, -4, -8, -6, -5], [([44], 0), ([43, 44], 4), ([43, 45, 44], 2), ([43, 45, 43, 44], 3), ([44], 0), ([43, 44], 4), ([43, 45, 44], 2), ([44], 0), ([45, 44], -4), ([45, 45, 44], -8), ([45, 45, 43, 44], -6), ([45, 45, 43, 43, 44], -5)]),
  ([43, 43], [45, 45, 45, 43, 45], [0, 4, 2, 3], [0, 4, 8], [0, -4, -8, -12, -10, -11], [([44], 0), ([43, 44], 4), ([43, 45, 44], 2), ([43, 45, 43, 44], 3), ([44], 0), ([43, 44], 4), ([43, 43, 44], 8), ([44], 0), ([45, 44], -4), ([45, 45, 44], -8), ([45, 45, 45, 44], -12), ([45, 45, 45, 43, 44], -10), ([45, 45, 45, 43, 45, 44], -11)]),
  ([45, 45, 45], [43, 43, 43, 45, 45], [0, 4, 2, 3], [0, -4, -8, -12], [0, 4, 8, 12, 10, 9], [([44], 0), ([43, 44], 4), ([43, 45, 44], 2), ([43, 45, 43, 44], 3), ([44], 0), ([45, 44], -4), ([45, 45, 44], -8), ([45, 45, 45, 44], -12), ([44], 0), ([43, 44], 4), ([43, 43, 44], 8), ([43, 43, 43, 44], 12), ([43, 43, 43, 45, 44], 10), ([43, 43, 43, 45, 45, 44], 9)]),
  ([45, 45, 43], [43, 45, 43], [0, 4, 2, 3], [0, -4, -8, -6], [0, 4, 2, 3], [([44], 0), ([43, 44], 4), ([43, 45, 44], 2), ([43, 45, 43, 44], 3), ([44], 0), ([45, 44], -4), ([45, 45, 44], -8), ([45, 45, 43, 44], -6), ([44], 0), ([43, 44], 4), ([43, 45, 44], 2), ([43, 45, 43, 44], 3)]),
  ([45, 43, 45], [], [0, 4, 2, 3], [0, -4, -2, -3], [0], [([44], 0), ([43, 44], 4), ([43, 45, 44], 2), ([43, 45, 43, 44], 3), ([44], 0), ([45, 44], -4), ([45, 43, 44], -2), ([45, 43, 45, 44], -3), ([44], 0)]),
  ([45, 43, 43], [45, 43], [0, 4, 2, 3], [0, -4, -2, -1], [0, -4, -2], [([44], 0), ([43, 44], 4), ([43, 45, 44], 2), ([43, 45, 43, 44], 3), ([44], 0), ([45, 44], -4), ([45, 43, 44], -2), ([45, 43, 43, 44], -1), ([44], 0), ([45, 44], -4), ([45, 43, 44], -2)]),
  ([43, 45, 45], [45], [0, 4, 2, 3], [0, 4, 2, 1], [0, -4], [([44], 0), ([43, 44], 4), ([43, 45, 44], 2), ([43, 45, 43, 44], 3), ([44], 0), ([43, 44], 4), ([43, 45, 44], 2), ([43, 45, 45, 44], 1), ([44], 0), ([45, 44], -4)]),
  ([43, 45, 43], [45, 45, 43], [0, 4, 2, 3], [0, 4, 2, 3], [0, -4, -8, -6], [([44], 0), ([43, 44], 4), ([43, 45, 44], 2), ([43, 45, 43, 44], 3), ([44], 0), ([43, 44], 4), ([43, 45, 44], 2), ([43, 45, 43, 44], 3), ([44], 0), ([45, 44], -4), ([45, 45, 44], -8), ([45, 45, 43, 44], -6)]),
  ([43, 43, 45], [45, 45, 45, 43, 43], [0, 4, 2, 3], [0, 4, 8, 6], [0, -4, -8, -12, -10, -9], [([44], 0), ([43, 44], 4), ([43, 45, 44], 2), ([43, 45, 43, 44], 3), ([44], 0), ([43, 44], 4), ([43, 43, 44], 8), ([43, 43, 45, 44], 6), ([44], 0), ([45, 44], -4), ([45, 45, 44], -8), ([45, 45, 45, 44], -12), ([45, 45, 45, 43, 44], -10), ([45, 45, 45, 43, 43, 44], -9)]),
  ([43, 43, 43], [45, 45, 45, 45, 43, 45], [0, 4, 2, 3], [0, 4, 8, 12], [0, -4, -8, -12, -16, -14, -15], [([44], 0), ([43, 44], 4), ([43, 45, 44], 2), ([43, 45, 43, 44], 3), ([44], 0), ([43, 44], 4), ([43, 43, 44], 8), ([43, 43, 43, 44], 12), ([44], 0), ([45, 44], -4), ([45, 45, 44], -8), ([45, 45, 45, 44], -12), ([45, 45, 45, 45, 44], -16), ([45, 45, 45, 45, 43, 44], -14), ([45, 45, 45, 45, 43, 45, 44], -15)])]
theorem row12 : tab12.all (rowOk [43, 45, 43]) = true := by decide +kernel
theorem fst12 : tab12.map (fun r => r.1) = alls := by decide +kernel
noncomputable def tab13 : List Row := [
  ([], [45, 45, 43], [0, 4, 8, 6], [0], [0, -4, -8, -6], [([44], 0), ([43, 44], 4), ([43, 43, 44], 8), ([43, 43, 45, 44], 6), ([44], 0), ([44], 0), ([45, 44], -4), ([45, 45, 44], -8), ([45, 45, 43, 44], -6)]),
  ([45], [45, 43], [0, 4, 8, 6], [0, -4], [0, -4, -2], [([44], 0), ([43, 44], 4), ([43, 43, 44], 8), ([43, 43, 45, 44], 6), ([44], 0), ([45, 44], -4), ([44], 0), ([45, 44], -4), ([45, 43, 44], -2)]),
  ([43], [45, 45, 45, 43], [0, 4, 8, 6], [0, 4], [0, -4, -8, -12, -10], [([44], 0), ([43, 44], 4), ([43, 43, 44], 8), ([43, 43, 45, 44], 6), ([44], 0), ([43, 44], 4), ([44], 0), ([45, 44], -4), ([45, 45, 44], -8), ([45, 45, 45, 44], -12), ([45, 45, 45, 43, 44], -10)]),
  ([45, 45], [43, 45], [0, 4, 8, 6], [0, -4, -8], [0, 4, 2], [([44], 0), ([43, 44], 4), ([43, 43, 44], 8), ([43, 43, 45, 44], 6), ([44], 0), ([45, 44], -4), ([45, 45, 44], -8), ([44], 0), ([43, 44], 4), ([43, 45, 44], 2)]),
  ([45, 43], [45], [0, 4, 8, 6], [0, -4, -2], [0, -4], [([44], 0), ([43, 44], 4), ([43, 43, 44], 8), ([43, 43, 45, 44], 6), ([44], 0), ([45, 44], -4), ([45, 43, 44], -2), ([44], 0), ([45, 44], -4)]),
  ([43, 45], [45, 45], [0, 4, 8, 6], [0, 4, 2], [0, -4, -8], [([44], 0), ([43, 44], 4), ([43, 43, 44], 8), ([43, 43, 45, 44], 6), ([44], 0), ([43, 44], 4), ([43, 45, 44], 2), ([44], 0), ([45, 44], -4), ([45, 45, 44], -8)]),
  ([43, 43], [45, 45, 45, 45, 43], [0, 4, 8, 6], [0, 4, 8], [0, -4, -8, -12, -16, -14], [([44], 0), ([43, 44], 4), ([43, 43, 44], 8), ([43, 43, 45, 44], 6), ([44], 0), ([43, 44], 4), ([43, 43, 44], 8), ([44], 0), ([45, 44], -4), ([45, 45, 44], -8), ([45, 45, 45, 44], -12), ([45, 45, 45, 45, 44], -16), ([45, 45, 45, 45, 43, 44], -14)]),
  ([45, 45, 45], [43, 43, 45], [0, 4, 8, 6], [0, -4, -8, -12], [0, 4, 8, 6], [([44], 0), ([43, 44], 4), ([43, 43, 44], 8), ([43, 43, 45, 44], 6), ([44], 0), ([45, 44], -4), ([45, 45, 44], -8), ([45, 45, 45, 44], -12), ([44], 0), ([43, 44], 4), ([43, 43, 44], 8), ([43, 43, 45, 44], 6)]),
  ([45, 45, 43], [], [0, 4, 8, 6], [0, -4, -8, -6], [0], [([44], 0), ([43, 44], 4), ([43, 43, 44], 8), ([43, 43, 45, 44], 6), ([44], 0), ([45, 44], -4), ([45, 45, 44], -8), ([45, 45, 43, 44], -6), ([44], 0)]),
  ([45, 43, 45], [45, 43, 45], [0, 4, 8, 6], [0, -4, -2, -3], [0, -4, -2, -3], [([44], 0), ([43, 44], 4), ([43, 43, 44], 8), ([43, 43, 45, 44], 6), ([44], 0), ([45, 44], -4), ([45, 43, 44], -2), ([45, 43, 45, 44], -3), ([44], 0), ([45, 44], -4), ([45, 43, 44], -2), ([45, 43, 45, 44], -3)]),
  ([45, 43, 43], [45, 45, 43, 43], [0, 4, 8, 6], [0, -4, -2, -1], [0, -4, -8, -6, -5], [([44], 0), ([43, 44], 4), ([43, 43, 44], 8), ([43, 43, 45, 44], 6), ([44], 0), ([45, 44], -4), ([45, 43, 44], -2), ([45, 43, 43, 44], -1), ([44], 0), ([45, 44], -4), ([45, 45, 44], -8), ([45, 45, 43, 44], -6), ([45, 45, 43, 43, 44], -5)]),
  ([43, 45, 45], [45, 45, 43, 45], [0, 4, 8, 6], [0, 4, 2, 1], [0, -4, -8, -6, -7], [([44], 0), ([43, 44], 4), ([43, 43, 44], 8), ([43, 43, 45, 44], 6), ([44], 0), ([43, 44], 4), ([43, 45, 44], 2), ([43, 45, 45, 44], 1), ([44], 0), ([45, 44], -4), ([45, 45, 44], -8), ([45, 45, 43, 44], -6), ([45, 45, 43, 45, 44], -7)]),
  ([43, 45, 43], [45, 45, 45, 43, 43], [0, 4, 8, 6], [0, 4, 2, 3], [0, -4, -8, -12, -10, -9], [([44], 0), ([43, 44], 4), ([43, 43, 44], 8), ([43, 43, 45, 44], 6), ([44], 0), ([43, 44], 4), ([43, 45, 44], 2), ([43, 45, 43, 44], 3), ([44], 0), ([45, 44], -4), ([45, 45, 44], -8), ([45, 45, 45, 44], -12), ([45, 45, 45, 43, 44], -10), ([45, 45, 45, 43, 43, 44], -9)]),
  ([43, 43, 45], [45, 45, 45], [0, 4, 8, 6], [0, 4, 8, 6], [0, -4, -8, -12], [([44], 0), ([43, 44], 4), ([43, 43, 44], 8), ([43, 43, 45, 44], 6), ([44], 0), ([43, 44], 4), ([43, 43, 44], 8), ([43, 43, 45, 44], 6), ([44], 0), ([45, 44], -4), ([45, 45, 44], -8), ([45, 45, 45, 44], -12)]),
  ([43, 43, 43], [45, 45, 45, 45, 45, 43], [0, 4, 8, 6], [0, 4, 8, 12], [0, -4, -8, -12, -16, -20, -18], [([44], 0), ([43, 44], 4), ([43, 43, 44], 8), ([43, 43, 45, 44], 6), ([44], 0), ([43, 44], 4), ([43, 43, 44], 8), ([43, 43, 43, 44], 12), ([44], 0), ([45, 44], -4), ([45, 45, 44], -8), ([45, 45, 45, 44], -12), ([45, 45, 45, 45, 44], -16), ([45, 45, 45, 45, 45, 44], -20), ([45, 45, 45, 45, 45, 43, 44], -18)])]
theorem row13 : tab13.all (rowOk [43, 43, 45]) = true := by decide +kernel
theorem fst13 : tab13.map (fun r => r.1) = alls := by decide +kernel
noncomputable def tab14 : List Row := [
  ([], [45, 45, 45], [0, 4, 8, 12], [0], [0, -4, -8, -12], [([44], 0), ([43, 44], 4), ([43, 43, 44], 8), ([43, 43, 43, 44], 12), ([44], 0), ([44], 0), ([45, 44], -4), ([45, 45, 44], -8), ([45, 45, 45, 44], -12)]),
  ([45], [45, 45], [0, 4, 8, 12], [0, -4], [0, -4, -8], [([44], 0), ([43, 44], 4), ([43, 43, 44], 8), ([43, 43, 43, 44], 12), ([44], 0), ([45, 44], -4), ([44], 0), ([45, 44], -4), ([45, 45, 44], -8)]),
  ([43], [45, 45, 45, 45], [0, 4, 8, 12], [0, 4], [0, -4, -8, -12, -16], [([44], 0), ([43, 44], 4), ([43, 43, 44], 8), ([43, 43, 43, 44], 12), ([44], 0), ([43, 44], 4), ([44], 0), ([45, 44], -4), ([45, 45, 44], -8), ([45, 45, 45, 44], -12), ([45, 45, 45, 45, 44], -16)]),
  ([45, 45], [45], [0, 4, 8, 12], [0, -4, -8], [0, -4], [([44], 0), ([43, 44], 4), ([43, 43, 44], 8), ([43, 43, 43, 44], 12), ([44], 0), ([45, 44], -4), ([45, 45, 44], -8), ([44], 0), ([45, 44], -4)]),
  ([45, 43], [45, 45, 45, 43], [0, 4, 8, 12], [0, -4, -2], [0, -4, -8, -12, -10], [([44], 0), ([43, 44], 4), ([43, 43, 44], 8), ([43, 43, 43, 44], 12), ([44], 0), ([45, 44], -4), ([45, 43, 44], -2), ([44], 0), ([45, 44], -4), ([45, 45, 44], -8), ([45, 45, 45, 44], -12), ([45, 45, 45, 43, 44], -10)]),
  ([43, 45], [45, 45, 45, 45, 43], [0, 4, 8, 12], [0, 4, 2], [0, -4, -8, -12, -16, -14], [([44], 0), ([43, 44], 4), ([43, 43, 44], 8), ([43, 43, 43, 44], 12), ([44], 0), ([43, 44], 4), ([43, 45, 44], 2), ([44], 0), ([45, 44], -4), ([45, 45, 44], -8), ([45, 45, 45, 44], -12), ([45, 45, 45, 45, 44], -16), ([45, 45, 45, 45, 43, 44], -14)]),
  ([43, 43], [45, 45, 45, 45, 45], [0, 4, 8, 12], [0, 4, 8], [0, -4, -8, -12, -16, -20], [([44], 0), ([43, 44], 4), ([43, 43, 44], 8), ([43, 43, 43, 44], 12), ([44], 0), ([43, 44], 4), ([43, 43, 44], 8), ([44], 0), ([45, 44], -4), ([45, 45, 44], -8), ([45, 45, 45, 44], -12), ([45, 45, 45, 45, 44], -16), ([45, 45, 45, 45, 45, 44], -20)]),
  ([45, 45, 45], [], [0, 4, 8, 12], [0, -4, -8, -12], [0], [([44], 0), ([43, 44], 4), ([43, 43, 44], 8), ([43, 43, 43, 44], 12), ([44], 0), ([45, 44], -4), ([45, 45, 44], -8), ([45, 45, 45, 44], -12), ([44], 0)]),
  ([45, 45, 43], [45, 45, 43], [0, 4, 8, 12], [0, -4, -8, -6], [0, -4, -8, -6], [([44], 0), ([43, 44], 4), ([43, 43, 44], 8), ([43, 43, 43, 44], 12), ([44], 0), ([45, 44], -4), ([45, 45, 44], -8), ([45, 45, 43, 44], -6), ([44], 0), ([45, 44], -4), ([45, 45, 44], -8), ([45, 45, 43, 44], -6)]),
  ([45, 43, 45], [45, 45, 45, 43, 43], [0, 4, 8, 12], [0, -4, -2, -3], [0, -4, -8, -12, -10, -9], [([44], 0), ([43, 44], 4), ([43, 43, 44], 8), ([43, 43, 43, 44], 12), ([44], 0), ([45, 44], -4), ([45, 43, 44], -2), ([45, 43, 45, 44], -3), ([44], 0), ([45, 44], -4), ([45, 45, 44], -8), ([45, 45, 45, 44], -12), ([45, 45, 45, 43, 44], -10), ([45, 45, 45, 43, 43, 44], -9)]),
  ([45, 43, 43], [45, 45, 45, 43, 45], [0, 4, 8, 12], [0, -4, -2, -1], [0, -4, -8, -12, -10, -11], [([44], 0), ([43, 44], 4), ([43, 43, 44], 8), ([43, 43, 43, 44], 12), ([44], 0), ([45, 44], -4), ([45, 43, 44], -2), ([45, 43, 43, 44], -1), ([44], 0), ([45, 44], -4), ([45, 45, 44], -8), ([45, 45, 45, 44], -12), ([45, 45, 45, 43, 44], -10), ([45, 45, 45, 43, 45, 44], -11)]),
  ([43, 45, 45], [45, 45, 45, 45, 43, 43], [0, 4, 8, 12], [0, 4, 2, 1], [0, -4, -8, -12, -16, -14, -13], [([44], 0), ([43, 44], 4), ([43, 43, 44], 8), ([43, 43, 43, 44], 12), ([44], 0), ([43, 44], 4), ([43, 45, 44], 2), ([43, 45, 45, 44], 1), ([44], 0), ([45, 44], -4), ([45, 45, 44], -8), ([45, 45, 45, 44], -12), ([45, 45, 45, 45, 44], -16), ([45, 45, 45, 45, 43, 44], -14), ([45, 45, 45, 45, 43, 43, 44], -13)]),
  ([43, 45, 43], [45, 45, 45, 45, 43, 45], [0, 4, 8, 12], [0, 4, 2, 3], [0, -4, -8, -12, -16, -14, -15], [([44], 0), ([43, 44], 4), ([43, 43, 44], 8), ([43, 43, 43, 44], 12), ([44], 0), ([43, 44], 4), ([43, 45, 44], 2), ([43, 45, 43, 44], 3), ([44], 0), ([45, 44], -4), ([45, 45, 44], -8), ([45, 45, 45, 44], -12), ([45, 45, 45, 45, 44], -16), ([45, 45, 45, 45, 43, 44], -14), ([45, 45, 45, 45, 43, 45, 44], -15)]),
  ([43, 43, 45], [45, 45, 45, 45, 45, 43], [0, 4, 8, 12], [0, 4, 8, 6], [0, -4, -8, -12, -16, -20, -18], [([44], 0), ([43, 44], 4), ([43, 43, 44], 8), ([43, 43, 43, 44], 12), ([44], 0), ([43, 44], 4), ([43, 43, 44], 8), ([43, 43, 45, 44], 6), ([44], 0), ([45, 44], -4), ([45, 45, 44], -8), ([45, 45, 45, 44], -12), ([45, 45, 45, 45, 44], -16), ([45, 45, 45, 45, 45, 44], -20), ([45, 45, 45, 45, 45, 43, 44], -18)]),
  ([43, 43, 43], [45, 45, 45, 45, 45, 45], [0, 4, 8, 12], [0, 4, 8, 12], [0, -4, -8, -12, -16, -20, -24], [([44], 0), ([43, 44], 4), ([43, 43, 44], 8), ([43, 43, 43, 44], 12), ([44], 0), ([43, 44], 4), ([43, 43, 44], 8), ([43, 43, 43, 44], 12), ([44], 0), ([45, 44], -4), ([45, 45, 44], -8), ([45, 45, 45, 44], -12), ([45, 45, 45, 45, 44], -16), ([45, 45, 45, 45, 45, 44], -20), ([45, 45, 45, 45, 45, 45, 44], -24)])]
theorem row14 : tab14.all (rowOk [43, 43, 43]) = true := by decide +kernel
theorem fst14 : tab14.map (fun r => r.1) = alls := by decide +kernel
end Mine
end
section
open PySem PySem.W PyProof.Rows
namespace Mine
theorem plain (a b : Int) : Plain a b := by
  have key : ∀ one ∈ alls, ∀ two ∈ alls, ∃ three A B C, LawOk one two three A B C := by
    intro one h two ht
    unfold alls at h
    simp only [List.mem_cons, List.not_mem_nil, or_false] at h
    rcases h with rfl | rfl | rfl | rfl | rfl | rfl | rfl | rfl | rfl | rfl | rfl | rfl | rfl | rfl | rfl
    · exact rows_ok row0 fst0 ht
    · exact rows_ok row1 fst1 ht
    · exact rows_ok row2 fst2 ht
    · exact rows_ok row3 fst3 ht
    · exact rows_ok row4 fst4 ht
    · exact rows_ok row5 fst5 ht
    · exact rows_ok row6 fst6 ht
    · exact rows_ok row7 fst7 ht
    · exact rows_ok row8 fst8 ht
    · exact rows_ok row9 fst9 ht
    · exact rows_ok row10 fst10 ht
    · exact rows_ok row11 fst11 ht
    · exact rows_ok row12 fst12 ht
    · exact rows_ok row13 fst13 ht
    · exact rows_ok row14 fst14 ht
  obtain ⟨three, A, B, C, ok⟩ := key _ (drawn_alls a) _ (drawn_alls b)
  exact ⟨_, _, three, A, B, C, rfl, rfl, ok⟩
end Mine
end
section
open PySem PySem.W PyProof.Rows
namespace Mine
theorem slice_eq (l : List Nat) {k : Nat} (hk : k ≤ l.length) : Txt.slice (tx l) none (some (k : Int)) = tx (l.take k) := by
  show StrLaws.sliceText (tx l) none (some (k : Int)) = _
  rw [StrLaws.sliceText_to ⟨by omega, by simp [tx]; omega⟩]
  simp [tx]
theorem slice_tx {prog : Program} {w : World} {A : Around} {E : Value → Shared → Prop} {s : Shared} {h₀ : Heap} {L : Addr} {m : Str → Option Value} {news : List (Addr × Obj)} {value slice : PySem.Expr} {l : List Nat} {t : Tok} {k : Nat} {uj : Tok} {Q : Value → Shared → Prop} (hk : k ≤ l.length) (hz : l.length ≤ 1000) (hF : Fr h₀ L s.heap m) (hN : News h₀ L s.heap news)
    (h : ∀ h' t' k', Fr h₀ L h' m → News h₀ L h' news → Q (.str (tx (l.take k)) t') { s with heap := h', toks := k' })
    (hs : subscripted slice false (.str (tx l) t) (.ref s.heap.objs.size) = operate [.ref s.heap.objs.size, .str (tx l) t] (getItem (.str (tx l) t) (.ref s.heap.objs.size)) := by with_unfolding_all rfl)
    (ht : ∀ r, letTemporaryGo value (.str (tx l) t) r = pure () := by intro _; with_unfolding_all rfl) :
    wpAny (model prog w) A (subscriptTail value slice (.str (tx l) t) (.ref s.heap.objs.size)) Q E { s with heap := s.heap.push { cls := .type "slice", data := .fields #[.none, .int (k : Int) uj, .none] } } :=
  slice_strN_ns hF hN (fun h' t' k' a b => by rw [slice_eq l hk]; exact h h' t' k' a b) hs ht (by rw [tx_length, sizeLine_eq]; omega)
theorem two_assignF {prog : Program} {w : World} {A : Around} {E : Value → Shared → Prop} {s : Shared} {env : Env} {h₀ : Heap} {m : Str → Option Value} {news : List (Addr × Obj)} {a b : Str} {pa pb tp : Pos} {kk : Nat} {T : Addr} {o : Obj} {x y : Value} {Q : Unit → Shared → Prop} (hh : A.handled = none) (F : Fr h₀ env.locals s.heap m) (N : News h₀ env.locals s.heap news) (hm : (T, o) ∈ news) (ht : TwoObj o x y)
    (ha : env.kindOf a = some .local) (hb : env.kindOf b = some .local) (hp : (env.scope.kind == .class || (env.scope.kind == .module && env.locals != env.globals)) = false)
    (h : ∀ (h' : Heap) (tk : Nat), Fr h₀ env.locals h' (fun z => if z = b then some y else if z = a then some x else m z) → News h₀ env.locals h' news → Q () { s with heap := h', toks := tk }) :
    wpAny (model prog w) A (assign (.Tuple [.Name a pa, .Name b pb] kk tp) env (.ref T)) Q E s :=
  two_assign hh (N _ hm).1 ht ha hb hp F.ns fun h' tk hn hk => h h' tk ⟨hn, fun c o e => hk c o (Nat.ne_of_lt (Nat.lt_of_lt_of_le (Heap.lt_size e) F.above)) (F.keep c o e), F.above⟩ fun p hp => ⟨hk _ _ (N p hp).2.1 (N p hp).1, (N p hp).2⟩
section
variable {I lZ lE D a0 a1 a2 c T J : Addr} {o4 o2 o3 o0 o1 oZ oT o oJ : Obj} {refs refs' : List Value} {n n' nD n0 n1 n2 : Nat} {v0 v1 v2 : List Value} {R : List (Addr × Obj)}
theorem end_upd (hT : @LT.lt Nat _ lE T) (hJ : lE ≠ J) (hI : @LT.lt Nat _ lE I) (hZ : @LT.lt Nat _ lE lZ) (hd : @LT.lt Nat _ D lE ∧ @LT.lt Nat _ a0 lE ∧ @LT.lt Nat _ a1 lE ∧ @LT.lt Nat _ a2 lE ∧ @LT.lt Nat _ c lE) (hR : ∀ p ∈ R, @LT.lt Nat _ (I + 4) p.1) :
    Upd lE (W.listOf refs.toArray n) (W.listOf refs'.toArray n') ((T, o) :: (J, oJ) :: endN I lZ lE D a0 a1 a2 c o4 o2 o3 o0 o1 oZ oT refs n nD n0 n1 n2 v0 v1 v2 R) ((T, o) :: (J, oJ) :: endN I lZ lE D a0 a1 a2 c o4 o2 o3 o0 o1 oZ oT refs' n' nD n0 n1 n2 v0 v1 v2 R) := by
  have k : ∀ j : Nat, lE ≠ I + j := fun j e => Nat.lt_irrefl _ (Nat.lt_of_lt_of_le hI (e ▸ Nat.le_add_right I j))
  refine .tail (Nat.ne_of_gt hT) (.tail (Ne.symm hJ) (.tail (Ne.symm (k 4)) (.tail (Ne.symm (k 2)) (.tail (Ne.symm (k 3)) (.tail (Nat.ne_of_gt hI) (.tail (Ne.symm (k 1)) (.tail (Nat.ne_of_gt hZ) (.head fun p hp => ?_))))))))
  simp only [List.mem_cons] at hp
  rcases hp with rfl | rfl | rfl | rfl | rfl | hp
  · exact Nat.ne_of_lt hd.1
  · exact Nat.ne_of_lt hd.2.1
  · exact Nat.ne_of_lt hd.2.2.1
  · exact Nat.ne_of_lt hd.2.2.2.1
  · exact Nat.ne_of_lt hd.2.2.2.2
  · exact fun e => Nat.lt_irrefl _ (Nat.lt_trans (Nat.lt_of_lt_of_le hI (Nat.le_add_right I 4)) (e ▸ hR p hp))
theorem end_updP {y : Value} (hT : @LT.lt Nat _ lE T) (hJ : lE ≠ J) (hI : @LT.lt Nat _ lE I) (hZ : @LT.lt Nat _ lE lZ) (hd : @LT.lt Nat _ D lE ∧ @LT.lt Nat _ a0 lE ∧ @LT.lt Nat _ a1 lE ∧ @LT.lt Nat _ a2 lE ∧ @LT.lt Nat _ c lE) (hR : ∀ p ∈ R, @LT.lt Nat _ (I + 4) p.1) :
    Upd lE (W.listOf refs.toArray n) (W.listOf (refs.toArray.push y) (n + 1)) ((T, o) :: (J, oJ) :: endN I lZ lE D a0 a1 a2 c o4 o2 o3 o0 o1 oZ oT refs n nD n0 n1 n2 v0 v1 v2 R) ((T, o) :: (J, oJ) :: endN I lZ lE D a0 a1 a2 c o4 o2 o3 o0 o1 oZ oT (refs ++ [y]) (n + 1) nD n0 n1 n2 v0 v1 v2 R) := by
  rw [List.push_toArray]; exact end_upd hT hJ hI hZ hd hR
theorem zip_off (hZ : @LT.lt Nat _ lZ I ∧ @LT.lt Nat _ lE I ∧ @LT.lt Nat _ D I ∧ @LT.lt Nat _ a0 I ∧ @LT.lt Nat _ a1 I ∧ @LT.lt Nat _ a2 I ∧ @LT.lt Nat _ c I) (hR : ∀ p ∈ R, @LT.lt Nat _ (I + 4) p.1) :
    ∀ p ∈ (lZ, oZ) :: (lE, W.listOf refs.toArray n) :: (D, W.listOf #[Value.ref a0, Value.ref a1, Value.ref a2] nD) :: (a0, W.listOf v0.toArray n0) :: (a1, W.listOf v1.toArray n1) :: (a2, W.listOf v2.toArray n2) :: (c, oT) :: R, ∀ q ∈ [(I + 4, o4), (I + 2, o2), (I + 3, o3), (I, o0), (I + 1, o1)], p.1 ≠ q.1 := by
  intro p hp q hq
  have hq' : @LE.le Nat _ I q.1 ∧ @LE.le Nat _ q.1 (I + 4) := by
    simp only [List.mem_cons, List.not_mem_nil, or_false] at hq
    rcases hq with rfl | rfl | rfl | rfl | rfl
    · exact ⟨Nat.le_add_right _ _, Nat.le_refl _⟩
    · exact ⟨Nat.le_add_right _ _, Nat.add_le_add_left (by decide) _⟩
    · exact ⟨Nat.le_add_right _ _, Nat.add_le_add_left (by decide) _⟩
    · exact ⟨Nat.le_refl _, Nat.le_add_right _ _⟩
    · exact ⟨Nat.le_add_right _ _, Nat.add_le_add_left (by decide) _⟩
  have key : @LT.lt Nat _ p.1 I ∨ @LT.lt Nat _ (I + 4) p.1 := by
    simp only [List.mem_cons] at hp
    rcases hp with rfl | rfl | rfl | rfl | rfl | rfl | rfl | hp
    · exact .inl hZ.1
    · exact .inl hZ.2.1
    · exact .inl hZ.2.2.1
    · exact .inl hZ.2.2.2.1
    · exact .inl hZ.2.2.2.2.1
    · exact .inl hZ.2.2.2.2.2.1
    · exact .inl hZ.2.2.2.2.2.2
    · exact .inr (hR p hp)
  intro e
  rcases key with k | k
  · exact Nat.lt_irrefl _ (Nat.lt_of_lt_of_le k (e ▸ hq'.1))
  · exact Nat.lt_irrefl _ (Nat.lt_of_lt_of_le k (e ▸ hq'.2))
theorem end_sub {x : Addr × Obj} : ∀ p ∈ endN I lZ lE D a0 a1 a2 c o4 o2 o3 o0 o1 oZ oT refs n nD n0 n1 n2 v0 v1 v2 ((T, o) :: R), p ∈ (T, o) :: x :: endN I lZ lE D a0 a1 a2 c o4 o2 o3 o0 o1 oZ oT refs n nD n0 n1 n2 v0 v1 v2 R := by
  intro p hp
  have hp' : p ∈ endN I lZ lE D a0 a1 a2 c o4 o2 o3 o0 o1 oZ oT refs n nD n0 n1 n2 v0 v1 v2 [] ++ ((T, o) :: R) := hp
  show p ∈ (T, o) :: x :: (endN I lZ lE D a0 a1 a2 c o4 o2 o3 o0 o1 oZ oT refs n nD n0 n1 n2 v0 v1 v2 [] ++ R)
  rcases List.mem_append.mp hp' with h | h
  · exact List.mem_cons_of_mem _ (List.mem_cons_of_mem _ (List.mem_append_left _ h))
  rcases List.mem_cons.mp h with h | h
  · rw [h]; exact List.mem_cons_self
  · exact List.mem_cons_of_mem _ (List.mem_cons_of_mem _ (List.mem_append_right _ h))
theorem end_off (off : ∀ p ∈ endN I lZ lE D a0 a1 a2 c o4 o2 o3 o0 o1 oZ oT refs n nD n0 n1 n2 v0 v1 v2 R, p.1 ≠ J) : ∀ p ∈ endN I lZ lE D a0 a1 a2 c o4 o2 o3 o0 o1 oZ oT refs' n' nD n0 n1 n2 v0 v1 v2 ((T, o) :: R), p = (T, o) ∨ p.1 ≠ J := by
  obtain ⟨X, hX⟩ : ∃ X, X = [(I + 4, o4), (I + 2, o2), (I + 3, o3), (I, o0), (I + 1, o1), (lZ, oZ)] := ⟨_, rfl⟩
  obtain ⟨Y, hY⟩ : ∃ Y, Y = [(D, W.listOf #[Value.ref a0, Value.ref a1, Value.ref a2] nD), (a0, W.listOf v0.toArray n0), (a1, W.listOf v1.toArray n1), (a2, W.listOf v2.toArray n2), (c, oT)] := ⟨_, rfl⟩
  have off' : ∀ p ∈ X ++ ((lE, W.listOf refs.toArray n) :: (Y ++ R)), p.1 ≠ J := by rw [hX, hY]; exact off
  intro p hp
  have hp' : p ∈ X ++ ((lE, W.listOf refs'.toArray n') :: (Y ++ ((T, o) :: R))) := by rw [hX, hY]; exact hp
  rcases List.mem_append.mp hp' with h | h
  · exact .inr (off' p (List.mem_append_left _ h))
  rcases List.mem_cons.mp h with h | h
  · exact .inr (by rw [h]; exact off' (lE, W.listOf refs.toArray n) (List.mem_append_right _ List.mem_cons_self))
  rcases List.mem_append.mp h with h | h
  · exact .inr (off' p (List.mem_append_right _ (List.mem_cons_of_mem _ (List.mem_append_left _ h))))
  rcases List.mem_cons.mp h with h | h
  · exact .inl h
  · exact .inr (off' p (List.mem_append_right _ (List.mem_cons_of_mem _ (List.mem_append_right _ h))))
end
end Mine
end
section
open PySem PySem.W PyProof.Rows PySem.Calls PySem.Spec PyProof.Rows.LCg
namespace Mine
section
variable {prog : Program} {w : World} {A : Around} {s : Shared} {env : Env} {h₀ : Heap} {L : Addr} {m : Str → Option Value}
theorem dg_loop {kx vx target iter : PySem.Expr} {scope : Scope} {pos : Pos} {it : Value} {D : Addr} {env : Env} {R : Result → Shared → Prop} (I : Nat → Shared → Prop)
    (turn : ∀ n s, I n s → wpAny (model prog w) A (pyNext it) (fun r s₁ => match r with
      | none => R (.ok .next) s₁
      | some v => wpAny (model prog w) A (letOwnedTupleGo target it v) (fun _ s₀ => wpAny (model prog w) A (assign target env v) (fun _ s₂ =>
          wpAny (model prog w) A (eval kx env) (fun kv s₄ => wpAny (model prog w) A (eval vx env) (fun vv s₅ => wpAny (model prog w) A (dictSet D kv vv) (fun _ s₆ => ∃ m, m < n ∧ I m s₆) FF s₅) FF s₄) FF s₂) FF s₀) FF s₁) FF s)
    (n : Nat) (h : I n s) : codeAny (model prog w) A (.compLoop (.DictComp kx vx [⟨target, iter, [], 0⟩] scope pos) 0 it (.ref D) env) R s := by
  refine codeAny_loop rfl I (fun n s hI => ?_) n h
  show wpAny _ A ((compTurn (.DictComp kx vx [⟨target, iter, [], 0⟩] scope pos) 0 it (.ref D) env).onRaise (fun x => do noteFrame x env; theTreesLotGoes x)) _ _ s
  refine wpAny_noted ?_
  rw [compTurn_dict]
  refine wpAny_bind (wpAny_standAt (wpAny_bind (wpAny_noRaise (wpAny_mono (turn n s hI) (fun r s₁ h₁ => ?_) fun _ _ h' => h'))))
  cases r with
  | none => exact wpAny_pure h₁
  | some v =>
    refine wpAny_bind (wpAny_noRaise (wpAny_mono h₁ (fun _ s₀ h₀' => ?_) fun _ _ h' => h'))
    refine wpAny_bind (wpAny_noRaise (wpAny_mono h₀' (fun _ s₂ h₂ => ?_) fun _ _ h' => h'))
    exact wpAny_bind (wpAny_pure (wpAny_bind (wpAny_bind (wpAny_noRaise (wpAny_mono h₂ (fun kv s₄ h₄ => wpAny_bind (wpAny_holding (wpAny_noRaise (wpAny_mono h₄ (fun vv s₅ h₅ => wpAny_bind (wpAny_standAt (wpAny_holding (wpAny_noRaise (wpAny_mono h₅ (fun _ s₆ h₆ => wpAny_pure ⟨rfl, h₆⟩) fun _ _ h' => h'))))) fun _ _ h' => h')))) fun _ _ h' => h')))))
noncomputable def TabFor (cs : List (List Nat × Int)) (kvs : List (Str × Value)) : Prop := ∀ c ∈ cs, ∃ t, valueAt kvs (tx c.1) = some (.int c.2 t)
theorem tab_stored {cs : List (List Nat × Int)} {kvs : List (Str × Value)} {c : List Nat × Int} {t : Tok} (h : TabFor cs kvs) (hf : ∀ c' ∈ cs, c'.1 = c.1 → c'.2 = c.2) : TabFor (cs ++ [c]) (stored kvs (tx c.1) (.int c.2 t)) := by
  intro c' hc'
  rw [valueAt_stored]
  by_cases e : tx c'.1 = tx c.1
  · rw [if_pos e]
    refine ⟨t, ?_⟩
    rcases List.mem_append.mp hc' with hm | hm
    · rw [hf c' hm (tx_inj.mp e)]
    · rw [List.mem_singleton.mp hm]
  · rw [if_neg e]
    rcases List.mem_append.mp hc' with hm | hm
    · exact h c' hm
    · exact absurd (by rw [List.mem_singleton.mp hm]) e
noncomputable def DSrc (prog : Program) (w : World) (A : Around) (h₀ : Heap) (L : Addr) (m : Str → Option Value) (env : Env) (kx vx target iter : PySem.Expr) (scope : Scope) (cl : List (Str × Addr)) (pos : Pos) (Q : Value → Shared → Prop) (xv : Value) (s₁ : Shared) : Prop :=
  ∀ RR : Value → Addr → Result → Shared → Prop,
    (∀ D C h tk m' o, Fr h₀ L h m → h.get? D = some o → h.Ns C m' → h₀.get? C = none → C ≠ L → D ≠ C → (∀ h'' , Heap.SameBut C h h'' → Fr h₀ L h'' m → h''.get? D = some o → Q (.ref D) { s₁ with heap := h'', toks := tk }) → RR (.ref D) C (.ok .next) { s₁ with heap := h, toks := tk }) →
    wpAny (model prog w) A (pyIter xv) (fun it s₂ => wpAny (model prog w) A newDict (fun acc s₃ => wpAny (model prog w) A (newFunctionEnv scope env.globals cl [] env.qual none .none (some env)) (fun cenv s₄ =>
      codeAny (model prog w) A (.compStart (.DictComp kx vx [⟨target, iter, [], 0⟩] scope pos) 0 it acc { cenv with scope := relabel scope env }) (RR acc cenv.locals) s₄) FF s₃) FF s₂) FF s₁
theorem DictComp_src {kx vx target iter : PySem.Expr} {scope : Scope} {cl : List (Str × Addr)} {pos : Pos} {Q : Value → Shared → Prop} (_F₀ : Fr h₀ L s.heap m)
    (hclos : closureFor scope env = pure cl) (hkind : scope.kind = .function)
    (hnames : ∀ y ∈ scope.names, y.2 = .local → scope.names.lookup y.1 = some .local)
    (h : wpAny (model prog w) A (eval iter env) (DSrc prog w A h₀ L m env kx vx target iter scope cl pos Q) FF s)
    (hs : ∀ x, foldedSetIterable iter env x = pure x := by intro _; rfl) :
    wpAny (model prog w) A (eval (.DictComp kx vx [⟨target, iter, [], 0⟩] scope pos) env) Q FF s := by
  rw [arm_eval_DictComp]
  refine wpAny_comprehension_free (use := none) rfl hs hclos hkind hnames (wpAny_mono h (fun xv s₁ h₁ => ?_) fun _ _ e => e)
  refine h₁ (fun acc C => compPost (model prog w) A FF none Q acc C) ?_
  intro D C h tk m' o F' hD hn hC₀ hCL hDC fin
  exact ⟨m', hn, fun h'' hs'' => fin h'' hs'' (F'.change hs'' hCL hC₀) (hs''.extBut _ _ hDC hD)⟩
theorem DSrc.pairs {iter : PySem.Expr} {a b : Str} {pk pv pa pb tp : Pos} {kk : Nat} {scope : Scope} {cl : List (Str × Addr)} {pos : Pos} {Q : Value → Shared → Prop} {l : Addr} {refs : List Value} {n : Nat} {nx : List (Addr × Obj)} {cs : List (List Nat × Int)} {s₁ : Shared}
    (hh : A.handled = none) (F : Fr h₀ L s₁.heap m) (N : News h₀ L s₁.heap nx) (hm : (l, W.listOf refs.toArray n) ∈ nx) (hP : PairsIn nx refs cs) (hz : cs.length ≤ 1000)
    (hcell : ∀ y ∈ scope.names, y.2 ≠ .cell) (hkind : scope.kind = .function) (hxa : scope.names.lookup a = some .local) (hxb : scope.names.lookup b = some .local) (hab : ¬ a = b)
    (hda : (a == ("__debug__" : Str)) = false) (hdb : (b == ("__debug__" : Str)) = false)
    (hf : ∀ c ∈ cs, ∀ c' ∈ cs, c.1 = c'.1 → c.2 = c'.2)
    (fin : ∀ h tk D o kvs, Fr h₀ L h m → News h₀ L h ((D, o) :: nx) → o.IsDictOf (strKind prog w) kvs → TabFor cs kvs → (∀ p ∈ nx, @LT.lt Nat _ p.1 D) → Q (.ref D) { s₁ with heap := h, toks := tk }) :
    DSrc prog w A h₀ L m env (.Name a pk) (.Name b pv) (.Tuple [.Name a pa, .Name b pb] kk tp) iter scope cl pos Q (.ref l) s₁ := by
  intro RR hRR
  have hl : s₁.heap.IsList l refs.toArray := ⟨_, (N _ hm).1, rfl, _, rfl⟩
  have hlt : l < s₁.heap.objs.size := by obtain ⟨_, e, _⟩ := hl; exact Heap.lt_size e
  refine wpAny_pyIter_list hl ?_
  have up : ∀ b o, s₁.heap.get? b = some o → (s₁.heap.push { cls := .type "list_iterator", data := .fields #[.ref l, .int 0 0] }).get? b = some o := fun b o e => Heap.get?_push_of_some _ e
  have W := Walks.list (prog := prog) (w := w) hh s₁.heap.objs.size l (Nat.ne_of_lt hlt) refs.toArray
  have hIL : L ≠ s₁.heap.objs.size := Nat.ne_of_lt F.ns.lt
  have hI₀ := next_is_new F
  have off : ∀ p ∈ nx, p.1 ≠ s₁.heap.objs.size := fun p hp => Nat.ne_of_lt (Heap.lt_size (N p hp).1)
  have F2 := F.keeps up
  have N2 := N.grown up
  have hst0 : (s₁.heap.push { cls := .type "list_iterator", data := .fields #[.ref l, .int 0 0] }).IsListIter s₁.heap.objs.size l 0 := ⟨_, Heap.get?_push_size _ rfl, rfl, rfl⟩
  have hlist0 : (s₁.heap.push { cls := .type "list_iterator", data := .fields #[.ref l, .int 0 0] }).IsList l refs.toArray := hl.push _
  have hIlt : s₁.heap.objs.size < (s₁.heap.push { cls := .type "list_iterator", data := .fields #[.ref l, .int 0 0] }).objs.size := by rw [Heap.size_push]; exact Nat.lt_succ_self _
  generalize s₁.heap.push { cls := .type "list_iterator", data := .fields #[.ref l, .int 0 0] } = G2 at F2 N2 hst0 hlist0 hIlt ⊢
  generalize s₁.heap.objs.size = I at W hIL hI₀ off hst0 hlt hIlt ⊢
  refine wpAny_newObj_type (wpAny_newFunctionEnv hcell (by intro y hy; simp at hy) (fun h₁ hns₁ hsb₁ => ?_) hkind)
  dsimp only at hns₁ hsb₁ ⊢
  have hnew : (G2.push { cls := .type "dict", dict := none, data := .dict #[] }).DictOf (strKind prog w) G2.objs.size [] := Heap.DictOf.new G2
  generalize hH2 : G2.push { cls := .type "dict", dict := none, data := .dict #[] } = H2 at hns₁ hsb₁ hnew ⊢
  have hC : H2.objs.size = G2.objs.size + 1 := by rw [← hH2, Heap.size_push]
  have hDC : G2.objs.size ≠ H2.objs.size := by rw [hC]; exact Nat.ne_of_lt (Nat.lt_succ_self _)
  have below : ∀ b, b < G2.objs.size → b ≠ H2.objs.size ∧ b ≠ G2.objs.size := fun b hb => ⟨by rw [hC]; exact Nat.ne_of_lt (Nat.lt_succ_of_lt hb), Nat.ne_of_lt hb⟩
  have old : ∀ b o, G2.get? b = some o → h₁.get? b = some o := fun b o e => hsb₁.extBut b o (below b (Heap.lt_size e)).1 (Heap.get?_push_of_some _ (hH2 ▸ Heap.get?_push_of_some _ e))
  have hacc : h₁.DictOf (strKind prog w) G2.objs.size [] := hnew.at fun o e => hsb₁.extBut _ _ hDC (Heap.get?_push_of_some _ e)
  have fresh₀ : ∀ a, G2.objs.size ≤ a → h₀.get? a = none := fun a ha => by
    cases e : h₀.get? a with
    | none => rfl
    | some o' => exact absurd (Heap.lt_size (F2.keep a o' e)) (Nat.not_lt.mpr ha)
  have hD₀ : h₀.get? G2.objs.size = none := fresh₀ _ (Nat.le_refl _)
  have hC₀ : h₀.get? H2.objs.size = none := fresh₀ _ (by rw [hC]; exact Nat.le_succ _)
  have hLlt : L < G2.objs.size := F2.ns.lt
  have hDL : G2.objs.size ≠ L := Ne.symm (below L hLlt).2
  have hCL : H2.objs.size ≠ L := Ne.symm (below L hLlt).1
  have hCI : I ≠ H2.objs.size := (below I hIlt).1
  have hDI : I ≠ G2.objs.size := (below I hIlt).2
  have ltD : ∀ p ∈ nx, @LT.lt Nat _ p.1 G2.objs.size := fun p hp => Heap.lt_size (N2 p hp).1
  have offC : ∀ p ∈ nx, p.1 ≠ H2.objs.size := fun p hp => (below _ (ltD p hp)).1
  have offD : ∀ p ∈ nx, p.1 ≠ G2.objs.size := fun p hp => (below _ (ltD p hp)).2
  have hlen := hP.len
  have lG : l < G2.objs.size := by obtain ⟨_, e, _⟩ := hlist0; exact Heap.lt_size e
  have loop : ∀ s₃ : Shared, s₃ = { s₁ with heap := h₁, toks := s₁.toks + ([] : List (Str × Value)).length } →
      codeAny (model prog w) A (.compLoop (.DictComp (.Name a pk) (.Name b pv) [⟨.Tuple [.Name a pa, .Name b pb] kk tp, iter, [], 0⟩] scope pos) 0 (.ref I) (.ref G2.objs.size) (compEnvC scope cl H2.objs.size env))
        (RR (.ref G2.objs.size) H2.objs.size) s₃ := by
    rintro s₃ rfl
    refine dg_loop
      (fun k s' => ∃ h' tk i m' kvs, s' = { s₁ with heap := h', toks := tk } ∧ i ≤ refs.length ∧ k = refs.length + 1 - i ∧ h'.IsListIter I l i ∧ Fr h₀ L h' m ∧ h'.Ns H2.objs.size m' ∧ News h₀ L h' nx ∧ h'.DictOf (strKind prog w) G2.objs.size kvs ∧ kvs.length ≤ i ∧ TabFor (cs.take i) kvs) ?_ (refs.length + 1)
      ⟨h₁, _, 0, _, [], rfl, Nat.zero_le _, rfl, hst0.at fun o e => old _ _ e, F2.keeps old, hns₁, N2.grown old, hacc, Nat.le_refl _, fun c hc => by simp at hc⟩
    rintro k s' ⟨h', tk, i, m', kvs, rfl, hi, rfl, hit, F', hn', N', hd', hkl, hT⟩
    by_cases hlt' : i < refs.length
    · refine W.item i _ _ _ (by simpa using hlt') ⟨hit, ⟨_, (N' _ hm).1, rfl, _, rfl⟩⟩ fun v h₂ tk₂ hPv hst₂ hk₂ => ?_
      refine go_pair hst₂.1 ?_
      obtain ⟨c, hci, T, t, t', nT, rfl, hmT⟩ := hP.at (i := i) (by simpa using hPv)
      have N₂ : News h₀ L h₂ nx := news_but N' hk₂ off
      have F₂ : Fr h₀ L h₂ m := fr_but F' hk₂ hIL hI₀
      have hd₂ := hd'.at fun o e => hk₂ _ o (by simpa using Ne.symm hDI) e
      refine two_assign (env := compEnvC scope cl H2.objs.size env) hh (N₂ _ hmT).1 ⟨.inr rfl, _, rfl⟩ (lookup_relabel_local hxa) (lookup_relabel_local hxb) (by simp [compEnvC, relabel, hkind]) (hn'.at' fun o e => hk₂ _ o (by simpa using Ne.symm hCI) e) fun h₃ tk₃ hn₃ hs₃ => ?_
      refine wpAny_Name (wpAny_loadName_local (v := .str (tx c.1) t) hkind (lookup_relabel_local hxa) hn₃ (by simp [hab]) ?_) hda
      refine wpAny_Name (wpAny_loadName_local (v := .int c.2 t') hkind (lookup_relabel_local hxb) hn₃ (by simp) ?_) hdb
      have hs₃' : ∀ c o, c ≠ H2.objs.size → h₂.get? c = some o → h₃.get? c = some o := hs₃
      have hd₃ := hd₂.at fun o e => hs₃' _ o hDC e
      have F₃ : Fr h₀ L h₃ m := ⟨F₂.ns.at' fun o e => hs₃' _ o (Ne.symm hCL) e, fun b o e => hs₃' b o (fun q => by rw [q, hC₀] at e; cases e) (F₂.keep b o e), F₂.above⟩
      have N₃ : News h₀ L h₃ nx := fun p hp => ⟨hs₃' _ _ (offC p hp) (N₂ p hp).1, (N₂ p hp).2⟩
      refine wpAny_dictSet_pairs (knd := strKind prog w) (k := tx c.1) (strKind_is _ _ _ _) hd₃ (fun h₄ hd₄ hs₄ => ?_) (by rw [sizeLine_eq]; omega)
      have hit₃ : h₃.IsListIter I l (i + 1) := hst₂.1.at fun o e => hs₃' _ o hCI e
      refine ⟨refs.length + 1 - (i + 1), by omega, h₄, _, i + 1, _, _, rfl, hlt', rfl, hit₃.at fun o e => hs₄.extBut _ _ hDI e, F₃.change hs₄ hDL hD₀, hn₃.sameBut hs₄ (Ne.symm hDC), fun p hp => ⟨hs₄.extBut _ _ (offD p hp) (N₃ p hp).1, (N₃ p hp).2⟩, hd₄, ?_, ?_⟩
      · have := stored_length_le kvs (tx c.1) (Value.int c.2 t')
        omega
      · rw [List.take_add_one, hci]
        refine tab_stored hT fun c' hc' e => hf c' (List.mem_of_mem_take hc') c (List.mem_of_getElem? hci) e
    · have hin : i = refs.length := by omega
      subst hin
      refine W.done _ _ _ (by simpa using (⟨hit, ⟨_, (N' _ hm).1, rfl, _, rfl⟩⟩ : h'.IsListIter I l refs.length ∧ h'.IsList l refs.toArray)) fun h₂ tk₂ hk₂ => ?_
      have N₂ : News h₀ L h₂ nx := news_but N' hk₂ off
      have F₂ : Fr h₀ L h₂ m := fr_but F' hk₂ hIL hI₀
      have hd₂ := hd'.at fun o e => hk₂ _ o (by simpa using Ne.symm hDI) e
      obtain ⟨o, ho, hdo⟩ := Heap.dictOf_iff.mp hd₂
      refine hRR G2.objs.size H2.objs.size h₂ tk₂ _ o F₂ ho (hn'.at' fun o e => hk₂ _ o (by simpa using Ne.symm hCI) e) hC₀ hCL hDC fun h'' hs'' F'' ho'' => ?_
      refine fin h'' tk₂ G2.objs.size o kvs F'' (fun p hp => ?_) hdo (by rw [hlen, List.take_length] at hT; exact hT) ltD
      rcases List.mem_cons.mp hp with rfl | hp
      · exact ⟨ho'', hDL, hD₀⟩
      · exact ⟨hs''.extBut _ _ (offC p hp) (N₂ p hp).1, (N₂ p hp).2⟩
  exact codeAny_compStart_dict (loop _ rfl) (W.self 0 _ _ _ ⟨hst0.at fun o e => old _ _ e, by obtain ⟨o, e, r⟩ := hlist0; exact ⟨o, old _ _ e, r⟩⟩ (loop _ rfl))
end
end Mine
end
section
open PySem PySem.W PyProof.Rows PySem.Calls PySem.Spec
namespace Mine
noncomputable def NmAre : List Value → List (List Nat) → Prop
  | [], [] => True
  | v :: vs, c :: cs => (∃ t, v = .str (tx c) t) ∧ NmAre vs cs
  | _, _ => False
theorem NmAre.append {vs' : List Value} {cs' : List (List Nat)} (h' : NmAre vs' cs') : ∀ {vs : List Value} {cs : List (List Nat)}, NmAre vs cs → NmAre (vs ++ vs') (cs ++ cs')
  | [], [], _ => h'
  | _ :: _, _ :: _, ⟨e, r⟩ => ⟨e, NmAre.append h' r⟩
theorem NmAre.one {c : List Nat} {t : Tok} : NmAre [.str (tx c) t] [c] := ⟨⟨t, rfl⟩, trivial⟩
theorem NmAre.len : ∀ {vs : List Value} {cs : List (List Nat)}, NmAre vs cs → vs.length = cs.length
  | [], [], _ => rfl
  | _ :: _, _ :: _, ⟨_, r⟩ => congrArg (· + 1) (NmAre.len r)
theorem NmAre.getD : ∀ {vs : List Value} {cs : List (List Nat)} {i : Nat}, NmAre vs cs → i < cs.length → ∃ t, vs.getD i Value.none = .str (tx (cs.getD i [])) t
  | [], [], _, _, h => absurd h (Nat.not_lt_zero _)
  | [], _ :: _, _, hf, _ => (show False from hf).elim
  | _ :: _, [], _, hf, _ => (show False from hf).elim
  | _ :: _, _ :: _, 0, ⟨⟨t, e⟩, _⟩, _ => ⟨t, by simpa using e⟩
  | _ :: vs, _ :: cs, i + 1, ⟨_, r⟩, h => by
    obtain ⟨t, e⟩ := NmAre.getD (i := i) r (by simpa using h)
    exact ⟨t, by simpa using e⟩
theorem NmAre.mem {vs : List Value} : ∀ {cs : List (List Nat)} {v : Value}, NmAre vs cs → v ∈ vs → ∃ c t, v = .str (tx c) t := by
  induction vs with
  | nil => intro _ _ _ h; cases h
  | cons x vs ih =>
    intro cs v hc h
    cases cs with
    | nil => exact hc.elim
    | cons c cs =>
      rcases List.mem_cons.mp h with e | h
      · obtain ⟨⟨t, e'⟩, _⟩ := hc
        exact ⟨c, t, e.trans e'⟩
      · exact ih hc.2 h
section
variable {prog : Program} {w : World} {A : Around} {s : Shared} {h₀ : Heap} {L : Addr} {m : Str → Option Value} {news : List (Addr × Obj)} {q : Addr}
noncomputable def CallsBack (prog : Program) (w : World) (A : Around) (h₀ : Heap) (L : Addr) (m : Str → Option Value) (q : Addr) : Prop :=
  ∀ (x : Str) (t : Tok) (s : Shared) (news : List (Addr × Obj)) (Q : Value → Shared → Prop), Fr h₀ L s.heap m → News h₀ L s.heap news → (∀ h' tk', Fr h₀ L h' m → News h₀ L h' news → Q (.str x t) { s with heap := h', toks := tk' }) → wpAny (model prog w) A (call (.ref q) [.str x t]) Q (fun _ _ => False) s
theorem keys_all {D kS : Addr} {oD : Obj} {Fin : List Value → Nat → Shared → Prop} (hc : CallsBack prog w A h₀ L m q) (h1 : D ≠ kS) (h2 : ∀ p ∈ news, p.1 ≠ kS) :
    ∀ (r ks : List Value) (e : Nat) (s : Shared), (∀ v ∈ r, ∃ c t, v = Value.str (tx c) t) → Fr h₀ L s.heap m → News h₀ L s.heap ((kS, seqObj "list" (List.toArray ks) e) :: (D, oD) :: news) →
      (∀ e' h' tk', Fr h₀ L h' m → News h₀ L h' ((kS, seqObj "list" (List.toArray (ks ++ r)) e') :: (D, oD) :: news) → Fin (ks ++ r) e' { s with heap := h', toks := tk' }) → KatKeys prog w A h₀ L m kS (.ref q) Fin r ks e s
  | [], ks, e, s, _, F, N, h => by
    have := h e s.heap s.toks F (by rw [List.append_nil]; exact N)
    rw [List.append_nil] at this
    exact .nil this
  | v :: r, ks, e, s, hv, F, N, h => by
    obtain ⟨c, t, rfl⟩ := hv _ List.mem_cons_self
    refine .cons (hc _ _ _ _ _ F N fun h' tk' F' N' => .intro F' N' (.head fun p hp => ?_) fun h2' c' F2 N2 => ?_)
    · rcases List.mem_cons.mp hp with rfl | hp
      · exact h1
      · exact h2 p hp
    · refine keys_all hc h1 h2 r _ _ _ (fun v hv' => hv v (List.mem_cons_of_mem _ hv')) F2 N2 fun e' h3 tk3 F3 N3 => ?_
      rw [List.append_assoc] at N3 ⊢
      exact h e' h3 tk3 F3 N3
theorem names_sorted {E : List (List Nat × Int)} {vs : List Value} {l : Addr} {P : Array Nat} {Q : Value → Shared → Prop} (hv : NmAre vs (E.map (·.1))) (h2 : 2 ≤ E.length) (h64 : E.length < 64) (hP : sortE E = some P)
    (F : Fr h₀ L s.heap m) (N : News h₀ L s.heap news) (hl : s.heap.IsList l vs.toArray) (hc : CallsBack prog w A.in1.in1 h₀ L m q)
    (h : ∀ D h' tk' c, Fr h₀ L h' m → News h₀ L h' ((D, W.listOf (List.toArray (P.toList.map fun i => vs.getD i Value.none)) c) :: news) → (∀ p ∈ news, @LT.lt Nat _ p.1 D) → Q (.ref D) { s with heap := h', toks := tk' }) :
    wpAny (model prog w) A (call (.builtin "sorted") [.ref l] [(Str.ofString "key", .ref q)]) Q (fun _ _ => False) s := by
  have hlen : vs.length = E.length := by rw [hv.len, List.length_map]
  refine kat_sortedK (b := false) F N hl (by omega) (by omega) (ksk_s1 _ _) (fun x => ksk_l1 _ _) (fun x => ksk_t1 _ _) ?_
  intro D kS e1 h' F' N' lt1 lt2
  have hDk : D ≠ kS := Nat.ne_of_lt lt1
  have hnk : ∀ p ∈ news, p.1 ≠ kS := fun p hp => Nat.ne_of_lt (Nat.lt_trans (lt2 p hp) lt1)
  have hnD : ∀ p ∈ news, p.1 ≠ D := fun p hp => Nat.ne_of_lt (lt2 p hp)
  refine keys_all hc hDk hnk vs [] 0 _ (fun v hv' => hv.mem hv') F' N' ?_
  intro e' h3 tk3 F3 N3
  simp only [List.nil_append] at N3 ⊢
  refine kas_kind (T := .type "str") (by omega) (fun v hv' => ?_) (by rfl) (by rfl) ?_
  · obtain ⟨c, t, rfl⟩ := hv.mem hv'
    exact Looks.of_pure rfl
  · rw [hlen]
    refine kasRun_wp (n := E.length) (lt := ltE E) (fun i j C s hi hj hC => ?_) _ hP ?_
    · obtain ⟨t, et⟩ := hv.getD (i := i) (by simpa using hi)
      obtain ⟨t', et'⟩ := hv.getD (i := j) (by simpa using hj)
      show wpAny _ _ (keyLt' oneType' (vs.getD i Value.none) (vs.getD j Value.none)) C _ s
      rw [et, et']
      refine kas_lt_str ?_
      have e1 : (E.map (·.1)).getD i [] = (E.getD i ([], 0)).1 := by simp [List.getD_eq_getElem?_getD, List.getElem?_map]; cases E[i]? <;> rfl
      have e2 : (E.map (·.1)).getD j [] = (E.getD j ([], 0)).1 := by simp [List.getD_eq_getElem?_getD, List.getElem?_map]; cases E[j]? <;> rfl
      show C (decide ((E.map (·.1)).getD i [] < (E.map (·.1)).getD j [])) s
      rw [e1, e2]
      exact hC
    · refine KatFin.intro F3 N3 (.head fun p hp => ?_) fun h4 c4 F4 N4 => ?_
      · rcases List.mem_cons.mp hp with rfl | hp
        · exact hDk
        · exact hnk p hp
      · refine KasFin.intro F4 N4 (.tail (Ne.symm hDk) (.head fun p hp => hnD p hp)) fun h5 c5 F5 N5 => ?_
        exact h D h5 _ c5 F5 (fun p hp => N5 p (List.mem_cons_of_mem _ hp)) lt2
end
end Mine
end
section
namespace Mine
theorem desc_eq : ∀ {xs ys : List Int}, xs.Perm ys → xs.Pairwise (fun x y => y ≤ x) → ys.Pairwise (fun x y => y ≤ x) → xs = ys
  | [], ys, h, _, _ => (List.nil_perm.mp h).symm ▸ rfl
  | x :: xs, [], h, _, _ => absurd h.length_eq (by simp)
  | x :: xs, y :: ys, h, hx, hy => by
    have hx' := List.pairwise_cons.mp hx
    have hy' := List.pairwise_cons.mp hy
    have e : x = y := by
      have m1 : x ∈ y :: ys := h.mem_iff.mp List.mem_cons_self
      have m2 : y ∈ x :: xs := h.mem_iff.mpr List.mem_cons_self
      rcases List.mem_cons.mp m1 with e | m1
      · exact e
      · rcases List.mem_cons.mp m2 with e | m2
        · exact e.symm
        · have a := hy'.1 x m1
          have b := hx'.1 y m2
          omega
    subst e
    rw [desc_eq (List.perm_cons _ |>.mp h) hx'.2 hy'.2]
theorem range_map {E : List (List Nat × Int)} : (List.range E.length).map (fun i => (E.getD i ([], 0)).2) = E.map (·.2) := by
  refine List.ext_getElem (by simp) fun i h1 h2 => ?_
  simp at h1
  simp [List.getD_eq_getElem?_getD, List.getElem?_eq_getElem h1]
end Mine
end
section
open PySem PySem.W PyProof.Rows
namespace Mine
theorem fillx (w : World) : hd.heap_39 w.params = hd.heap_39 w.params ∧ PySem.Challenge.rw_xg0038_01 = PySem.Challenge.rw_xg0038_01 := by
  k_fill
  exact ⟨rfl, rfl⟩
set_option maxRecDepth 100000
set_option maxHeartbeats 8000000
theorem xfrm_ok (w : World) (s₀ : Shared) (mg mb : Str → Option Value) (news : List (Addr × Obj)) (x : Str) (t : Tok) :
   CbClaim PySem.Challenge.rw_xg0038_01.row.prog w (hd.heap_39 w.params) hd.view_39 (looseW hd.view_39 [Str.ofString "EXACT_TOKEN_TYPES"]) (ExcName.means s₀.heap) mg mb 70 news [] True [.str x t] (fun _ => .str x t) := by
  dsimp only [CbClaim, CbLists, CbRet]
  intros
  rename_i hret
  refine wpAny_call ?_
  k_dflt cell_enter
  repeat' walk1
  exact hret 0 _ _ (by assumption) (by assumption)
theorem xfrm_back {w : World} {s₀ : Shared} {mg mb : Str → Option Value} {dp un : Nat} {gd : Option (List Code)} {cn : Str} {cs : Scope} {a : Addr} {ccd : Value} {cl : List (Str × Addr)} {outer : List Env} {A₀ : Around} {base h₀ : Heap} {L : Addr} {m : Str → Option Value}
    (B : Below A₀ base outer h₀) (X : (hd.heap_39 w.params).In h₀) (T : Top hd.view_39 (looseW hd.view_39 [Str.ofString "EXACT_TOKEN_TYPES"]) (ExcName.means s₀.heap) mg mb h₀) (hk : cs.kind = .function)
    (hd1 : dp + 1 < recursionLimit) (hu : un + 8 < cLine) : CallsBack PySem.Challenge.rw_xg0038_01.row.prog w (ktrTop dp un gd cn cs L a ccd cl outer) h₀ L m 70 := by
  intro x t s news Q F N h
  have := xfrm_ok w s₀ mg mb news x t
  dsimp only [CbClaim, CbLists, CbRet] at this
  exact this _ _ _ _ _ _ _ _ _ _ _ _ _ _ _ _ _ B F X N T hk trivial hd1 hu fun _ h' tk' => h h' tk'
section
open PySem.Calls PySem.Spec PyProof.Rows.LCg
variable {prog : Program} {w : World} {A : Around} {s : Shared} {env : Env} {h₀ : Heap} {L : Addr} {m : Str → Option Value}
theorem CSrc.list {elt iter : PySem.Expr} {x : Str} {px : Pos} {ifs : List PySem.Expr} {scope : Scope} {cl : List (Str × Addr)} {pos : Pos} {Fin : Shared → List Value → List (Addr × Obj) → Prop} {l : Addr} {its : Array Value} {nx₀ : List (Addr × Obj)} {s₁ : Shared}
    (hh : A.handled = none) (F : Fr h₀ L s₁.heap m) (N : News h₀ L s₁.heap nx₀) (hsz : its.size ≤ sizeLine)
    (hcell : ∀ y ∈ scope.names, y.2 ≠ .cell) (hkind : scope.kind = .function) (hx : scope.names.lookup x = some .local)
    (hgo : ∀ (v : Value) (I : Addr) (s : Shared) (Q : Unit → Shared → Prop), Q () s → wpAny (model prog w) A (letOwnedTupleGo (.Name x px) (.ref I) v) Q FF s)
    (J : Nat → List Value → List (Addr × Obj) → Prop) (hS : ∀ i ys nx, J i ys nx → SrcAt h₀ l its nx) (hJ : J 0 [] nx₀)
    (turn : ∀ i v ys nx, its[i]? = some v → J i ys nx → ys.length ≤ i → CTurn prog w A h₀ L m env elt ifs scope cl s₁ i ys nx (fun mC => mC x = some v) J)
    (fin : ∀ g ys nx, J its.size ys nx → Fin { s₁ with heap := g } ys nx) :
    CSrc prog w A h₀ L m env elt (.Name x px) iter ifs scope cl pos Fin (.ref l) s₁ := by
  intro RR hRR
  have hl : s₁.heap.IsList l its := (hS _ _ _ hJ).list F.keep N
  have hlt : l < s₁.heap.objs.size := by obtain ⟨_, e, _⟩ := hl; exact Heap.lt_size e
  refine wpAny_pyIter_list hl ?_
  have up : ∀ b o, s₁.heap.get? b = some o → (s₁.heap.push { cls := .type "list_iterator", data := .fields #[.ref l, .int 0 0] }).get? b = some o := fun b o e => Heap.get?_push_of_some _ e
  refine comp_block (S := SrcAt h₀ l its) (Walks.list hh s₁.heap.objs.size l (Nat.ne_of_lt hlt) its) hsz (fun i h st => by obtain ⟨o, e, _⟩ := st.1; exact ⟨o, e⟩) list_st (fun i v s Q st q => hgo v _ s Q q) hcell hkind ⟨⟨_, Heap.get?_push_size _ rfl, rfl, rfl⟩, hl.push _⟩ (fun b hb => ?_)
    (fun i v mC => mC x = some v) J hS hJ (fun i v ys nx s C mC Q _ _ _ _ _ hC q => ?_)
    (F.keeps up) (N.grown up) (Nat.ne_of_lt F.ns.lt) (next_is_new F) (fun p hp => Nat.ne_of_lt (Heap.lt_size (N p hp).1)) ?_ ?_
  · show b < (s₁.heap.push _).objs.size
    rw [Heap.size_push]
    rcases List.mem_cons.mp hb with rfl | hb
    · exact Nat.lt_succ_self _
    · rw [List.mem_singleton.mp hb]; exact Nat.lt_succ_of_lt hlt
  · refine wpAny_assign_Name (wpAny_storeName_local (lookup_relabel_local hx) hC (fun h' hn' hs' => ?_) (by simp [compEnvC, relabel, hkind]))
    exact q h' _ _ hn' (by simp) fun b o hb e => hs'.extBut b o hb e
  · rintro i v ys nx h tk oI C oC D mC hi hv hJ' hyl hB hoC F' N' off' ne'
    refine wpAny_mono (turn i v ys nx hv hJ' hyl h h tk _ oI C oC D mC hB hoC F' N' off' ne') (fun ok s₃ h₃ => ?_) fun _ _ e => e
    cases ok with
    | false => exact h₃.anew
    | true => exact wpAny_mono h₃ (fun y s₄ h₄ => h₄.anew) fun _ _ e => e
  · intro D C h tk m' ys nx' F' N' o1 hn' hC₀ hD₀ hCL hDL hCD offC hJ' _
    exact hRR _ D C h tk m' ys nx' F' N' o1 hn' hC₀ hD₀ hCL hDL hCD offC (fin h ys nx' hJ')
end
end Mine
end
section
open PySem PySem.W PyProof.Rows
namespace Mine
theorem fill9 (w : World) : hd.heap_39 w.params = hd.heap_39 w.params ∧ PySem.Challenge.rw_xg0038_01 = PySem.Challenge.rw_xg0038_01 := by
  k_fill
  exact ⟨rfl, rfl⟩
theorem gt_all {c : Nat} {R : List (Addr × Obj)} (h : ∀ p ∈ R, @LT.lt Nat _ c p.1) : ∀ p ∈ R, p.1 ≠ c := fun p hp e => Nat.lt_irrefl _ (e ▸ h p hp)
set_option maxRecDepth 100000
set_option maxHeartbeats 40000000
local macro_rules | `(tactic| k_all) => `(tactic| exact far_all (I := by assumption) (by assumption) (by omega))
local macro_rules | `(tactic| k_all) => `(tactic| exact gt_all (by assumption))
theorem law_ok : PySem.Challenge.rw_xg0038_01.Holds := hd (by
  k_go0
  all_goals try k_fold
  rename_i wd s0 s1 mg mb G Y fa fo pm doc ho hg KX Xm V GL T B TE TW bm ob M cdA cdB hcd ns hs hlay0 hL0 hr0 hl2 as1 as2 l vs as3 hL ra w1 r0 hI hr1 hcond1 hcond2 K0 hD h1 tk1 F oT hoT N0 X0
  have hfin : ∀ (h' : Heap) (tk' : Nat) (m' : Str → Option Value), Fr s1.heap s1.heap.objs.size h' m' → qk (.ret (.bool true)) { s1 with heap := h', toks := tk' } := by
    intro h' tk' m' F'
    k_unfold
    dsimp only
    wrow_close
  have hoT' : oT.data = .cell none := hoT.trans (by with_unfolding_all rfl)
  replace F := fr_at (x := Str.ofString "script") (v := .ref l) F (by with_unfolding_all rfl)
  clear hs hlay0 hL0 hr0 hl2 ra w1 r0 hr1 hcond2 hD hcd M TE TW B GL Xm V ho hoT X0 Y G hg
  clear_value qk ek
  replace K0 : Below callerA s1.heap [] s1.heap := K0
  replace KX : (hd.heap_39 wd.params).In s1.heap := KX
  refine wpAny_noRaise ?_
  repeat' (first | ((fail_if_success (with_reducible show wpAny _ _ (exec (Stmt.For _ _ _ _ _) _) _ _ _)); walk1))
  rename_i lS hA lS1 hS FS NS
  have FS' := FS
  refine For_src ?_
  repeat' (first
      | ((fail_if_success (with_reducible show ForSrc _ _ _ _ _ _ _ _ _)); walk1))
  rename IsRange _ _ _ _ _ _ _ _ => hr1
  rename Fr _ _ _ _ => FR
  rename News _ _ _ _ => NR
  have hlen60 : (List.take 60 ns).length ≤ ns.length := by rw [List.length_take]; omega
  refine ForSrc.rangeV (n := (List.take 60 ns).length) (by rfl) hr1 (range_small _ (by omega)) (range_size _) (fun _ _ _ _ q => go_name q) FR (nx₀ := [(lS, W.listOf #[.int 12 _, .int 1 _] 0), (_, oT)]) (cb_drop NR fun p hp => List.mem_cons_of_mem _ hp)
    (fun i m nx => SumsJ lS l (_, oT) m nx)
    ⟨_, _, _, _, _, by with_unfolding_all rfl, by with_unfolding_all rfl, rfl⟩ ?_ ?_
  · intro Jv Qv gv dv ov i ti m nx h3 tk3 I1 oI1 hJv _ _ hi hJ F3 N3 off1 hc1
    obtain ⟨a, b, ta, tb, n, hm1, hm2, rfl⟩ := hJ
    rw [map2 hm1 hm2] at F3
    rw [Int.zero_add]
    have hin : (i : Int) < ns.length := by omega
    repeat' walk1
    have hf0 : 0 ≤ (i : Int).fmod 2 ∧ (i : Int).fmod 2 < 2 := by rcases fm2 (i : Int) with e | e <;> rw [e] <;> decide
    refine kif_setItem (l := [(a, ta), (b, tb)]) (N := 2) (by assumption) (by assumption) (Upd.tail (Ne.symm (off1 _ List.mem_cons_self)) (Upd.head fun p hp => by rw [List.mem_singleton.mp hp]; exact Nat.ne_of_lt lS1)) (by rfl) (by rfl) (by rfl) (by decide) hf0.1 hf0.2 ?_
    intro h4 F4 N4
    repeat' (first | ((fail_if_success (with_reducible show FtPost _ _ _ _ _ _ _ _ _)); walk1))
    dsimp only [kifSet] at N4
    refine FtOk.introV hJv F4 N4 _ List.mem_cons_self (fun p hp => List.mem_cons_of_mem _ hp) (fun p hp => .inl ?_) ⟨_, _, _, _, _, by with_unfolding_all rfl, by with_unfolding_all rfl, rfl⟩
    rcases List.mem_cons.mp hp with rfl | hp
    · exact (show lS ≠ I1 from off1 _ List.mem_cons_self)
    · exact off1 _ (List.mem_cons_of_mem _ hp)
  · intro m nx h5 tk5 hJ F5 N5
    obtain ⟨a, b, ta, tb, n, hm1, hm2, rfl⟩ := hJ
    rw [map2 hm1 hm2] at F5
    clear hm1 hm2
    replace N5 : News s1.heap s1.heap.objs.size h5 _ := N5
    replace F5 : Fr s1.heap s1.heap.objs.size h5 _ := F5
    clear hr1 FR NR hlen60
    dsimp only
    obtain ⟨one, two, three, A, B, C, ho1, ho2, ok⟩ := plain a b
    have hz1 := ok.z1
    have hz2 := ok.z2
    have hz3 := ok.z3
    have hla := ok.la
    have hlb := ok.lb
    have hlc := ok.lc
    repeat' (first
      | ((with_reducible show wpAny _ _ (call (Value.ref 87) [Value.int _ _]) _ _ _); k_dflt (refine drawn_use ho1 K0 (by assumption) KX (by assumption) T rfl (by decide) (by decide) ?_); intro _ _ _ _ _; (try dsimp only))
      | ((with_reducible show wpAny _ _ (call (Value.ref 87) [Value.int _ _]) _ _ _); k_dflt (refine drawn_use ho2 K0 (by assumption) KX (by assumption) T rfl (by decide) (by decide) ?_); intro _ _ _ _ _; (try dsimp only))
      | ((with_reducible show wpAny _ _ (binaryOp Operator.Add (Value.str (tx _) _) (Value.str (Str.ofString ",") _)) _ _ _); refine add_tx rfl lit_comma (by simp only [List.length_append, List.length_cons, List.length_nil]; omega) ?_; intro _ _; (try dsimp only))
      | ((with_reducible show wpAny _ _ (binaryOp Operator.Add (Value.str (tx _) _) (Value.str (tx _) _)) _ _ _); refine add_tx rfl rfl (by simp only [List.length_append, List.length_cons, List.length_nil]; omega) ?_; intro _ _; (try dsimp only))
      | ((fail_if_success (with_reducible show wpAny _ _ (call (Value.ref 87) _) _ _ _)); (fail_if_success (with_reducible show wpAny _ _ (call (Value.ref 99) _) _ _ _)); walk1))
    k_dflt (refine read2_use ok.rd2 (sgn_app (sgn_app (sgn2 ok.s1) sgn_44) (sgn2 ok.s2)) (by simp only [List.length_append, List.length_cons, List.length_nil]; omega) K0 (by assumption) KX (by assumption) T rfl (by decide) (by decide) ?_)
    intro h6 tk6 D6 nD6 a0 v0 n0 a1 v1 n1 F6 N6 I0 I1
    (try dsimp only)
    repeat' (first
      | ((with_reducible show wpAny _ _ (subscriptTail _ _ (Value.ref D6) (Value.int 0 _)) _ _ _); refine item_gotN (x := .ref a0) (by assumption) List.mem_cons_self (by decide) (by decide) (by rfl) ?_; (try dsimp only))
      | ((with_reducible show wpAny _ _ (subscriptTail _ _ (Value.ref D6) (Value.int 1 _)) _ _ _); refine item_gotN (x := .ref a1) (by assumption) List.mem_cons_self (by decide) (by decide) (by rfl) ?_; (try dsimp only))
      | ((with_reducible show wpAny _ _ (subscriptTail _ _ (Value.ref a0) (Value.int (-1) _)) _ _ _); refine last_int (by assumption) (List.mem_cons_of_mem _ List.mem_cons_self) I0 (by omega) ?_; intro _; (try dsimp only))
      | ((with_reducible show wpAny _ _ (subscriptTail _ _ (Value.ref a1) (Value.int (-1) _)) _ _ _); refine last_int (by assumption) (List.mem_cons_of_mem _ (List.mem_cons_of_mem _ List.mem_cons_self)) I1 (by omega) ?_; intro _; (try dsimp only))
      | ((with_reducible show wpAny _ _ (call (Value.ref 35) [Value.int _ _, Value.int _ _]) _ _ _); k_dflt (refine use_of (add_ok wd s0 mg mb _ _ _ _ _) K0 (by assumption) KX (by assumption) T rfl (by decide) (by decide) ?_); intro _ _ _ _ _; (try dsimp only))
      | ((with_reducible show wpAny _ _ (call (Value.ref 42) [Value.int _ _]) _ _ _); k_dflt (refine use_of (neg_ok wd s0 mg mb _ _ _) K0 (by assumption) KX (by assumption) T rfl (by decide) (by decide) ?_); intro _ _ _ _ _; (try dsimp only))
      | ((fail_if_success (with_reducible show wpAny _ _ (call (Value.ref 94) _) _ _ _)); (fail_if_success (with_reducible show wpAny _ _ (call (Value.ref 99) _) _ _ _)); walk1))
    k_dflt (refine written_use ok.wr K0 (by assumption) KX (by assumption) T rfl (by decide) (by decide) ?_)
    intro t7 h7 tk7 F7 N7
    (try dsimp only)
    repeat' (first
      | ((with_reducible show wpAny _ _ (binaryOp Operator.Add (Value.str (tx _) _) (Value.str (Str.ofString ",") _)) _ _ _); refine add_tx rfl lit_comma (by simp only [List.length_append, List.length_cons, List.length_nil]; omega) ?_; intro _ _; (try dsimp only))
      | ((with_reducible show wpAny _ _ (binaryOp Operator.Add (Value.str (tx _) _) (Value.str (tx _) _)) _ _ _); refine add_tx rfl rfl (by simp only [List.length_append, List.length_cons, List.length_nil]; omega) ?_; intro _ _; (try dsimp only))
      | ((fail_if_success (with_reducible show wpAny _ _ (call (Value.ref 99) _) _ _ _)); walk1))
    rename Fr _ _ _ _ => F8
    rename News _ _ _ _ => N8
    have N8' := cb_drop (news := [(_, oT)]) N8 (fun p hp => List.mem_cons_of_mem _ (List.mem_cons_of_mem _ (List.mem_cons_of_mem _ (List.mem_cons_of_mem _ hp))))
    clear N8
    k_dflt (refine read3_use ok.rd3 (sgn_app (sgn_app (sgn_app (sgn_app (sgn2 ok.s1) sgn_44) (sgn2 ok.s2)) sgn_44) (sgn2 ok.s3)) (by simp only [List.length_append, List.length_cons, List.length_nil]; omega) K0 F8 KX N8' T rfl (by decide) (by decide) ?_)
    intro h8 tk8 D nD a0 v0 n0 a1 v1 n1 a2 v2 n2 F9 N9 I0 I1 I2 l9
    clear F8 N8'
    (try dsimp only)
    repeat' (first
      | ((fail_if_success (with_reducible show wpAny _ _ (call (Value.ref 104) _) _ _ _)); walk1))
    rename Fr _ _ _ _ => F10
    rename News _ _ _ _ => N10
    have lD : (s1.heap.objs.size + 1 : Nat) < D := (l9 _ List.mem_cons_self).1
    have l0 : (s1.heap.objs.size + 1 : Nat) < a0 := (l9 _ List.mem_cons_self).2.1
    have l1 : (s1.heap.objs.size + 1 : Nat) < a1 := (l9 _ List.mem_cons_self).2.2.1
    have l2 : (s1.heap.objs.size + 1 : Nat) < a2 := (l9 _ List.mem_cons_self).2.2.2
    clear l9
    k_dflt (refine played_ok wd s0 mg mb one two three (upK A B C) (dnK A B C) ok.s1 ok.s2 ok.s3 ok.z1 ok.z2 ok.z3 ok.fair _ _ _ _ _ _ _ _ _ _ _ _ _ _ _ _ _ _ _ _ K0 F10 KX N10 T rfl (by decide) (by decide) ?_)
    intro h11 tk11 d od kvs R F11 N11 hkv hwon ld
    clear F10 N10
    have ldc : (s1.heap.objs.size + 1 : Nat) < d := ld (_, oT) (List.mem_cons_of_mem _ (List.mem_cons_of_mem _ (List.mem_cons_of_mem _ (List.mem_cons_of_mem _ List.mem_cons_self))))
    clear ld
    simp only [List.cons_append, List.nil_append] at N11
    (try dsimp only)
    repeat' (first | ((fail_if_success (with_reducible show wpAny _ _ (exec (Stmt.For _ _ _ _ _) _) _ _ _)); walk1))
    refine For_src ?_
    repeat' (first
      | ((with_reducible show wpAny _ _ (call (Value.builtin "len") [Value.str (tx _) _]) _ _ _); refine len_tx (by omega) ?_)
      | ((fail_if_success (with_reducible show ForSrc _ _ _ _ _ _ _ _ _)); walk1))
    rename IsRange _ _ _ _ _ _ _ _ => hr1
    rename Fr _ _ _ _ => F12
    rename News _ _ _ _ => N12
    refine ForSrc.rangeV (n := one.length + 1) (by rfl) hr1 (range_small (one.length + 1) (by omega)) (range_size (one.length + 1)) (fun _ _ _ _ q => go_name q) F12 N12
      (fun _ m nx => Lv one two three D d (baseN d D a0 a1 a2 (s1.heap.objs.size + 1) od oT nD n0 n1 n2 v0 v1 v2 R) m nx)
      ⟨_, _, _, by with_unfolding_all rfl, by with_unfolding_all rfl, by with_unfolding_all rfl, by with_unfolding_all rfl, by with_unfolding_all rfl, rfl⟩ ?_ ?_
    · clear F12 N12 hr1
      intro Ja Qa ga da oa i ti m nx h13 tk13 J1 oJ1 hJa _ _ hi hJ F N off1 hc1
      obtain ⟨t1, t2, t3, e1, e2, e3, e4, e5, rfl⟩ := hJ
      rw [map5 e1 e2 e3 e4 e5] at F
      rw [Int.zero_add]
      unfold baseN at N
      replace N : News s1.heap s1.heap.objs.size h13 _ := N
      replace F : Fr s1.heap s1.heap.objs.size h13 _ := F
      repeat' (first | ((fail_if_success (with_reducible show wpAny _ _ (exec (Stmt.For _ _ _ _ _) _) _ _ _)); walk1))
      refine For_src ?_
      repeat' (first
        | ((with_reducible show wpAny _ _ (call (Value.builtin "len") [Value.str (tx _) _]) _ _ _); refine len_tx (by omega) ?_)
        | ((fail_if_success (with_reducible show ForSrc _ _ _ _ _ _ _ _ _)); walk1))
      rename IsRange _ _ _ _ _ _ _ _ => hr2
      rename Fr _ _ _ _ => F13
      rename News _ _ _ _ => N13
      refine ForSrc.rangeV (n := two.length + 1) (by rfl) hr2 (range_small (two.length + 1) (by omega)) (range_size (two.length + 1)) (fun _ _ _ _ q => go_name q) F13 N13
        (fun _ m nx => LvI one two three D d i ((J1, oJ1) :: baseN d D a0 a1 a2 (s1.heap.objs.size + 1) od oT nD n0 n1 n2 v0 v1 v2 R) m nx)
        ⟨_, _, _, by with_unfolding_all rfl, by with_unfolding_all rfl, by with_unfolding_all rfl, by with_unfolding_all rfl, by with_unfolding_all rfl, _, by with_unfolding_all rfl, rfl⟩ ?_ ?_
      · clear F13 N13 hr2 e1 e2 e3 e4 e5
        intro Jb Qb gb db ob' j tj m nx h14 tk14 J2 oJ2 hJb _ _ hj hJ F N off2 hc2
        obtain ⟨t1, t2, t3, e1, e2, e3, e4, e5, ti, e6, rfl⟩ := hJ
        rw [map6 e1 e2 e3 e4 e5 e6] at F
        rw [Int.zero_add]
        unfold baseN at N
        replace N : News s1.heap s1.heap.objs.size h14 _ := N
        replace F : Fr s1.heap s1.heap.objs.size h14 _ := F
        repeat' (first | ((fail_if_success (with_reducible show wpAny _ _ (exec (Stmt.For _ _ _ _ _) _) _ _ _)); walk1))
        refine For_src ?_
        repeat' (first
          | ((with_reducible show wpAny _ _ (call (Value.builtin "len") [Value.str (tx _) _]) _ _ _); refine len_tx (by omega) ?_)
          | ((fail_if_success (with_reducible show ForSrc _ _ _ _ _ _ _ _ _)); walk1))
        rename IsRange _ _ _ _ _ _ _ _ => hr3
        rename Fr _ _ _ _ => F14
        rename News _ _ _ _ => N14
        refine ForSrc.rangeV (n := three.length + 1) (by rfl) hr3 (range_small (three.length + 1) (by omega)) (range_size (three.length + 1)) (fun _ _ _ _ q => go_name q) F14 N14
          (fun _ m nx => LvJ one two three D d i j ((J2, oJ2) :: (J1, oJ1) :: baseN d D a0 a1 a2 (s1.heap.objs.size + 1) od oT nD n0 n1 n2 v0 v1 v2 R) m nx)
          ⟨_, _, _, by with_unfolding_all rfl, by with_unfolding_all rfl, by with_unfolding_all rfl, by with_unfolding_all rfl, by with_unfolding_all rfl, _, by with_unfolding_all rfl, _, by with_unfolding_all rfl, rfl⟩ ?_ ?_
        · clear F14 N14 hr3 e1 e2 e3 e4 e5 e6
          intro Jc Qc gc dc oc k tk' m nx h15 tk15 J3 oJ3 hJc _ _ hk3 hJ F N off3 hc3
          obtain ⟨t1, t2, t3, e1, e2, e3, e4, e5, ti, e6, tj, e7, rfl⟩ := hJ
          rw [map7 e1 e2 e3 e4 e5 e6 e7] at F
          rw [Int.zero_add]
          unfold baseN at N
          replace N : News s1.heap s1.heap.objs.size h15 _ := N
          replace F : Fr s1.heap s1.heap.objs.size h15 _ := F
          obtain ⟨lw, nw, hvw, hmw⟩ := hwon i j k (by omega) (by omega) (by omega)
          repeat' (first
            | ((with_reducible show wpAny _ _ (subscriptTail _ _ (Value.ref D) (Value.int 0 _)) _ _ _); refine item_gotN (x := .ref a0) (by assumption) (by k_mem) (by decide) (by decide) (by rfl) ?_; (try dsimp only))
            | ((with_reducible show wpAny _ _ (subscriptTail _ _ (Value.ref D) (Value.int 1 _)) _ _ _); refine item_gotN (x := .ref a1) (by assumption) (by k_mem) (by decide) (by decide) (by rfl) ?_; (try dsimp only))
            | ((with_reducible show wpAny _ _ (subscriptTail _ _ (Value.ref D) (Value.int 2 _)) _ _ _); refine item_gotN (x := .ref a2) (by assumption) (by k_mem) (by decide) (by decide) (by rfl) ?_; (try dsimp only))
            | ((with_reducible show wpAny _ _ (subscriptTail _ _ (Value.ref a0) (Value.int _ _)) _ _ _); refine int_gotN (by assumption) (by k_mem) I0 (by omega) (by omega) ?_; intro _; (try dsimp only))
            | ((with_reducible show wpAny _ _ (subscriptTail _ _ (Value.ref a1) (Value.int _ _)) _ _ _); refine int_gotN (by assumption) (by k_mem) I1 (by omega) (by omega) ?_; intro _; (try dsimp only))
            | ((with_reducible show wpAny _ _ (subscriptTail _ _ (Value.ref a2) (Value.int _ _)) _ _ _); refine int_gotN (by assumption) (by k_mem) I2 (by omega) (by omega) ?_; intro _; (try dsimp only))
            | ((with_reducible show wpAny _ _ (call (Value.ref 35) [Value.int _ _, Value.int _ _]) _ _ _); k_dflt (refine use_of (add_ok wd s0 mg mb _ _ _ _ _) K0 (by assumption) KX (by assumption) T rfl (by decide) (by decide) ?_); intro _ _ _ _ _; (try dsimp only))
            | ((with_reducible show wpAny _ _ (call (Value.ref 56) [Value.int _ _, Value.int _ _]) _ _ _); k_dflt (refine use_of (sub_ok wd s0 mg mb _ _ _ _ _) K0 (by assumption) KX (by assumption) T rfl (by decide) (by decide) ?_); intro _ _ _ _ _; (try dsimp only))
            | ((with_reducible show wpAny _ _ (call (Value.ref 28) [Value.int _ _, Value.int _ _]) _ _ _); k_dflt (refine use_of (gt_ok wd s0 mg mb _ _ _ _ _) K0 (by assumption) KX (by assumption) T rfl (by decide) (by decide) ?_); intro _ _ _ _ _; (try dsimp only))
            | ((with_reducible show wpAny _ _ (call (Value.ref 21) [Value.int _ _, Value.int _ _]) _ _ _); k_dflt (refine use_of (lt_ok wd s0 mg mb _ _ _ _ _) K0 (by assumption) KX (by assumption) T rfl (by decide) (by decide) ?_); intro _ _ _ _ _; (try dsimp only))
            | ((with_reducible show wpAny _ _ (subscriptTail _ _ (Value.ref d) (Value.int _ _)) _ _ _); refine kda_item (knd := PySem.intKind _ _) (by assumption) (by k_mem) hkv (intKind_is _ _ _ _) hvw ?_; (try dsimp only))
            | walk1)
          rw [upK_at (by omega) (by omega), dnK_at (by omega) (by omega)] at hmw
          rename News _ _ _ _ => NB
          refine ne_bools (NB _ List.mem_cons_self).1 (NB _ (mem10 hmw)).1 (by first | units_room | k_units | exact of_decide_eq_true rfl) ?_
          (try dsimp only)
          repeat' (first
            | ((fail_if_success (with_reducible show FtPost _ _ _ _ _ _ _ _ _)); walk1))
          rename Fr _ _ _ _ => FE
          exact FtOk.introV hJc FE NB _ (List.mem_cons_of_mem _ List.mem_cons_self) (fun p q => List.mem_cons_of_mem _ (List.mem_cons_of_mem _ q)) (fun p q => .inl (off3 p q))
            ⟨_, _, _, by with_unfolding_all rfl, by with_unfolding_all rfl, by with_unfolding_all rfl, by with_unfolding_all rfl, by with_unfolding_all rfl, _, by with_unfolding_all rfl, _, by with_unfolding_all rfl, rfl⟩
        · intro m nx h tk hJ F N
          dsimp only
          repeat' (first
            | ((fail_if_success (with_reducible show FtPost _ _ _ _ _ _ _ _ _)); walk1))
          obtain ⟨t1, t2, t3, e1, e2, e3, e4, e5, ti, e6, tj, e7, rfl⟩ := hJ
          exact FtOk.introV hJb F N _ List.mem_cons_self (fun p q => List.mem_cons_of_mem _ q) (fun p q => .inl (off2 p q)) ⟨t1, t2, t3, e1, e2, e3, e4, e5, ti, e6, rfl⟩
      · intro m nx h tk hJ F N
        dsimp only
        repeat' (first
          | ((fail_if_success (with_reducible show FtPost _ _ _ _ _ _ _ _ _)); walk1))
        obtain ⟨t1, t2, t3, e1, e2, e3, e4, e5, ti, e6, rfl⟩ := hJ
        exact FtOk.introV hJa F N _ List.mem_cons_self (fun p q => List.mem_cons_of_mem _ q) (fun p q => .inl (off1 p q)) ⟨t1, t2, t3, e1, e2, e3, e4, e5, rfl⟩
    · intro m nx h tk hJ F N
      dsimp only
      obtain ⟨t1, t2, t3, e1, e2, e3, e4, e5, rfl⟩ := hJ
      rw [map5 e1 e2 e3 e4 e5] at F
      clear e1 e2 e3 e4 e5
      unfold baseN at N
      replace N : News s1.heap s1.heap.objs.size h _ := N
      replace F : Fr s1.heap s1.heap.objs.size h _ := F
      have N' := cb_drop (news := (D, W.listOf #[Value.ref a0, Value.ref a1, Value.ref a2] nD) :: (a0, W.listOf v0.toArray n0) :: (a1, W.listOf v1.toArray n1) :: (a2, W.listOf v2.toArray n2) :: [(s1.heap.objs.size + 1, oT)]) N (fun p hp => List.mem_cons_of_mem _ (by
        rcases List.mem_cons.mp hp with rfl | hp
        · simp
        rcases List.mem_cons.mp hp with rfl | hp
        · simp
        rcases List.mem_cons.mp hp with rfl | hp
        · simp
        rcases List.mem_cons.mp hp with rfl | hp
        · simp
        rw [List.mem_singleton.mp hp]
        simp))
      clear N hkv hwon
      repeat' (first
        | ((with_reducible show wpAny _ _ (subscriptTail _ _ (Value.ref D) (Value.int 0 _)) _ _ _); refine item_gotN (x := .ref a0) (by assumption) (by k_mem) (by decide) (by decide) (by rfl) ?_; (try dsimp only))
        | ((with_reducible show wpAny _ _ (subscriptTail _ _ (Value.ref D) (Value.int 1 _)) _ _ _); refine item_gotN (x := .ref a1) (by assumption) (by k_mem) (by decide) (by decide) (by rfl) ?_; (try dsimp only))
        | ((with_reducible show wpAny _ _ (subscriptTail _ _ (Value.ref D) (Value.int 2 _)) _ _ _); refine item_gotN (x := .ref a2) (by assumption) (by k_mem) (by decide) (by decide) (by rfl) ?_; (try dsimp only))
        | ((with_reducible show wpAny _ _ (subscriptTail _ _ (Value.ref a0) (Value.int (-1) _)) _ _ _); refine last_int (by assumption) (by k_mem) I0 (by omega) ?_; intro _; (try dsimp only))
        | ((with_reducible show wpAny _ _ (subscriptTail _ _ (Value.ref a1) (Value.int (-1) _)) _ _ _); refine last_int (by assumption) (by k_mem) I1 (by omega) ?_; intro _; (try dsimp only))
        | ((with_reducible show wpAny _ _ (subscriptTail _ _ (Value.ref a2) (Value.int (-1) _)) _ _ _); refine last_int (by assumption) (by k_mem) I2 (by omega) ?_; intro _; (try dsimp only))
        | ((with_reducible show wpAny _ _ (call (Value.ref 35) [Value.int _ _, Value.int _ _]) _ _ _); k_dflt (refine use_of (add_ok wd s0 mg mb _ _ _ _ _) K0 (by assumption) KX (by assumption) T rfl (by decide) (by decide) ?_); intro _ _ _ _ _; (try dsimp only))
        | ((fail_if_success (with_reducible show wpAny _ _ (exec (Stmt.For _ _ _ _ _) _) _ _ _)); walk1))
      all_goals first | (exact absurd ok.zero (by assumption)) | skip
      rename_i lE hE lE1 hE' FE NE
      walk1
      repeat' (first | ((fail_if_success (with_reducible show wpAny _ _ (exec (Stmt.For (PySem.Expr.Name _ _) _ _ _ _) _) _ _ _)); walk1))
      rename_i lZ hZ lZ1 I lI T1 tT hT tkT hTup o4a c4a o2a c2a o3a c3a o0a c0a o1a c1a hQ FQ NQ hR hS FS NS
      refine For_src ?_
      repeat' (first
        | ((with_reducible show wpAny _ _ (call (Value.builtin "len") [Value.str (tx _) _]) _ _ _); refine len_tx (by omega) ?_)
        | ((fail_if_success (with_reducible show ForSrc _ _ _ _ _ _ _ _ _)); walk1))
      rename IsRange _ _ _ _ _ _ _ _ => hrAa
      rename Fr _ _ _ _ => FAa
      rename News _ _ _ _ => NAa
      refine ForSrc.rangeV (n := one.length + 1) (by rfl) hrAa (range_small (one.length + 1) (by omega)) (range_size (one.length + 1)) (fun _ _ _ _ q => go_name q) FAa NAa
        (fun i m nx => EndJ I lZ lE D a0 a1 a2 (s1.heap.objs.size + 1) o4a o2a o3a o0a o1a (W.listOf #[Value.str (tx one) t1, Value.str (tx two) t2, Value.str (tx three) t3] 0) oT nD n0 n1 n2 v0 v1 v2 a0 (.str (tx one) t1) (endsTo one A i) m nx)
        ⟨[], 0, [], by with_unfolding_all rfl, by with_unfolding_all rfl, by with_unfolding_all rfl, rfl, (fun _ h => nomatch h), trivial⟩ ?_ ?_
      · clear FAa NAa hrAa
        intro Jv Qv gv dv ov k tk1' m nx h20 tk20 J1 oJ1 hJv _ _ hi hJ F N off hc
        obtain ⟨refs, n, R, e1, e2, e3, rfl, hfar, hP⟩ := hJ
        rw [map3 e1 e2 e3] at F
        rw [Int.zero_add]
        unfold endN at N
        replace N : News s1.heap s1.heap.objs.size h20 _ := N
        replace F : Fr s1.heap s1.heap.objs.size h20 _ := F
        repeat' (first
          | ((with_reducible show wpAny _ _ (binaryOp Operator.Add (Value.str (tx _) _) (Value.str (Str.ofString ",") _)) _ _ _); refine add_tx rfl lit_comma (by simp only [List.length_take, List.length_cons, List.length_nil]; omega) ?_; intro _ _; (try dsimp only))
          | ((with_reducible show wpAny _ _ (subscriptTail _ _ (Value.ref a0) (Value.int _ _)) _ _ _); refine int_gotN (by assumption) (by k_mem) I0 (by omega) (by omega) ?_; intro _; (try dsimp only))
          | ((with_reducible show wpAny _ _ (subscriptTail _ (PySem.Expr.Slice none (some _) none _) (Value.str (tx _) _) (Value.ref _)) _ _ _); (refine slice_tx (s := ⟨_, _, _, _, _⟩) (by omega) (by omega) (by assumption) (by assumption) ?_); intro _ _ _ _ _; (try dsimp only))
          | ((fail_if_success (with_reducible show wpAny _ _ (call (Value.builtin "list.append") [Value.ref lE, _]) _ _ _)); (fail_if_success (with_reducible show FtPost _ _ _ _ _ _ _ _ _)); walk1))
        rename_i lT hT' FT NT lT1
        have hJE : lE ≠ J1 := off (lE, W.listOf refs.toArray n) (by simp [endN])
        refine append_K FT NT (end_updP lT1.2.2.2.2.2.2.2.1 hJE lI.2.1 lZ1.1 lE1 hfar) ?_ (by rw [List.size_toArray, hP.len, sizeLine_eq]; simp only [endsTo, List.length_map, List.length_range]; omega)
        intro hV FV NV
        repeat' (first | ((fail_if_success (with_reducible show FtPost _ _ _ _ _ _ _ _ _)); walk1))
        refine FtOk.introV hJv FV NV _ (List.mem_cons_of_mem _ List.mem_cons_self) (end_sub (x := (J1, oJ1))) (fun p hp => ?_) ⟨refs ++ [.ref lT], n + 1, _ :: R, by with_unfolding_all rfl, by with_unfolding_all rfl, by with_unfolding_all rfl, rfl, fun p hp => ?_, ?_⟩
        · rcases end_off off p hp with e | e
          · right; rw [e, hc]; exact fun x => absurd (Value.type.inj x) (by decide)
          · exact .inl e
        · rcases List.mem_cons.mp hp with rfl | hp
          · exact lT1.2.1
          · exact hfar p hp
        · rw [endsTo_succ]
          exact (PairsIn.one List.mem_cons_self).append (hP.mono fun p hp => List.mem_cons_of_mem _ hp)
      intro mEa nxEa hEEa tkEa hJ FEa NEa
      dsimp only
      obtain ⟨refsa, nra, Ra, ee1, ee2, ee3, rfl, hfara, hPa⟩ := hJ
      rw [map1 ee1] at FEa
      clear ee1 ee2 ee3
      unfold endN at NEa
      replace NEa : News s1.heap s1.heap.objs.size hEEa _ := NEa
      replace FEa : Fr s1.heap s1.heap.objs.size hEEa _ := FEa
      repeat' (first | ((fail_if_success (with_reducible show UnrEndW _ _ _ _ _ _)); walk1))
      refine ⟨hEEa, tkEa, _, (lZ, (W.listOf #[Value.str (tx one) t1, Value.str (tx two) t2, Value.str (tx three) t3] 0)) :: (lE, W.listOf refsa.toArray nra) :: (D, W.listOf #[Value.ref a0, Value.ref a1, Value.ref a2] nD) :: (a0, W.listOf v0.toArray n0) :: (a1, W.listOf v1.toArray n1) :: (a2, W.listOf v2.toArray n2) :: (s1.heap.objs.size + 1, oT) :: Ra, rfl, FEa, NEa, zip_off lI hfara, ⟨⟨List.mem_cons_self, List.mem_cons_of_mem _ (List.mem_cons_of_mem _ List.mem_cons_self), trivial⟩, ?_⟩⟩
      repeat' (first | ((fail_if_success (with_reducible show wpAny _ _ (exec (Stmt.For (PySem.Expr.Name _ _) _ _ _ _) _) _ _ _)); walk1))
      rename_i T1 tT hT tkT hTup o4b c4b o2b c2b o3b c3b o0b c0b o1b c1b hQ FQ NQ hR hS FS NS
      refine For_src ?_
      repeat' (first
        | ((with_reducible show wpAny _ _ (call (Value.builtin "len") [Value.str (tx _) _]) _ _ _); refine len_tx (by omega) ?_)
        | ((fail_if_success (with_reducible show ForSrc _ _ _ _ _ _ _ _ _)); walk1))
      rename IsRange _ _ _ _ _ _ _ _ => hrAb
      rename Fr _ _ _ _ => FAb
      rename News _ _ _ _ => NAb
      refine ForSrc.rangeV (n := two.length + 1) (by rfl) hrAb (range_small (two.length + 1) (by omega)) (range_size (two.length + 1)) (fun _ _ _ _ q => go_name q) FAb NAb
        (fun i m nx => EndJ I lZ lE D a0 a1 a2 (s1.heap.objs.size + 1) o4b o2b o3b o0b o1b (W.listOf #[Value.str (tx one) t1, Value.str (tx two) t2, Value.str (tx three) t3] 0) oT nD n0 n1 n2 v0 v1 v2 a1 (.str (tx two) t2) (endsL one A ++ endsTo two B i) m nx)
        ⟨refsa, nra, Ra, by with_unfolding_all rfl, by with_unfolding_all rfl, by with_unfolding_all rfl, rfl, hfara, by rw [show endsTo two B 0 = [] from rfl, List.append_nil]; exact hPa⟩ ?_ ?_
      · clear FAb NAb hrAb
        intro Jv Qv gv dv ov k tk1' m nx h20 tk20 J1 oJ1 hJv _ _ hi hJ F N off hc
        obtain ⟨refs, n, R, e1, e2, e3, rfl, hfar, hP⟩ := hJ
        rw [map3 e1 e2 e3] at F
        rw [Int.zero_add]
        unfold endN at N
        replace N : News s1.heap s1.heap.objs.size h20 _ := N
        replace F : Fr s1.heap s1.heap.objs.size h20 _ := F
        repeat' (first
          | ((with_reducible show wpAny _ _ (binaryOp Operator.Add (Value.str (tx _) _) (Value.str (Str.ofString ",") _)) _ _ _); refine add_tx rfl lit_comma (by simp only [List.length_take, List.length_cons, List.length_nil]; omega) ?_; intro _ _; (try dsimp only))
          | ((with_reducible show wpAny _ _ (subscriptTail _ _ (Value.ref a1) (Value.int _ _)) _ _ _); refine int_gotN (by assumption) (by k_mem) I1 (by omega) (by omega) ?_; intro _; (try dsimp only))
          | ((with_reducible show wpAny _ _ (subscriptTail _ (PySem.Expr.Slice none (some _) none _) (Value.str (tx _) _) (Value.ref _)) _ _ _); (refine slice_tx (s := ⟨_, _, _, _, _⟩) (by omega) (by omega) (by assumption) (by assumption) ?_); intro _ _ _ _ _; (try dsimp only))
          | ((fail_if_success (with_reducible show wpAny _ _ (call (Value.builtin "list.append") [Value.ref lE, _]) _ _ _)); (fail_if_success (with_reducible show FtPost _ _ _ _ _ _ _ _ _)); walk1))
        rename_i lT hT' FT NT lT1
        have hJE : lE ≠ J1 := off (lE, W.listOf refs.toArray n) (by simp [endN])
        refine append_K FT NT (end_updP lT1.2.2.2.2.2.2.2.1 hJE lI.2.1 lZ1.1 lE1 hfar) ?_ (by rw [List.size_toArray, hP.len, sizeLine_eq]; simp only [List.length_append, endsL, endsTo, List.length_map, List.length_range]; omega)
        intro hV FV NV
        repeat' (first | ((fail_if_success (with_reducible show FtPost _ _ _ _ _ _ _ _ _)); walk1))
        refine FtOk.introV hJv FV NV _ (List.mem_cons_of_mem _ List.mem_cons_self) (end_sub (x := (J1, oJ1))) (fun p hp => ?_) ⟨refs ++ [.ref lT], n + 1, _ :: R, by with_unfolding_all rfl, by with_unfolding_all rfl, by with_unfolding_all rfl, rfl, fun p hp => ?_, ?_⟩
        · rcases end_off off p hp with e | e
          · right; rw [e, hc]; exact fun x => absurd (Value.type.inj x) (by decide)
          · exact .inl e
        · rcases List.mem_cons.mp hp with rfl | hp
          · exact lT1.2.1
          · exact hfar p hp
        · rw [endsTo_succ, ← List.append_assoc]
          exact (PairsIn.one List.mem_cons_self).append (hP.mono fun p hp => List.mem_cons_of_mem _ hp)
      intro mEb nxEb hEEb tkEb hJ FEb NEb
      dsimp only
      obtain ⟨refsb, nrb, Rb, ee1, ee2, ee3, rfl, hfarb, hPb⟩ := hJ
      rw [map1 ee1] at FEb
      clear ee1 ee2 ee3
      unfold endN at NEb
      replace NEb : News s1.heap s1.heap.objs.size hEEb _ := NEb
      replace FEb : Fr s1.heap s1.heap.objs.size hEEb _ := FEb
      repeat' (first | ((fail_if_success (with_reducible show UnrEndW _ _ _ _ _ _)); walk1))
      refine ⟨hEEb, tkEb, _, (lZ, (W.listOf #[Value.str (tx one) t1, Value.str (tx two) t2, Value.str (tx three) t3] 0)) :: (lE, W.listOf refsb.toArray nrb) :: (D, W.listOf #[Value.ref a0, Value.ref a1, Value.ref a2] nD) :: (a0, W.listOf v0.toArray n0) :: (a1, W.listOf v1.toArray n1) :: (a2, W.listOf v2.toArray n2) :: (s1.heap.objs.size + 1, oT) :: Rb, rfl, FEb, NEb, zip_off lI hfarb, ⟨⟨List.mem_cons_self, List.mem_cons_of_mem _ (List.mem_cons_of_mem _ List.mem_cons_self), trivial⟩, ?_⟩⟩
      repeat' (first | ((fail_if_success (with_reducible show wpAny _ _ (exec (Stmt.For (PySem.Expr.Name _ _) _ _ _ _) _) _ _ _)); walk1))
      rename_i T1 tT hT tkT hTup o4c c4c o2c c2c o3c c3c o0c c0c o1c c1c hQ FQ NQ hR hS FS NS
      refine For_src ?_
      repeat' (first
        | ((with_reducible show wpAny _ _ (call (Value.builtin "len") [Value.str (tx _) _]) _ _ _); refine len_tx (by omega) ?_)
        | ((fail_if_success (with_reducible show ForSrc _ _ _ _ _ _ _ _ _)); walk1))
      rename IsRange _ _ _ _ _ _ _ _ => hrAc
      rename Fr _ _ _ _ => FAc
      rename News _ _ _ _ => NAc
      refine ForSrc.rangeV (n := three.length + 1) (by rfl) hrAc (range_small (three.length + 1) (by omega)) (range_size (three.length + 1)) (fun _ _ _ _ q => go_name q) FAc NAc
        (fun i m nx => EndJ I lZ lE D a0 a1 a2 (s1.heap.objs.size + 1) o4c o2c o3c o0c o1c (W.listOf #[Value.str (tx one) t1, Value.str (tx two) t2, Value.str (tx three) t3] 0) oT nD n0 n1 n2 v0 v1 v2 a2 (.str (tx three) t3) (endsL one A ++ endsL two B ++ endsTo three C i) m nx)
        ⟨refsb, nrb, Rb, by with_unfolding_all rfl, by with_unfolding_all rfl, by with_unfolding_all rfl, rfl, hfarb, by rw [show endsTo three C 0 = [] from rfl, List.append_nil]; exact hPb⟩ ?_ ?_
      · clear FAc NAc hrAc
        intro Jv Qv gv dv ov k tk1' m nx h20 tk20 J1 oJ1 hJv _ _ hi hJ F N off hc
        obtain ⟨refs, n, R, e1, e2, e3, rfl, hfar, hP⟩ := hJ
        rw [map3 e1 e2 e3] at F
        rw [Int.zero_add]
        unfold endN at N
        replace N : News s1.heap s1.heap.objs.size h20 _ := N
        replace F : Fr s1.heap s1.heap.objs.size h20 _ := F
        repeat' (first
          | ((with_reducible show wpAny _ _ (binaryOp Operator.Add (Value.str (tx _) _) (Value.str (Str.ofString ",") _)) _ _ _); refine add_tx rfl lit_comma (by simp only [List.length_take, List.length_cons, List.length_nil]; omega) ?_; intro _ _; (try dsimp only))
          | ((with_reducible show wpAny _ _ (subscriptTail _ _ (Value.ref a2) (Value.int _ _)) _ _ _); refine int_gotN (by assumption) (by k_mem) I2 (by omega) (by omega) ?_; intro _; (try dsimp only))
          | ((with_reducible show wpAny _ _ (subscriptTail _ (PySem.Expr.Slice none (some _) none _) (Value.str (tx _) _) (Value.ref _)) _ _ _); (refine slice_tx (s := ⟨_, _, _, _, _⟩) (by omega) (by omega) (by assumption) (by assumption) ?_); intro _ _ _ _ _; (try dsimp only))
          | ((fail_if_success (with_reducible show wpAny _ _ (call (Value.builtin "list.append") [Value.ref lE, _]) _ _ _)); (fail_if_success (with_reducible show FtPost _ _ _ _ _ _ _ _ _)); walk1))
        rename_i lT hT' FT NT lT1
        have hJE : lE ≠ J1 := off (lE, W.listOf refs.toArray n) (by simp [endN])
        refine append_K FT NT (end_updP lT1.2.2.2.2.2.2.2.1 hJE lI.2.1 lZ1.1 lE1 hfar) ?_ (by rw [List.size_toArray, hP.len, sizeLine_eq]; simp only [List.length_append, endsL, endsTo, List.length_map, List.length_range]; omega)
        intro hV FV NV
        repeat' (first | ((fail_if_success (with_reducible show FtPost _ _ _ _ _ _ _ _ _)); walk1))
        refine FtOk.introV hJv FV NV _ (List.mem_cons_of_mem _ List.mem_cons_self) (end_sub (x := (J1, oJ1))) (fun p hp => ?_) ⟨refs ++ [.ref lT], n + 1, _ :: R, by with_unfolding_all rfl, by with_unfolding_all rfl, by with_unfolding_all rfl, rfl, fun p hp => ?_, ?_⟩
        · rcases end_off off p hp with e | e
          · right; rw [e, hc]; exact fun x => absurd (Value.type.inj x) (by decide)
          · exact .inl e
        · rcases List.mem_cons.mp hp with rfl | hp
          · exact lT1.2.1
          · exact hfar p hp
        · rw [endsTo_succ, ← List.append_assoc]
          exact (PairsIn.one List.mem_cons_self).append (hP.mono fun p hp => List.mem_cons_of_mem _ hp)
      intro mEc nxEc hEEc tkEc hJ FEc NEc
      dsimp only
      obtain ⟨refsc, nrc, Rc, ee1, ee2, ee3, rfl, hfarc, hPc⟩ := hJ
      rw [map1 ee1] at FEc
      clear ee1 ee2 ee3
      unfold endN at NEc
      replace NEc : News s1.heap s1.heap.objs.size hEEc _ := NEc
      replace FEc : Fr s1.heap s1.heap.objs.size hEEc _ := FEc
      repeat' (first | ((fail_if_success (with_reducible show UnrEndW _ _ _ _ _ _)); walk1))
      refine ⟨hEEc, tkEc, _, (lZ, (W.listOf #[Value.str (tx one) t1, Value.str (tx two) t2, Value.str (tx three) t3] 0)) :: (lE, W.listOf refsc.toArray nrc) :: (D, W.listOf #[Value.ref a0, Value.ref a1, Value.ref a2] nD) :: (a0, W.listOf v0.toArray n0) :: (a1, W.listOf v1.toArray n1) :: (a2, W.listOf v2.toArray n2) :: (s1.heap.objs.size + 1, oT) :: Rc, rfl, FEc, NEc, zip_off lI hfarc, ⟨⟨List.mem_cons_self, List.mem_cons_of_mem _ (List.mem_cons_of_mem _ List.mem_cons_self), trivial⟩, ?_⟩⟩
      repeat' (first | ((fail_if_success (with_reducible show wpAny _ _ (exec (Stmt.For _ _ _ _ _) _) _ _ _)); walk1))
      rename_i hX tkX FX NX
      have NX' : News s1.heap s1.heap.objs.size hX ((lE, W.listOf refsc.toArray nrc) :: (s1.heap.objs.size + 1, oT) :: Rc) := cb_drop NX (fun p hp => by
        rcases List.mem_cons.mp hp with rfl | hp
        · simp
        rcases List.mem_cons.mp hp with rfl | hp
        · simp
        simp [hp])
      replace FX : Fr s1.heap s1.heap.objs.size hX _ := FX
      have hcE : @LT.lt Nat _ (s1.heap.objs.size + 1) lE := lE1.2.2.2.2
      have hRE : ∀ p ∈ Rc, @LT.lt Nat _ lE p.1 := fun p hp => Nat.lt_trans (Nat.lt_of_lt_of_le lI.2.1 (Nat.le_add_right _ 4)) (hfarc p hp)
      replace hPc : PairsIn Rc refsc (endsAll one two three A B C) := hPc
      obtain ⟨EE, hEE⟩ : ∃ EE, endsAll one two three A B C = EE := ⟨_, rfl⟩
      have hlenE : EE.length ≤ 24 := by rw [← hEE]; simp only [endsAll, endsL, endsTo, List.length_append, List.length_map, List.length_range]; omega
      have hlenE2 : 3 ≤ EE.length := by rw [← hEE]; simp only [endsAll, endsL, endsTo, List.length_append, List.length_map, List.length_range]; omega
      have hcoll := ok.coll
      have hord := ok.ord
      rw [hEE] at hcoll hord hPc
      clear NX NEc FEc NAc FAc hrAc
      refine For_src ?_
      repeat' (first
        | ((fail_if_success (with_reducible show ForSrc _ _ _ _ _ _ _ _ _)); walk1))
      refine ForSrc.listV (its := refsc.toArray) (by rfl) (fun _ _ _ _ _ hit q => go_pair hit q) FX NX'
        (fun _ m nx => m (Str.ofString "ends") = some (.ref lE) ∧ nx = (lE, W.listOf refsc.toArray nrc) :: (s1.heap.objs.size + 1, oT) :: Rc) (fun _ _ nx hJ => by rw [hJ.2]; exact .inr ⟨_, List.mem_cons_self, rfl, _, rfl⟩) ⟨by with_unfolding_all rfl, rfl⟩ ?_ ?_
      · intro Ja Qa ga da oa i v m nx h20 tk20 J1 oJ1 hJa _ _ hv hJ F N off hc
        obtain ⟨e1, rfl⟩ := hJ
        rw [map1 e1] at F
        obtain ⟨c, hci, T, t, t', n, rfl, hm⟩ := hPc.at (i := i) (by simpa using hv)
        refine two_assignF (by rfl) F N (List.mem_cons_of_mem _ (List.mem_cons_of_mem _ (List.mem_cons_of_mem _ hm))) ⟨.inr rfl, _, rfl⟩ (by rfl) (by rfl) (by rfl) ?_
        intro h21 tk21 F21 N21
        replace F21 : Fr s1.heap s1.heap.objs.size h21 _ := F21
        replace N21 : News s1.heap s1.heap.objs.size h21 _ := N21
        clear F N
        repeat' (first | ((fail_if_success (with_reducible show wpAny _ _ (exec (Stmt.For _ _ _ _ _) _) _ _ _)); walk1))
        refine For_src ?_
        repeat' (first
          | ((fail_if_success (with_reducible show ForSrc _ _ _ _ _ _ _ _ _)); walk1))
        refine ForSrc.listV (its := refsc.toArray) (by rfl) (fun _ _ _ _ _ hit q => go_pair hit q) F21 N21
          (fun _ m nx => NmJ lE c t t' ((J1, oJ1) :: (lE, W.listOf refsc.toArray nrc) :: (s1.heap.objs.size + 1, oT) :: Rc) m nx) (fun _ _ nx hJ => by obtain ⟨_, _, _, rfl⟩ := hJ; exact .inr ⟨_, List.mem_cons_of_mem _ List.mem_cons_self, rfl, _, rfl⟩) ⟨by with_unfolding_all rfl, by with_unfolding_all rfl, by with_unfolding_all rfl, rfl⟩ ?_ ?_
        · clear e1 F21 N21
          intro Jb Qb gb db ob' i' v m nx h22 tk22 J2 oJ2 hJb _ _ hv' hJ F N off2 hc2
          obtain ⟨e1, e2, e3, rfl⟩ := hJ
          rw [map3 e1 e2 e3] at F
          obtain ⟨c', hci', T', tt, tt', n', rfl, hm'⟩ := hPc.at (i := i') (by simpa using hv')
          refine two_assignF (by rfl) F N (List.mem_cons_of_mem _ (List.mem_cons_of_mem _ (List.mem_cons_of_mem _ (List.mem_cons_of_mem _ hm')))) ⟨.inr rfl, _, rfl⟩ (by rfl) (by rfl) (by rfl) ?_
          intro h23 tk23 F23 N23
          replace F23 : Fr s1.heap s1.heap.objs.size h23 _ := F23
          replace N23 : News s1.heap s1.heap.objs.size h23 _ := N23
          clear F N
          repeat' (first
            | ((with_reducible show wpAny _ _ (call (Value.ref 63) [Value.str (tx _) _, Value.str (tx _) _]) _ _ _); k_dflt (refine use_of (coll_ok wd s0 mg mb _ _ _ _ _) K0 (by assumption) KX (by assumption) T rfl (by decide) (by decide) ?_); intro _ _ _ _ _; (try dsimp only))
            | ((fail_if_success (with_reducible show FtPost _ _ _ _ _ _ _ _ _)); walk1))
          · have hk1 := hcoll c' (List.mem_of_getElem? hci') c (List.mem_of_getElem? hci)
            have hk2 := hcoll c (List.mem_of_getElem? hci) c' (List.mem_of_getElem? hci')
            have hne := ‹_ ≠ _›
            refine absurd ?_ hne
            show b2i (decide (c'.1 < c.1)) - b2i (decide (c.1 < c'.1)) = _
            rw [hk1, hk2]
          · rename Fr _ _ _ _ => FE
            rename News _ _ _ _ => NE
            exact FtOk.introV hJb FE NE _ List.mem_cons_self (fun p q => List.mem_cons_of_mem _ q) (fun p q => .inl (off2 p q)) ⟨by with_unfolding_all rfl, by with_unfolding_all rfl, by with_unfolding_all rfl, rfl⟩
        · intro m nx h tk hJ F N
          dsimp only
          repeat' (first
            | ((fail_if_success (with_reducible show FtPost _ _ _ _ _ _ _ _ _)); walk1))
          obtain ⟨e1, _, _, rfl⟩ := hJ
          exact FtOk.introV hJa F N _ List.mem_cons_self (fun p q => List.mem_cons_of_mem _ q) (fun p q => .inl (off p q)) ⟨e1, rfl⟩
      · intro m nx h tk hJ F N
        dsimp only
        obtain ⟨e1, rfl⟩ := hJ
        rw [map1 e1] at F
        clear e1
        replace F : Fr s1.heap s1.heap.objs.size h _ := F
        replace N : News s1.heap s1.heap.objs.size h _ := N
        repeat' (first
          | ((fail_if_success (with_reducible show wpAny _ _ (eval (PySem.Expr.DictComp _ _ _ _ _) _) _ _ _)); walk1))
        have hfun : ∀ c ∈ EE, ∀ c' ∈ EE, c.1 = c'.1 → c.2 = c'.2 := fun c hc c' hc' e => by
          have k1 := hcoll c hc c' hc'
          have k2 := hcoll c' hc' c hc
          rw [e, decide_eq_false (List.lt_irrefl _)] at k1
          rw [e, decide_eq_false (List.lt_irrefl _)] at k2
          have k1' := of_decide_eq_false k1.symm
          have k2' := of_decide_eq_false k2.symm
          omega
        refine DictComp_src F (by with_unfolding_all rfl) (by rfl) (by decide) ?_
        repeat' (first
          | ((fail_if_success (with_reducible show DSrc _ _ _ _ _ _ _ _ _ _ _ _ _ _ _ _ _)); walk1))
        refine DSrc.pairs (by rfl) F N List.mem_cons_self (hPc.mono fun p hp => List.mem_cons_of_mem _ (List.mem_cons_of_mem _ hp)) (by omega) (by decide) (by rfl) (by rfl) (by rfl) (by decide) (by decide) (by decide) hfun ?_
        intro hT tkT2 dT od2 kvs2 FT NT hdT hTab ltT
        have hTc : @LT.lt Nat _ (s1.heap.objs.size + 1) dT := ltT (s1.heap.objs.size + 1, oT) (List.mem_cons_of_mem _ List.mem_cons_self)
        clear F N
        (try dsimp only)
        have hRc : ∀ p ∈ Rc, @LT.lt Nat _ (s1.heap.objs.size + 1) p.1 := fun p hp => Nat.lt_trans hcE (hRE p hp)
        repeat' (first
          | ((fail_if_success (with_reducible show wpAny _ _ (eval (PySem.Expr.ListComp _ _ _ _) _) _ _ _)); walk1))
        rename Fr _ _ _ _ => F2
        rename News _ _ _ _ => N2
        refine ListComp_src F2 (by with_unfolding_all rfl) (by rfl) (by decide) ?_
        repeat' (first
          | ((fail_if_success (with_reducible show CSrc _ _ _ _ _ _ _ _ _ _ _ _ _ _ _ _ _)); walk1))
        refine CSrc.pairs (its := refsc.toArray) (by rfl) F2 N2 (by rw [List.size_toArray, sizeLine_eq, hPc.len]; omega) (by decide) (by rfl) (by rfl) (by rfl) (by decide)
          (fun q ys nx => nx = _ ∧ NmAre ys ((EE.take q).map (·.1))) (fun q ys nx hJ => by
            rw [hJ.1]; exact .inr ⟨_, List.mem_cons_of_mem _ List.mem_cons_self, rfl, _, rfl⟩) ⟨rfl, trivial⟩
          (XyJ EE) (fun q v ys nx hv hJ => by
            obtain ⟨c, hc, T, t, t', n, rfl, hm⟩ := hPc.at (i := q) (by simpa using hv)
            exact ⟨T, _, _, _, rfl, by rw [hJ.1]; exact List.mem_cons_of_mem _ (List.mem_cons_of_mem _ (List.mem_cons_of_mem _ hm)), ⟨.inr rfl, _, rfl⟩, c, t, t', hc, rfl, rfl⟩) ?_ ?_
        · rintro q x y ys nx hq ⟨c, t, t', hc, rfl, rfl⟩ ⟨rfl, hI⟩ hyl g' h' tk' I oI C oC D mC ⟨hA, hB⟩ hoC FC NC offC neC
          refine wpAny_tests_nil ?_
          simp only [if_true]
          repeat' (first
            | ((fail_if_success (with_reducible show CompOk _ _ _ _ _ _ _ _ _ _ _ _)); walk1))
          exact CompOk.intro FC NC _ List.mem_cons_self (List.mem_cons_of_mem _ List.mem_cons_self) (List.mem_cons_of_mem _ (List.mem_cons_of_mem _ List.mem_cons_self)) (fun p hp => List.mem_cons_of_mem _ (List.mem_cons_of_mem _ (List.mem_cons_of_mem _ hp))) offC
            ⟨rfl, by rw [List.take_add_one, hc, List.map_append]; exact NmAre.append NmAre.one hI⟩
        · rintro gg us nx ⟨rfl, hus⟩ Du hhu tku FU NU offU
          rw [List.size_toArray, hPc.len, List.take_length] at hus
          clear F2 N2
          (try dsimp only)
          repeat' (first
            | ((fail_if_success (with_reducible show wpAny _ _ (call (Value.builtin "sorted") _ _) _ _ _)); walk1))
          obtain ⟨P, hP, hperm, hpw⟩ := hord
          show wpAny _ _ (call (Value.builtin "sorted") [Value.ref Du] [(Str.ofString "key", Value.ref 70)]) _ _ _
          refine names_sorted (q := 70) hus (by omega) (by omega) hP FU NU ⟨_, (NU _ List.mem_cons_self).1, rfl, _, rfl⟩ ?_ ?_
          · exact xfrm_back K0 KX T rfl (by exact of_decide_eq_true rfl) (by exact of_decide_eq_true rfl)
          intro Ds hs tks cs1 FS NS ltS
          clear FU NU
          have NS' := cb_drop (news := (Ds, W.listOf (List.toArray (P.toList.map fun i => us.getD i Value.none)) cs1) :: (dT, od2) :: (lE, W.listOf refsc.toArray nrc) :: (s1.heap.objs.size + 1, _) :: Rc) NS (fun p hp => by
            rcases List.mem_cons.mp hp with rfl | hp
            · exact List.mem_cons_self
            · exact List.mem_cons_of_mem _ (List.mem_cons_of_mem _ hp))
          clear NS
          (try dsimp only)
          repeat' (first
            | ((fail_if_success (with_reducible show wpAny _ _ (eval (PySem.Expr.ListComp _ _ _ _) _) _ _ _)); walk1))
          have hPlt : ∀ i ∈ P.toList, i < EE.length := fun i hi => List.mem_range.mp (hperm.mem_iff.mp hi)
          have hPlen : P.toList.length = EE.length := by rw [hperm.length_eq, List.length_range]
          rename Fr _ _ _ _ => F3
          rename News _ _ _ _ => N3
          refine ListComp_src F3 (by with_unfolding_all rfl) (by rfl) (by decide) ?_
          repeat' (first
            | ((fail_if_success (with_reducible show CSrc _ _ _ _ _ _ _ _ _ _ _ _ _ _ _ _ _)); walk1))
          refine CSrc.list (its := List.toArray (P.toList.map fun i => us.getD i Value.none)) (by rfl) F3 N3 (by rw [List.size_toArray, List.length_map, hPlen, sizeLine_eq]; omega) (by decide) (by rfl) (by rfl) (fun _ _ _ _ q => go_name q)
            (fun q ys nx => nx = _ ∧ IntsAre ys ((P.toList.take q).map fun i => (EE.getD i ([], 0)).2)) (fun q ys nx hJ => by
              rw [hJ.1]; exact .inr ⟨_, List.mem_cons_self, rfl, _, rfl⟩) ⟨rfl, .nil⟩ ?_ ?_
          · rintro q v ys nx hv ⟨rfl, hI⟩ hyl g' h' tk' I oI C oC D mC hA hoC FC NC offC neC
            refine wpAny_tests_nil ?_
            simp only [if_true]
            obtain ⟨pi, hpi, rfl⟩ : ∃ pi, P.toList[q]? = some pi ∧ us.getD pi Value.none = v := by simpa using hv
            have hplt := hPlt pi (List.mem_of_getElem? hpi)
            obtain ⟨tn, hn⟩ := hus.getD (i := pi) (by simpa using hplt)
            have hcE2 : EE.getD pi ([], 0) ∈ EE := by
              rw [List.getD_eq_getElem?_getD, List.getElem?_eq_getElem hplt]; exact List.getElem_mem hplt
            have e1 : (EE.map (·.1)).getD pi [] = (EE.getD pi ([], 0)).1 := by simp [List.getD_eq_getElem?_getD, List.getElem?_map]; cases EE[pi]? <;> rfl
            rw [hn, e1] at hA
            obtain ⟨tv, htv⟩ := hTab _ hcE2
            repeat' (first
              | ((with_reducible show wpAny _ _ (subscriptTail _ _ (Value.ref dT) (Value.str _ _)) _ _ _); refine kda_item (knd := PySem.strKind _ _) (by assumption) (by k_mem) hdT (strKind_is _ _ _ _) htv ?_; (try dsimp only))
              | ((fail_if_success (with_reducible show CompOk _ _ _ _ _ _ _ _ _ _ _ _)); walk1))
            exact CompOk.intro FC NC _ List.mem_cons_self (List.mem_cons_of_mem _ List.mem_cons_self) (List.mem_cons_of_mem _ (List.mem_cons_of_mem _ List.mem_cons_self)) (fun p hp => List.mem_cons_of_mem _ (List.mem_cons_of_mem _ (List.mem_cons_of_mem _ hp))) offC
              ⟨rfl, by rw [List.take_add_one, hpi, List.map_append]; exact intsAre_snoc hI⟩
          · rintro gg2 ws nx ⟨rfl, hws⟩ Dw hhw tkw FW NW offW
            rw [List.size_toArray, List.length_map, List.take_length] at hws
            clear F3 N3
            (try dsimp only)
            repeat' (first
              | ((fail_if_success (with_reducible show wpAny _ _ (eval (PySem.Expr.ListComp _ _ _ _) _) _ _ _)); walk1))
            rename Fr _ _ _ _ => F4
            rename News _ _ _ _ => N4
            refine ListComp_src F4 (by with_unfolding_all rfl) (by rfl) (by decide) ?_
            repeat' (first
              | ((fail_if_success (with_reducible show CSrc _ _ _ _ _ _ _ _ _ _ _ _ _ _ _ _ _)); walk1))
            refine CSrc.pairs (its := refsc.toArray) (by rfl) F4 N4 (by rw [List.size_toArray, sizeLine_eq, hPc.len]; omega) (by decide) (by rfl) (by rfl) (by rfl) (by decide)
              (fun q ys nx => nx = _ ∧ IntsAre ys ((EE.take q).map (·.2))) (fun q ys nx hJ => by
                rw [hJ.1]; exact .inr ⟨_, List.mem_cons_of_mem _ (List.mem_cons_of_mem _ (List.mem_cons_of_mem _ List.mem_cons_self)), rfl, _, rfl⟩) ⟨rfl, .nil⟩
              (XyJ EE) (fun q v ys nx hv hJ => by
                obtain ⟨c, hc, T, t, t', n, rfl, hm⟩ := hPc.at (i := q) (by simpa using hv)
                exact ⟨T, _, _, _, rfl, by rw [hJ.1]; exact List.mem_cons_of_mem _ (List.mem_cons_of_mem _ (List.mem_cons_of_mem _ (List.mem_cons_of_mem _ (List.mem_cons_of_mem _ hm)))), ⟨.inr rfl, _, rfl⟩, c, t, t', hc, rfl, rfl⟩) ?_ ?_
            · rintro q x y ys nx hq ⟨c, t, t', hc, rfl, rfl⟩ ⟨rfl, hI⟩ hyl g' h' tk' I oI C oC D mC ⟨hA, hB⟩ hoC FC NC offC neC
              refine wpAny_tests_nil ?_
              simp only [if_true]
              repeat' (first
                | ((fail_if_success (with_reducible show CompOk _ _ _ _ _ _ _ _ _ _ _ _)); walk1))
              exact CompOk.intro FC NC _ List.mem_cons_self (List.mem_cons_of_mem _ List.mem_cons_self) (List.mem_cons_of_mem _ (List.mem_cons_of_mem _ List.mem_cons_self)) (fun p hp => List.mem_cons_of_mem _ (List.mem_cons_of_mem _ (List.mem_cons_of_mem _ hp))) offC
                ⟨rfl, by rw [List.take_add_one, hc, List.map_append]; exact intsAre_snoc hI⟩
            · rintro gg3 zs nx ⟨rfl, hzs⟩ Dz hhz tkz FZ NZ offZ
              rw [List.size_toArray, hPc.len, List.take_length] at hzs
              clear F4 N4
              (try dsimp only)
              repeat' (first
                | ((fail_if_success (with_reducible show wpAny _ _ (call (Value.builtin "sorted") _ _) _ _ _)); walk1))
              show wpAny _ _ (call (Value.builtin "sorted") [Value.ref Dz] [(Str.ofString "reverse", Value.bool true)]) _ _ _
              refine ksk_rev (b := true) FZ NZ ⟨_, (NZ _ List.mem_cons_self).1, rfl, _, rfl⟩ hzs (by rw [List.length_map]; omega) ?_
              intro Dr vr nr cr hr FR NR ltR hIr hlr hpermr hpwr _
              (try dsimp only)
              repeat' (first
                | ((fail_if_success (with_reducible show wpAny _ _ (compareOp CmpOp.Eq _ _) _ _ _)); walk1))
              have hdw : P.toList.map (fun i => (EE.getD i ([], 0)).2) = nr := by
                refine desc_eq ?_ hpw (by simpa using hpwr)
                have hp1 := hperm.map (fun i => (EE.getD i ([], 0)).2)
                rw [range_map] at hp1
                exact hp1.trans hpermr.symm
              rw [hdw] at hws
              refine eq_intsK (vs := ws) (us := vr) (ns := nr) (ms := nr) ⟨_, (NR _ (List.mem_cons_of_mem _ (List.mem_cons_of_mem _ List.mem_cons_self))).1, rfl, _, rfl⟩ hws ⟨_, (NR _ List.mem_cons_self).1, rfl, _, rfl⟩ hIr (by first | units_room | k_units | exact of_decide_eq_true rfl) ?_
              rw [decide_eq_true rfl]
              exact hfin _ _ _ FR)
end Mine
end
theorem PySem.Challenge.cw_xg0038_01_holds : PySem.Challenge.rw_xg0038_01.Holds := by
  exact Mine.law_ok
