import PyProof.Rows.All
import Wide.All
import OpenK.AllK
import Wide.FinOn
import PySem.Challenge.RW_mg0081_01
set_option Elab.async false

section
open PySem PySem.W PyProof.Rows
set_option maxRecDepth 100000
set_option maxHeartbeats 8000000
namespace Mine
open_top hd for PySem.Challenge.rw_mg0081_01
end Mine
end

section
open PySem PySem.W PyProof.Rows
set_option maxRecDepth 100000
set_option maxHeartbeats 8000000
namespace Mine
def thStep (c : Int) (k : Int) : Int := if 48 ≤ k ∧ k ≤ 57 then c * 10 + (k - 48) else c
def thList (l : List Int) : Int := l.foldl thStep 0
def thous (x : Str) : Int := thList (KStt.codes x)
theorem digit_mem (n : Nat) : n ∈ (Str.ofString "0123456789").cps.toList ↔ (48 ≤ n ∧ n ≤ 57) := by
  have e : (Str.ofString "0123456789").cps.toList = [48, 49, 50, 51, 52, 53, 54, 55, 56, 57] := by decide +kernel
  rw [e]
  simp only [List.mem_cons, List.not_mem_nil, or_false]
  omega
theorem digit_no {n : Nat} (h : (Builtin.Str.occurrences (Str.ofString "0123456789") { cps := #[n] } 0 (Str.ofString "0123456789").length 1).isEmpty = true) : ¬ (48 ≤ n ∧ n ≤ 57) := by
  have e := StrLaws.found_one (Str.ofString "0123456789") n
  rw [h] at e
  have e2 : decide (n ∈ (Str.ofString "0123456789").cps.toList) = false := e.symm
  rw [← digit_mem]
  exact of_decide_eq_false e2
theorem digit_yes {n : Nat} (h : (Builtin.Str.occurrences (Str.ofString "0123456789") { cps := #[n] } 0 (Str.ofString "0123456789").length 1).isEmpty = false) : 48 ≤ n ∧ n ≤ 57 := by
  have e := StrLaws.found_one (Str.ofString "0123456789") n
  rw [h] at e
  have e2 : decide (n ∈ (Str.ofString "0123456789").cps.toList) = true := e.symm
  rw [← digit_mem]
  exact of_decide_eq_true e2
theorem digit_at {n : Nat} (h : 48 ≤ n ∧ n ≤ 57) : Txt.find (Str.ofString "0123456789") { cps := #[n] } = (n : Int) - 48 := by
  have h2 : n = 48 ∨ n = 49 ∨ n = 50 ∨ n = 51 ∨ n = 52 ∨ n = 53 ∨ n = 54 ∨ n = 55 ∨ n = 56 ∨ n = 57 := by omega
  rcases h2 with h | h | h | h | h | h | h | h | h | h <;> subst h <;> decide +kernel
theorem thList_snoc (l : List Int) (k : Int) : thList (l ++ [k]) = thStep (thList l) k := by
  unfold thList
  rw [List.foldl_append]
  rfl
theorem th_no {l : List Int} {n : Nat} {a : Int} (e : a = thList l) (h : (Builtin.Str.occurrences (Str.ofString "0123456789") { cps := #[n] } 0 (Str.ofString "0123456789").length 1).isEmpty = true) : a = thList (l ++ [(n : Int)]) := by
  have h1 := digit_no h
  rw [thList_snoc, thStep, if_neg (by omega)]
  exact e
theorem th_yes {l : List Int} {n : Nat} {a : Int} (e : a = thList l) (h : (Builtin.Str.occurrences (Str.ofString "0123456789") { cps := #[n] } 0 (Str.ofString "0123456789").length 1).isEmpty = false) :
    a * 10 + Txt.find (Str.ofString "0123456789") { cps := #[n] } = thList (l ++ [(n : Int)]) := by
  have h1 := digit_yes h
  rw [thList_snoc, thStep, if_pos (by omega), digit_at h1, e]
theorem not_both {b : Bool} {P : Prop} (h : b = true) (h' : b = false) : P := by
  rw [h] at h'
  cases h'
theorem thous_claim (w : World) (s₀ : Shared) (mg mb : Str → Option Value) (text : Str) (t : Tok) (news : List (Addr × Obj)) :
    CbClaim Challenge.rw_mg0081_01.row.prog w (hd.heap_39 w.params) hd.view_39 (looseW hd.view_39 []) (ExcName.means s₀.heap) mg mb 28 news [] (text.length ≤ 64) [.str text t] (fun t => .int (thous text) t) := by
  k_fill
  k_with "state" => first | exact rfl | exact th_no (by assumption) (by assumption) | exact th_yes (by assumption) (by assumption)
  k_with "tree" => (unfold thous; assumption)
  k_with "pyIter str" => k_state (fun pre count => count = thList pre) "count"
  dsimp only [CbClaim, CbLists, CbRet]
  intros
  rename_i hret
  refine wpAny_call ?_
  k_dflt cell_enter
  w_strict (k_steps)
  · exact not_both (by assumption) (by assumption)
  · cb_end hret
end Mine
end

section
open PySem PySem.W PyProof.Rows
set_option maxRecDepth 100000
set_option maxHeartbeats 8000000
namespace Mine
theorem thous_use {w : World} {s₀ : Shared} {mg mb : Str → Option Value} {text : Str} {t : Tok} {news : List (Addr × Obj)} {c : Int}
    {dp un : Nat} {gd : Option (List Code)} {cn : Str} {cs : Scope} {a : Addr} {ccd : Value} {cl : List (Str × Addr)} {outer : List Env} {A₀ : Around} {base h₀ : Heap} {L : Addr} {m : Str → Option Value} {s : Shared} {Q E : Value → Shared → Prop}
    (B : Below A₀ base outer h₀) (F : Fr h₀ L s.heap m) (X : (hd.heap_39 w.params).In h₀) (N : News h₀ L s.heap news) (T : Top hd.view_39 (looseW hd.view_39 []) (ExcName.means s₀.heap) mg mb h₀) (hk : cs.kind = .function)
    (hp : text.length ≤ 64) (hd' : dp + 1 < recursionLimit) (hu : un + 8 < cLine) (hc : thous text = c)
    (ret : ∀ (t : Tok) (h' : Heap) (tk' : Nat), Fr h₀ L h' m → News h₀ L h' news → Q (.int c t) { s with heap := h', toks := tk' }) :
    wpAny (model Challenge.rw_mg0081_01.row.prog w) (ktrTop dp un gd cn cs L a ccd cl outer) (call (.ref 28) [.str text t]) Q E s := by
  have C := thous_claim w s₀ mg mb text t news
  rw [hc] at C
  exact C dp un gd cn cs a ccd cl outer A₀ base h₀ L m s Q E B F X N T hk hp hd' hu ret
local macro_rules | `(tactic| walk_at "binaryOp Add str str") => `(tactic| (k_here; (with_reducible show wpAny _ _ (binaryOp Operator.Add (Value.str _ _) (Value.str _ _)) _ _ _); (refine' KXadd.add (K := 1000) (L := 1000) ?kxaa ?kxab ?kxac ?_; (case kxaa => omega); (case kxab => omega); (case kxac => decide)); intro _ _ _))
theorem len_int {n : Int} (h0 : 0 ≤ n) (h1 : n < 10 ^ 40) : (Str.ofString (toString n)).length ≤ 40 := toString_length_le h0 (by decide) h1
theorem fdiv_nn {c : Int} (h : 0 ≤ c) : c.fdiv 1000 = c / 1000 := Int.fdiv_eq_ediv_of_nonneg c (by decide)
theorem fmod_nn {c : Int} (h : 0 ≤ c) : c.fmod 1000 = c % 1000 := Int.fmod_eq_emod_of_nonneg c (by decide)
def bodyOf (c : Int) : Str := Str.ofString (toString (c.fdiv 1000)) ++ Str.ofString "." ++ Txt.slice (Str.ofString (toString (1000 + c.fmod 1000))) (some 1) none
theorem len_slice1 {x : Str} {n : Nat} (h : x.length ≤ n) : (Txt.slice x (some 1) none).length ≤ n := Nat.le_trans (Txt.slice_le ..) h
theorem end_false {P : Prop} {x y : Str} (h : x = y) (h' : (x != y) = true) : P := by
  subst h
  simp at h'
theorem end_lt {a b : Int} {Q : Value → Shared → Prop} {s : Shared} (h : a < b) (g : Q (.bool true) s) : Q (.bool (decide (a < b))) s := by
  rw [decide_eq_true h]; exact g
theorem end_even {a b c : Int} {Q : Value → Shared → Prop} {s : Shared} (hr : a < b ∨ (a = b ∧ c.fmod 2 = 0)) (h : ¬ a < b) (g : Q (.bool true) s) : Q (.bool (c.fmod 2 == 0)) s := by
  have e := (hr.resolve_left h).2
  rw [e]; exact g
theorem end_no {a b c : Int} {P : Prop} (hr : a < b ∨ (a = b ∧ c.fmod 2 = 0)) (h : ¬ a < b) (h2 : a ≠ b) : P := absurd (hr.resolve_left h).1 h2
theorem right_use {w : World} {s₀ : Shared} {mg mb : Str → Option Value} {text : Str} {number parts c : Int} {t t1 t2 : Tok} {news : List (Addr × Obj)}
    {dp un : Nat} {gd : Option (List Code)} {cn : Str} {cs : Scope} {a : Addr} {ccd : Value} {cl : List (Str × Addr)} {outer : List Env} {A₀ : Around} {base h₀ : Heap} {L : Addr} {m : Str → Option Value} {s : Shared} {Q E : Value → Shared → Prop}
    (B : Below A₀ base outer h₀) (F : Fr h₀ L s.heap m) (X : (hd.heap_39 w.params).In h₀) (N : News h₀ L s.heap news) (T : Top hd.view_39 (looseW hd.view_39 []) (ExcName.means s₀.heap) mg mb h₀) (hk : cs.kind = .function)
    (hd' : dp + 2 < recursionLimit) (hu : un + 16 < cLine) (hl : text.length ≤ 64) (hc : thous text = c) (hc0 : 0 ≤ c) (hc1 : c < 2 ^ 90) (hn0 : -2 ^ 80 < number) (hn1 : number < 2 ^ 80) (hp0 : 1 ≤ parts) (hp1 : parts ≤ 2 ^ 60)
    (hneg : number < 0 → text = Txt.mul (Str.ofString " ") (8 - ((Str.ofString "-" ++ bodyOf c).length : Int)) ++ (Str.ofString "-" ++ bodyOf c))
    (hpos : ¬ number < 0 → text = Txt.mul (Str.ofString " ") (8 - ((bodyOf c).length : Int)) ++ bodyOf c)
    (hround : 2 * (if 1000 * (if number < 0 then -number else number) - c * parts < 0 then -(1000 * (if number < 0 then -number else number) - c * parts) else 1000 * (if number < 0 then -number else number) - c * parts) < parts ∨ (2 * (if 1000 * (if number < 0 then -number else number) - c * parts < 0 then -(1000 * (if number < 0 then -number else number) - c * parts) else 1000 * (if number < 0 then -number else number) - c * parts) = parts ∧ c.fmod 2 = 0))
    (hret : ∀ (t : Tok) (h' : Heap) (tk' : Nat), Fr h₀ L h' m → News h₀ L h' news → Q (.bool true) { s with heap := h', toks := tk' }) :
    wpAny (model Challenge.rw_mg0081_01.row.prog w) (ktrTop dp un gd cn cs L a ccd cl outer) (call (.ref 35) [.str text t, .int number t1, .int parts t2]) Q E s := by
  revert X
  k_fill
  intro X
  refine wpAny_call ?_
  k_dflt cell_enter
  k_with "call ref" => (k_here; (with_reducible show wpAny _ _ (call (Value.ref 28) _) _ _ _); k_dflt (refine' thous_use ?k1 ?k2 ?k3 ?k4 ?k5 ?k6 ?k7 ?k8 ?k9 ?k10 ?_; (case k1 => k_asm); (case k2 => k_asm); (case k3 => k_asm); (case k4 => k_asm); (case k5 => k_asm); (case k6 => exact rfl); (case k7 => assumption); (case k8 => ktr_room); (case k9 => ktr_units); (case k10 => assumption)); intro t9 h9 tk9 F9 N9; (try dsimp only); (try k_fold))
  have hA : (Str.ofString (toString (c.fdiv 1000))).length ≤ 40 := len_int (by rw [fdiv_nn hc0]; omega) (by rw [fdiv_nn hc0]; omega)
  have hB : (Str.ofString ".").length ≤ 1 := by decide
  have hB2 : (Str.ofString "-").length ≤ 1 := by decide
  have hD : (Str.ofString (toString (1000 + c.fmod 1000))).length ≤ 40 := len_int (by rw [fmod_nn hc0]; omega) (by rw [fmod_nn hc0]; omega)
  have hF : (Txt.slice (Str.ofString (toString (1000 + c.fmod 1000))) (some 1) none).length ≤ 40 := len_slice1 hD
  have hE : (Str.ofString (toString (c.fdiv 1000)) ++ Str.ofString "." ++ Txt.slice (Str.ofString (toString (1000 + c.fmod 1000))) (some 1) none).length ≤ 82 := by
    rw [Str.length_append, Str.length_append]; omega
  unfold bodyOf at hneg hpos
  w_strict (k_steps)
  · exact end_false (hneg (by assumption)) (by assumption)
  · exact end_lt (by assumption) (hret t _ _ (by assumption) (by assumption))
  · exact end_even hround (by assumption) (hret t _ _ (by assumption) (by assumption))
  · exact end_no hround (by assumption) (by assumption)
  · exact end_false (hpos (by assumption)) (by assumption)
  · exact end_lt (by assumption) (hret t _ _ (by assumption) (by assumption))
  · exact end_even hround (by assumption) (hret t _ _ (by assumption) (by assumption))
  · exact end_no hround (by assumption) (by assumption)
end Mine
end

section
open PySem PySem.W PyProof.Rows PySem.Calls
set_option maxRecDepth 100000
set_option maxHeartbeats 8000000
namespace Mine
open Builtin Builtin.Str
def rawOf (x : UInt64) : List Nat := (if (Float64.text x 'f' 3 false false false).1 then [45] else []) ++ (Float64.text x 'f' 3 false false false).2.map Char.toNat
def laidOf (x : UInt64) : List Nat := (percentField { width := some 8, prec := some 3, type := 102 } true (rawOf x)).getD (rawOf x)
def f8s (x : UInt64) : PySem.Str := ⟨(laidOf x).toArray⟩
theorem meets_f (x : UInt64) (t u : Tok) (hl : (f8s x).length ≤ 64) :
    Meets («str.__mod__» ⟨[.str (PySem.Str.ofString "%8.3f") t, .float x u], []⟩) (fun _ R s => ∀ t' k, R (.ok (.ret (.str (f8s x) t'))) { s with toks := k }) := by
  apply KPc.meets_of
  intro prog w A s Q E hQ
  rw [KPt.entry_is_f]
  have e : PySem.Str.ofString "%8.3f" = PySem.Str.mk #[37, 56, 46, 51, 102] := by decide +kernel
  rw [e]
  unfold Builtin.Str.percentFormat
  refine wpAny_bind (wpAny_isInstance (AutoFloatOps.typeIs_float _ _ _) F.sub_float_tuple ?_)
  refine wpAny_bind (wpAny_of_eq (a := none) rfl ?_)
  refine wpAny_bind (wpAny_of_eq (KPt.fills_float _ _) ?_)
  kpc_if
  refine wpAny_bind (wpAny_pure ?_)
  refine wpAny_bind ?_
  rw [KPc.range_list]
  refine KPc.start ?_
  intro w0 g0
  refine KPc.turn ?_
  kpc_check
  repeat kpc_if
  refine wpAny_bind ?_; refine wpAny_holding ?_; (repeat kpc_if)
  refine wpAny_bind (wpAny_of_eq (a := x) (by kernel_rfl) ?_)
  refine wpAny_ite (KPc.ite_no (by decide) ?_)
  refine wpAny_of_eq (a := (rawOf x, none, true)) (by kernel_rfl) ?_
  have key : ∀ (y : PySem.Str) (o : Option Value), y = f8s x → o = none → KPc.Obj o y := fun _ _ _ h => KPc.obj_none h
  (try dsimp only)
  split
  · rename_i hp
    have e1 : (⟨(rawOf x).toArray⟩ : PySem.Str) = f8s x := by
      have e2 : percentField { width := some 8, prec := some 3, type := 102 } true (rawOf x) = none := hp
      unfold f8s laidOf
      rw [e2]
      rfl
    refine wpAny_pure ?_
    rw [← e1] at hl hQ
    refine KPc.after_str0 (y := (⟨(rawOf x).toArray⟩ : PySem.Str)) g0 hl (KPc.obj_none (by first | rfl | exact ite_self _)) ?_
    intro w1 g1
    refine KPc.turn ?_
    kpc_check
    (repeat kpc_if)
    refine wpAny_pure ?_; kpc_if; refine KPc.finish_ok g1 (by decide +kernel) rfl hQ
  · rename_i l hp
    have e1 : (⟨l.toArray⟩ : PySem.Str) = f8s x := by
      have e2 : percentField { width := some 8, prec := some 3, type := 102 } true (rawOf x) = some l := hp
      unfold f8s laidOf
      rw [e2]
      rfl
    refine wpAny_pure ?_
    rw [← e1] at hl hQ
    refine KPc.after_str0 (y := (⟨l.toArray⟩ : PySem.Str)) g0 hl (KPc.obj_none (by first | rfl | exact ite_self _)) ?_
    intro w1 g1
    refine KPc.turn ?_
    kpc_check
    (repeat kpc_if)
    refine wpAny_pure ?_; kpc_if; refine KPc.finish_ok g1 (by decide +kernel) rfl hQ
theorem wp_pfi {prog : Program} {w : World} {A : Around} {E : Value → Shared → Prop} {s : Shared} {n : Int} {x : UInt64} {u : Tok} {Q : UInt64 → Shared → Prop} (hfit : ¬ Float64.isInf x = true) (hx : Float64.ofInt n = x)
    (h : ∀ k, Q x { s with toks := k }) : wpAny (model prog w) A (percentFloatOf (.int n u)) Q E s := by
  subst hx
  unfold percentFloatOf
  refine wpAny_bind (wpAny_of_eq (a := none) rfl ?_)
  refine wpAny_bind ?_
  dsimp only
  have hT := typeIs_int s n u
  have hS := F.slot_int_float
  generalize hnm : ("__float__" : PySem.Str) = nm at hS ⊢
  refine wpAny_callSpecial?_slot hT hS ?_
  subst hnm
  refine call_gives F.slot_int_float (typeIs_int _ _ _) F.entry_int_float (F.args_int_float_1 _) (AutoIntG0.int___float___int_1 n u hfit) ?_
  dsimp only [Made.post]
  refine wpAny_bind (wpAny_of_eq (a := some (Float64.ofInt n)) rfl ?_)
  exact wpAny_pure (h _)
theorem meets_i (n : Int) (x : UInt64) (t u : Tok) (hx : Float64.ofInt n = x) (hfit : ¬ Float64.isInf x = true) (hl : (f8s x).length ≤ 64) :
    Meets («str.__mod__» ⟨[.str (PySem.Str.ofString "%8.3f") t, .int n u], []⟩) (fun _ R s => ∀ t' k, R (.ok (.ret (.str (f8s x) t'))) { s with toks := k }) := by
  apply KPc.meets_of
  intro prog w A s Q E hQ
  rw [KPc.entry_is]
  have e : PySem.Str.ofString "%8.3f" = PySem.Str.mk #[37, 56, 46, 51, 102] := by decide +kernel
  rw [e]
  unfold Builtin.Str.percentFormat
  refine wpAny_bind (wpAny_isInstance (typeIs_int _ _ _) F.sub_int_tuple ?_)
  refine wpAny_bind (wpAny_of_eq (a := none) rfl ?_)
  refine wpAny_bind (wpAny_of_eq (KPc.fills _ _) ?_)
  kpc_if
  refine wpAny_bind (wpAny_pure ?_)
  refine wpAny_bind ?_
  rw [KPc.range_list]
  refine KPc.start ?_
  intro w0 g0
  refine KPc.turn ?_
  kpc_check
  repeat kpc_if
  refine wpAny_bind ?_; refine wpAny_holding ?_; (repeat kpc_if)
  refine wpAny_bind (wp_pfi hfit hx ?_)
  intro k0
  clear hx hfit
  refine wpAny_ite (KPc.ite_no (by decide) ?_)
  refine wpAny_of_eq (a := (rawOf x, none, true)) (by kernel_rfl) ?_
  have key : ∀ (y : PySem.Str) (o : Option Value), y = f8s x → o = none → KPc.Obj o y := fun _ _ _ h => KPc.obj_none h
  (try dsimp only)
  split
  · rename_i hp
    have e1 : (⟨(rawOf x).toArray⟩ : PySem.Str) = f8s x := by
      have e2 : percentField { width := some 8, prec := some 3, type := 102 } true (rawOf x) = none := hp
      unfold f8s laidOf
      rw [e2]
      rfl
    refine wpAny_pure ?_
    rw [← e1] at hl hQ
    refine KPc.after_str0 (y := (⟨(rawOf x).toArray⟩ : PySem.Str)) g0 hl (KPc.obj_none (by first | rfl | exact ite_self _)) ?_
    intro w1 g1
    refine KPc.turn ?_
    kpc_check
    (repeat kpc_if)
    refine wpAny_pure ?_; kpc_if; refine KPc.finish_ok g1 (by decide +kernel) rfl hQ
  · rename_i l hp
    have e1 : (⟨l.toArray⟩ : PySem.Str) = f8s x := by
      have e2 : percentField { width := some 8, prec := some 3, type := 102 } true (rawOf x) = some l := hp
      unfold f8s laidOf
      rw [e2]
      rfl
    refine wpAny_pure ?_
    rw [← e1] at hl hQ
    refine KPc.after_str0 (y := (⟨l.toArray⟩ : PySem.Str)) g0 hl (KPc.obj_none (by first | rfl | exact ite_self _)) ?_
    intro w1 g1
    refine KPc.turn ?_
    kpc_check
    (repeat kpc_if)
    refine wpAny_pure ?_; kpc_if; refine KPc.finish_ok g1 (by decide +kernel) rfl hQ
end Mine
end

section
open PySem PySem.W PyProof.Rows PySem.Calls
set_option maxRecDepth 100000
set_option exponentiation.threshold 3000
set_option maxHeartbeats 8000000
namespace Mine
open Float64
theorem no_over {N i k : Nat} (hN : N < 2 ^ 53) (hi : i ≤ 20) : ¬ 2 ^ k * ((2 ^ 54 - 1) * 2 ^ 2045) ≤ 2 * (N * 2 ^ i * 2 ^ 1074) := by
  intro h
  have h1 : 2 * (N * 2 ^ i * 2 ^ 1074) ≤ 2 * (2 ^ 53 * 2 ^ 20 * 2 ^ 1074) :=
    Nat.mul_le_mul_left 2 (Nat.mul_le_mul_right _ (Nat.mul_le_mul (Nat.le_of_lt hN) (Nat.pow_le_pow_right (by decide) hi)))
  have h2 : 1 * ((2 ^ 54 - 1) * 2 ^ 2045) ≤ 2 ^ k * ((2 ^ 54 - 1) * 2 ^ 2045) := Nat.mul_le_mul_right _ (Nat.two_pow_pos k)
  have h3 : 2 * (2 ^ 53 * 2 ^ 20 * 2 ^ 1074) < 1 * ((2 ^ 54 - 1) * 2 ^ 2045) := by decide +kernel
  exact absurd (Nat.lt_of_lt_of_le h3 (Nat.le_trans h2 (Nat.le_trans h h1))) (Nat.lt_irrefl _)
theorem has_V {N i k : Nat} (hN : N < 2 ^ 53) (hk : k ≤ 60) : ∃ t, 2 ^ k * V t = N * 2 ^ i * 2 ^ 1074 := by
  by_cases h0 : N = 0
  · refine ⟨0, ?_⟩
    rw [V_zero, h0, Nat.zero_mul, Nat.zero_mul, Nat.mul_zero]
  · have hl : N.log2 < 53 := (Nat.log2_lt h0).mpr hN
    have hlo : 2 ^ N.log2 ≤ N := Nat.log2_self_le h0
    have hhi : N < 2 ^ (N.log2 + 1) := Nat.lt_log2_self
    generalize N.log2 = l at *
    have e52 : 2 ^ l * 2 ^ (52 - l) = 2 ^ 52 := by rw [← Nat.pow_add]; congr 1; omega
    have e53 : 2 ^ (l + 1) * 2 ^ (52 - l) = 2 ^ 53 := by rw [← Nat.pow_add]; congr 1; omega
    have q0 : 2 ^ 52 ≤ N * 2 ^ (52 - l) := by rw [← e52]; exact Nat.mul_le_mul_right _ hlo
    have q1 : N * 2 ^ (52 - l) ≤ 2 ^ 53 := by rw [← e53]; exact Nat.mul_le_mul_right _ (Nat.le_of_lt hhi)
    refine ⟨(1074 + i - k - (52 - l)) * 2 ^ 52 + N * 2 ^ (52 - l), ?_⟩
    rw [V_at q1 (.inl q0)]
    have e1 : 2 ^ k * (N * 2 ^ (52 - l) * 2 ^ (1074 + i - k - (52 - l))) = N * (2 ^ k * 2 ^ (52 - l) * 2 ^ (1074 + i - k - (52 - l))) := by ac_rfl
    have e2 : N * 2 ^ i * 2 ^ 1074 = N * (2 ^ i * 2 ^ 1074) := Nat.mul_assoc ..
    rw [e1, e2]
    congr 1
    rw [← Nat.pow_add, ← Nat.pow_add, ← Nat.pow_add]
    congr 1
    omega
theorem exact_frac (neg : Bool) {N i k : Nat} (hN : N < 2 ^ 53) (hi : i ≤ 20) (hk : k ≤ 60) :
    ∃ m e, decode (ofFrac neg (N * 2 ^ i) (2 ^ k)) = .fin neg m e ∧ -1074 ≤ e ∧ m * 2 ^ (e + 1074).toNat * 2 ^ k = N * 2 ^ i * 2 ^ 1074 := by
  have hd : 0 < 2 ^ k := Nat.two_pow_pos k
  have hne : roundMag (N * 2 ^ i) (2 ^ k) ≠ infMag := fun h => no_over hN hi ((roundMag_over hd).mp h)
  have hlt : roundMag (N * 2 ^ i) (2 ^ k) < infMag := by
    have := roundMag_min (N * 2 ^ i) (2 ^ k)
    omega
  obtain ⟨t, ht⟩ := has_V (i := i) hN hk
  have hr := (roundMag_right hd hlt t).1
  rw [ht] at hr
  have hz : 2 ^ k * V (roundMag (N * 2 ^ i) (2 ^ k)) = N * 2 ^ i * 2 ^ 1074 := by
    generalize 2 ^ k * V (roundMag (N * 2 ^ i) (2 ^ k)) = a at *
    generalize N * 2 ^ i * 2 ^ 1074 = b at *
    unfold dist at hr
    omega
  obtain ⟨m, e, h1, h2⟩ := decode_pack neg hlt
  refine ⟨m, e, (by unfold ofFrac; exact h1), decode_ge h1, ?_⟩
  rw [h2, Nat.mul_comm]
  exact hz
theorem halfEven_scale (n d : Nat) {k : Nat} (hk : 0 < k) : halfEven (n * k) (d * k) = halfEven n d := by
  have e1 : n * k / (d * k) = n / d := Nat.mul_div_mul_right n d hk
  have e2 : n * k % (d * k) = n % d * k := Nat.mul_mod_mul_right k n d
  have c1 : decide (2 * (n % d * k) > d * k) = decide (2 * (n % d) > d) := by
    rw [← Nat.mul_assoc]
    exact decide_eq_decide.mpr ⟨fun h => Nat.lt_of_mul_lt_mul_right h, fun h => Nat.mul_lt_mul_of_pos_right h hk⟩
  have c2 : (2 * (n % d * k) == d * k) = (2 * (n % d) == d) := by
    rw [← Nat.mul_assoc, Bool.eq_iff_iff, beq_iff_eq, beq_iff_eq]
    exact ⟨fun h => Nat.eq_of_mul_eq_mul_right hk h, fun h => by rw [h]⟩
  unfold halfEven
  simp only [e1, e2, c1, c2]
theorem halfEven_ratio {a b n d : Nat} (hb : 0 < b) (hd : 0 < d) (h : a * d = n * b) : halfEven (a * 1000) b = halfEven (n * 1000) d := by
  rw [← halfEven_scale (a * 1000) b hd, ← halfEven_scale (n * 1000) d hb, Nat.mul_comm b d]
  congr 1
  calc a * 1000 * d = a * d * 1000 := by ac_rfl
    _ = n * b * 1000 := by rw [h]
    _ = n * 1000 * b := by ac_rfl
theorem shift_frac {m : Nat} {e : Int} {n d : Nat} (he : -1074 ≤ e) (hn : m * 2 ^ (e + 1074).toNat * d = n * 2 ^ 1074) : (shift m 1 e).1 * d = n * (shift m 1 e).2 := by
  have h := shift_one m e 1074 he
  have hp : 0 < 2 ^ 1074 := Nat.two_pow_pos _
  generalize (2 : Nat) ^ 1074 = K at *
  refine Nat.eq_of_mul_eq_mul_right hp ?_
  have h2 : (shift m 1 e).1 * K = m * 2 ^ (e + 1074).toNat * (shift m 1 e).2 := h
  calc (shift m 1 e).1 * d * K = (shift m 1 e).1 * K * d := by ac_rfl
    _ = m * 2 ^ (e + 1074).toNat * (shift m 1 e).2 * d := by rw [h2]
    _ = m * 2 ^ (e + 1074).toNat * d * (shift m 1 e).2 := by ac_rfl
    _ = n * K * (shift m 1 e).2 := by rw [hn]
    _ = n * (shift m 1 e).2 * K := by ac_rfl
theorem text_f {x : UInt64} {neg : Bool} {m : Nat} {e : Int} {n d : Nat} (h : decode x = .fin neg m e) (he : -1074 ≤ e) (hd : 0 < d) (hn : m * 2 ^ (e + 1074).toNat * d = n * 2 ^ 1074) :
    Float64.text x 'f' 3 false false false = (neg, pointed (Digits.of (halfEven (n * 1000) d) (-3)) 3) := by
  have hr := halfEven_ratio (shift_pos m 1 e (by decide)) hd (shift_frac he hn)
  unfold Float64.text
  rw [h]
  by_cases h0 : m = 0
  · subst h0
    have hn0 : n = 0 := by
      have : n * 2 ^ 1074 = 0 := by rw [← hn]; simp
      rcases Nat.mul_eq_zero.mp this with h | h
      · exact h
      · exact absurd h (Nat.ne_of_gt (Nat.two_pow_pos _))
    subst hn0
    have hz : halfEven (0 * 1000) d = 0 := by
      unfold halfEven
      simp
    rw [hz]
    have e2 : pointed (Digits.of 0 (-3)) 3 = pointed ⟨[], 1⟩ 3 := by decide +kernel
    rw [e2]
    simp
  · have hm : (m == 0) = false := by simpa using h0
    have hf : ∀ a b : Nat, fixed a b 3 = Digits.of (halfEven (a * 1000) b) (-3) := by
      intro a b
      rfl
    simp [hm, hf, hr]
theorem zeros_back (l : List Char) : ∃ k, l = (l.reverse.dropWhile (· == '0')).reverse ++ zeros k := by
  refine ⟨(l.reverse.takeWhile (· == '0')).length, ?_⟩
  have h1 : l.reverse.takeWhile (· == '0') = List.replicate (l.reverse.takeWhile (· == '0')).length '0' := by
    refine List.eq_replicate_iff.mpr ⟨rfl, fun b hb => ?_⟩
    have := List.all_eq_true.mp (List.all_takeWhile (p := (· == '0')) (l := l.reverse)) b hb
    simpa using this
  have h2 : l.reverse = l.reverse.takeWhile (· == '0') ++ l.reverse.dropWhile (· == '0') := (List.takeWhile_append_dropWhile ..).symm
  have h3 : l = (l.reverse.takeWhile (· == '0') ++ l.reverse.dropWhile (· == '0')).reverse := by rw [← h2, List.reverse_reverse]
  rw [List.reverse_append] at h3
  unfold zeros
  rw [h1, List.reverse_replicate] at h3
  exact h3
theorem pad_take (l : List Char) (k j : Nat) (h : j ≤ l.length + k) : padRight (l.take j) j = (l ++ zeros k).take j := by
  unfold padRight zeros
  rw [List.take_append, List.take_replicate, List.length_take]
  congr 2
  omega
theorem pad_drop (l : List Char) (k j f : Nat) (h : j ≤ l.length + k) (hf : f = l.length + k - j) : padRight (l.drop j) f = (l ++ zeros k).drop j := by
  subst hf
  unfold padRight zeros
  rw [List.drop_append, List.drop_replicate, List.length_drop]
  congr 2
  omega
def tailOf (C : Nat) : List Char := [Nat.digitChar (C / 100 % 10), Nat.digitChar (C / 10 % 10), Nat.digitChar (C % 10)]
theorem digits_small {C : Nat} (h : C < 1000) : (Nat.toDigits 10 C).length ≤ 3 ∧ zeros (3 - (Nat.toDigits 10 C).length) ++ Nat.toDigits 10 C = tailOf C := by
  by_cases h1 : C < 10
  · rw [Nat.toDigits_of_lt_base h1]
    have e1 : C / 100 % 10 = 0 := by omega
    have e2 : C / 10 % 10 = 0 := by omega
    have e3 : C % 10 = C := by omega
    unfold tailOf
    rw [e1, e2, e3]
    exact ⟨by simp, rfl⟩
  · by_cases h2 : C < 100
    · rw [Nat.toDigits_of_base_le (by decide) (by omega), Nat.toDigits_of_lt_base (show C / 10 < 10 by omega)]
      have e1 : C / 100 % 10 = 0 := by omega
      have e2 : C / 10 % 10 = C / 10 := by omega
      unfold tailOf
      rw [e1, e2]
      exact ⟨by simp, rfl⟩
    · rw [Nat.toDigits_of_base_le (by decide) (by omega), Nat.toDigits_of_base_le (by decide) (show 10 ≤ C / 10 by omega), Nat.toDigits_of_lt_base (show C / 10 / 10 < 10 by omega)]
      have e1 : C / 100 % 10 = C / 10 / 10 := by omega
      unfold tailOf
      rw [e1]
      exact ⟨by simp, rfl⟩
theorem pointed_small (C : Nat) (h : C < 1000) : pointed (Digits.of C (-3)) 3 = Nat.toDigits 10 (C / 1000) ++ '.' :: tailOf C := by
  obtain ⟨hL, ht⟩ := digits_small h
  have h0 : C / 1000 = 0 := by omega
  have hz : Nat.toDigits 10 0 = ['0'] := by decide
  obtain ⟨k, hk⟩ := zeros_back (Nat.toDigits 10 C)
  unfold Digits.of
  rw [Nat.toList_repr, h0, hz]
  simp only
  generalize hD : ((Nat.toDigits 10 C).reverse.dropWhile (· == '0')).reverse = D at *
  generalize hT : Nat.toDigits 10 C = T at *
  have hl : T.length = D.length + k := by rw [hk]; simp [zeros]
  unfold pointed
  simp only
  have n1 : (-3 : Int) + (T.length : Int) ≤ 0 := by omega
  have n2 : ((-3 : Int) + (T.length : Int)).toNat = 0 := by omega
  have n3 : (-((-3 : Int) + (T.length : Int))).toNat = 3 - T.length := by omega
  rw [if_pos n1, n2, n3, List.drop_zero]
  have n4 : 3 - (zeros (3 - T.length) ++ D).length = k := by
    have e5 : (zeros (3 - T.length) ++ D).length = 3 - T.length + D.length := by simp [zeros]
    rw [e5]; omega
  have e6 : padRight (zeros (3 - T.length) ++ D) 3 = tailOf C := by
    unfold padRight
    rw [n4, List.append_assoc, ← hk]
    exact ht
  rw [e6]
  rfl
theorem digits_big {C : Nat} (h : 1000 ≤ C) : Nat.toDigits 10 C = Nat.toDigits 10 (C / 1000) ++ tailOf C := by
  rw [Nat.toDigits_of_base_le (by decide) (by omega), Nat.toDigits_of_base_le (by decide) (show 10 ≤ C / 10 by omega), Nat.toDigits_of_base_le (by decide) (show 10 ≤ C / 10 / 10 by omega)]
  have e1 : C / 10 / 10 / 10 = C / 1000 := by omega
  have e2 : C / 10 / 10 % 10 = C / 100 % 10 := by omega
  rw [e1, e2]
  simp [tailOf]
theorem pointed_is (C : Nat) : pointed (Digits.of C (-3)) 3 = Nat.toDigits 10 (C / 1000) ++ '.' :: tailOf C := by
  by_cases h : C < 1000
  · exact pointed_small C h
  · have hb := digits_big (Nat.le_of_not_lt h)
    have hA : 0 < (Nat.toDigits 10 (C / 1000)).length := Nat.length_toDigits_pos
    generalize hAe : Nat.toDigits 10 (C / 1000) = A at *
    obtain ⟨k, hk⟩ := zeros_back (Nat.toDigits 10 C)
    have hlen : (Nat.toDigits 10 C).length = A.length + 3 := by rw [hb]; simp [tailOf]
    unfold Digits.of
    rw [Nat.toList_repr]
    simp only
    generalize hD : ((Nat.toDigits 10 C).reverse.dropWhile (· == '0')).reverse = D at *
    have hl2 : D.length + k = A.length + 3 := by
      rw [← hlen, hk]; simp [zeros]
    have hpt : (-3 : Int) + ((Nat.toDigits 10 C).length : Int) = (A.length : Int) := by rw [hlen]; omega
    rw [hpt]
    unfold pointed
    simp only
    have n1 : ¬ ((A.length : Int) ≤ 0) := by omega
    have n2 : (-(A.length : Int)).toNat = 0 := by omega
    rw [if_neg n1, n2, Int.toNat_natCast]
    have e0 : D ++ zeros k = A ++ tailOf C := by rw [← hk, hb]
    rw [pad_take D k A.length (by omega), e0]
    have e3 : zeros 0 ++ D.drop A.length = D.drop A.length := by simp [zeros]
    rw [e3, pad_drop D k A.length 3 (by omega) (by omega), e0]
    simp
end Mine
end

section
open PySem PySem.W PyProof.Rows PySem.Calls
set_option maxRecDepth 100000
set_option maxHeartbeats 8000000
set_option exponentiation.threshold 3000
namespace Mine
open Builtin Builtin.Str
theorem str_ext {x y : PySem.Str} (h : x.cps.toList = y.cps.toList) : x = y := by
  have e : x.cps = y.cps := by
    rw [← Array.toArray_toList (xs := x.cps), ← Array.toArray_toList (xs := y.cps), h]
  cases x; cases y
  exact congrArg PySem.Str.mk e
def tl3 (C : Nat) : List Nat := [48 + C / 100 % 10, 48 + C / 10 % 10, 48 + C % 10]
theorem dig_code : ∀ d, d < 10 → (Nat.digitChar d).toNat = 48 + d := by decide
theorem tail_codes (C : Nat) : (tailOf C).map Char.toNat = tl3 C := by
  unfold tailOf tl3
  simp only [List.map_cons, List.map_nil]
  rw [dig_code _ (Nat.mod_lt _ (by decide)), dig_code _ (Nat.mod_lt _ (by decide)), dig_code _ (Nat.mod_lt _ (by decide))]
theorem slice_small (r : Nat) (h : r < 1000) : (Txt.slice (PySem.Str.ofString (toString (1000 + (r : Int)))) (some 1) none).cps.toList = tl3 r := by
  have e1 : (1000 + (r : Int)) = Int.ofNat (1000 + r) := by rw [Int.ofNat_eq_natCast]; omega
  have hz : Nat.toDigits 10 1 = ['1'] := by decide
  have e2 : (1000 + r) / 1000 = 1 := by omega
  have e3 : tailOf (1000 + r) = tailOf r := by
    unfold tailOf
    have a1 : (1000 + r) / 100 % 10 = r / 100 % 10 := by omega
    have a2 : (1000 + r) / 10 % 10 = r / 10 % 10 := by omega
    have a3 : (1000 + r) % 10 = r % 10 := by omega
    rw [a1, a2, a3]
  rw [e1, text_ofNat, digits_big (C := 1000 + r) (by omega), e2, e3, hz, List.map_append, tail_codes]
  rw [slice_from_eq (b := 4) (by decide) (by simp [PySem.Str.length, tl3]) (by simp [PySem.Str.length, tl3])]
  rfl
def dg (C : Nat) : List Nat := (Nat.toDigits 10 (C / 1000)).map Char.toNat ++ 46 :: tl3 C
theorem body_list (C : Nat) : (bodyOf (C : Int)).cps.toList = dg C := by
  unfold bodyOf dg
  have e1 : (C : Int).fdiv 1000 = ((C / 1000 : Nat) : Int) := by rw [fdiv_nn (by omega)]; omega
  have e2 : (C : Int).fmod 1000 = ((C % 1000 : Nat) : Int) := by rw [fmod_nn (by omega)]; omega
  have e3 : tl3 (C % 1000) = tl3 C := by
    unfold tl3
    have a1 : C % 1000 / 100 % 10 = C / 100 % 10 := by omega
    have a2 : C % 1000 / 10 % 10 = C / 10 % 10 := by omega
    have a3 : C % 1000 % 10 = C % 10 := by omega
    rw [a1, a2, a3]
  have e4 : (PySem.Str.ofString ".").cps.toList = [46] := by decide +kernel
  have e5 : (PySem.Str.ofString (toString (((C / 1000 : Nat) : Int)))).cps.toList = (Nat.toDigits 10 (C / 1000)).map Char.toNat := by
    have := text_ofNat (C / 1000)
    have e : PySem.Str.ofString (toString (((C / 1000 : Nat) : Int))) = ⟨((Nat.toDigits 10 (C / 1000)).map Char.toNat).toArray⟩ := this
    rw [e]
  rw [PySem.Str.cps_append, PySem.Str.cps_append, Array.toList_append, Array.toList_append, e1, e2, e4, e5, slice_small _ (Nat.mod_lt _ (by decide)), e3]
  simp
theorem dg_head (C : Nat) : ∃ b r, dg C = b :: r ∧ 48 ≤ b ∧ b ≤ 57 := by
  unfold dg
  rcases h : Nat.toDigits 10 (C / 1000) with _ | ⟨c, l⟩
  · exact absurd h Nat.toDigits_ne_nil
  · have hc : c.isDigit = true := Nat.isDigit_of_mem_toDigits (b := 10) (n := C / 1000) (by decide) (by decide) (by rw [h]; exact List.mem_cons_self)
    refine ⟨c.toNat, _, rfl, ?_⟩
    unfold Char.isDigit at hc
    simp only [Bool.and_eq_true, decide_eq_true_eq] at hc
    obtain ⟨h1, h2⟩ := hc
    exact ⟨h1, h2⟩
theorem dg_len (C : Nat) : 5 ≤ (dg C).length := by
  unfold dg tl3
  have := @Nat.length_toDigits_pos 10 (C / 1000)
  simp
  omega
theorem field_neg (l : List Nat) (hl : 5 ≤ l.length) : percentField { width := some 8, prec := some 3, type := 102 } true (45 :: l) = some (List.replicate (8 - (1 + l.length)) 32 ++ ([45] ++ l)) := by
  unfold percentField
  have hc : (decide ((3 : Nat) ≥ (45 :: l).length)) = false := by simp; omega
  simp only [Option.all_some, hc]
  simp
theorem field_pos (l : List Nat) (hl : 5 ≤ l.length) (hh : ∃ b r, l = b :: r ∧ 48 ≤ b ∧ b ≤ 57) : percentField { width := some 8, prec := some 3, type := 102 } true l = some (List.replicate (8 - l.length) 32 ++ l) := by
  obtain ⟨b, r, rfl, h1, h2⟩ := hh
  unfold percentField
  have hc : (decide ((3 : Nat) ≥ (b :: r).length)) = false := by
    rw [decide_eq_false_iff_not]; omega
  have n1 : b ≠ 45 := by omega
  have n2 : b ≠ 43 := by omega
  simp only [Option.all_some, hc]
  simp
  split
  · rename_i heq; simp at heq; omega
  · rename_i heq; simp at heq; omega
  · simp
theorem raw_is {x : UInt64} {neg : Bool} {C : Nat} (h : Float64.text x 'f' 3 false false false = (neg, Float64.pointed (Float64.Digits.of C (-3)) 3)) : rawOf x = (if neg then [45] else []) ++ dg C := by
  unfold rawOf
  rw [h, pointed_is]
  unfold dg
  rw [← tail_codes]
  simp
theorem blank_is : PySem.Str.ofString " " = ⟨#[32]⟩ := by decide +kernel
theorem f8_neg {x : UInt64} {C : Nat} (h : Float64.text x 'f' 3 false false false = (true, Float64.pointed (Float64.Digits.of C (-3)) 3)) :
    (f8s x).cps.toList = List.replicate (8 - (1 + (dg C).length)) 32 ++ ([45] ++ dg C) := by
  have hr := raw_is h
  have hr2 : rawOf x = 45 :: dg C := hr
  unfold f8s laidOf
  rw [hr2, field_neg _ (dg_len C)]
  rfl
theorem f8_pos {x : UInt64} {C : Nat} (h : Float64.text x 'f' 3 false false false = (false, Float64.pointed (Float64.Digits.of C (-3)) 3)) :
    (f8s x).cps.toList = List.replicate (8 - (dg C).length) 32 ++ dg C := by
  have hr := raw_is h
  have hr2 : rawOf x = dg C := hr
  unfold f8s laidOf
  rw [hr2, field_pos _ (dg_len C) (dg_head C)]
  rfl
theorem body_len (C : Nat) : (bodyOf (C : Int)).length = (dg C).length := by
  rw [← body_list]; rfl
theorem want_neg (C : Nat) : (Txt.mul (PySem.Str.ofString " ") (8 - ((PySem.Str.ofString "-" ++ bodyOf C).length : Int)) ++ (PySem.Str.ofString "-" ++ bodyOf C)).cps.toList = List.replicate (8 - (1 + (dg C).length)) 32 ++ ([45] ++ dg C) := by
  have e1 : (PySem.Str.ofString "-").length = 1 := by decide +kernel
  have e2 : (PySem.Str.ofString "-").cps.toList = [45] := by decide +kernel
  rw [PySem.Str.cps_append, Array.toList_append, PySem.Str.cps_append, Array.toList_append, blank_is, mul_one_list, PySem.Str.length_append, e1, e2, body_list, body_len]
  congr 2
  omega
theorem want_pos (C : Nat) : (Txt.mul (PySem.Str.ofString " ") (8 - ((bodyOf C).length : Int)) ++ bodyOf C).cps.toList = List.replicate (8 - (dg C).length) 32 ++ dg C := by
  rw [PySem.Str.cps_append, Array.toList_append, blank_is, mul_one_list, body_list, body_len]
  congr 2
  omega
def thN (l : List Nat) (a : Int) : Int := (l.map fun (c : Nat) => (c : Int)).foldl thStep a
theorem thN_app (l r : List Nat) (a : Int) : thN (l ++ r) a = thN r (thN l a) := by
  unfold thN
  rw [List.map_append, List.foldl_append]
theorem thN_blank : ∀ (k : Nat) (a : Int), thN (List.replicate k 32) a = a
  | 0, a => rfl
  | k + 1, a => by
    have e : List.replicate (k + 1) 32 = [32] ++ List.replicate k 32 := rfl
    rw [e, thN_app, thN_blank k]
    rfl
theorem thN_dig (d : Nat) (h : d < 10) (a : Int) : thN [48 + d] a = a * 10 + d := by
  unfold thN
  simp only [List.map_cons, List.map_nil, List.foldl_cons, List.foldl_nil]
  unfold thStep
  rw [if_pos (by omega)]
  omega
theorem thN_digits (n : Nat) : thN ((Nat.toDigits 10 n).map Char.toNat) 0 = n := by
  induction n using Nat.strongRecOn with
  | _ n ih =>
    by_cases h : n < 10
    · rw [Nat.toDigits_of_lt_base h]
      simp only [List.map_cons, List.map_nil]
      rw [dig_code n h, thN_dig n h]
      omega
    · rw [Nat.toDigits_of_base_le (by decide) (by omega), List.map_append, thN_app, ih (n / 10) (by omega)]
      simp only [List.map_cons, List.map_nil]
      rw [dig_code _ (Nat.mod_lt _ (by decide)), thN_dig _ (Nat.mod_lt _ (by decide))]
      omega
theorem thN_dg (C : Nat) : thN (dg C) 0 = C := by
  unfold dg tl3
  rw [thN_app, thN_digits]
  have e : (46 :: [48 + C / 100 % 10, 48 + C / 10 % 10, 48 + C % 10]) = [46] ++ ([48 + C / 100 % 10] ++ ([48 + C / 10 % 10] ++ [48 + C % 10])) := rfl
  rw [e, thN_app, thN_app, thN_app, thN_dig _ (Nat.mod_lt _ (by decide)), thN_dig _ (Nat.mod_lt _ (by decide)), thN_dig _ (Nat.mod_lt _ (by decide))]
  have e2 : ∀ a : Int, thN [46] a = a := fun a => rfl
  rw [e2]
  omega
theorem thous_list (x : PySem.Str) : thous x = thN x.cps.toList 0 := rfl
theorem thous_neg {x : PySem.Str} {C k : Nat} (h : x.cps.toList = List.replicate k 32 ++ ([45] ++ dg C)) : thous x = C := by
  rw [thous_list, h, thN_app, thN_blank, thN_app]
  exact thN_dg C
theorem thous_pos {x : PySem.Str} {C k : Nat} (h : x.cps.toList = List.replicate k 32 ++ dg C) : thous x = C := by
  rw [thous_list, h, thN_app, thN_blank]
  exact thN_dg C
theorem dg_short {C : Nat} (h : C < 2 ^ 90) : (dg C).length ≤ 44 := by
  unfold dg tl3
  have := toDigits_len_pow (b := 10) (k := 40) (n := C / 1000) (by decide) (by decide) (by omega)
  simp
  omega
theorem round_nat (n d : Nat) (hd : 0 < d) : ∀ c, c = Float64.halfEven n d → (c * d ≤ n ∧ (2 * (n - c * d) < d ∨ (2 * (n - c * d) = d ∧ c % 2 = 0))) ∨ (n ≤ c * d ∧ (2 * (c * d - n) < d ∨ (2 * (c * d - n) = d ∧ c % 2 = 0))) := by
  intro c hc
  have hn := Nat.div_add_mod n d
  have hr := Nat.mod_lt n hd
  unfold Float64.halfEven at hc
  simp only at hc
  generalize n / d = q at *
  generalize n % d = r at *
  rw [Nat.mul_comm d q] at hn
  split at hc
  · rename_i h
    simp only [Bool.or_eq_true, decide_eq_true_eq, Bool.and_eq_true, beq_iff_eq] at h
    subst hc
    right
    rw [Nat.add_mul, Nat.one_mul]
    generalize q * d = qd at *
    omega
  · rename_i h
    simp only [Bool.or_eq_true, decide_eq_true_eq, Bool.and_eq_true, beq_iff_eq, not_or, not_and] at h
    subst hc
    left
    generalize c * d = qd at *
    omega
end Mine
end

section
open PySem PySem.W PyProof.Rows PySem.Calls
set_option maxRecDepth 100000
set_option maxHeartbeats 8000000
set_option exponentiation.threshold 3000
namespace Mine
structure Fit (number parts : Int) : Prop where
  has : ∃ N i k : Nat, N < 2 ^ 53 ∧ i ≤ 20 ∧ k ≤ 60 ∧ number.natAbs = N * 2 ^ i ∧ parts = ((2 ^ k : Nat) : Int)
def quo (number parts : Int) : UInt64 := Float64.ofFrac (decide (number < 0)) number.natAbs parts.natAbs
def cnt (number parts : Int) : Nat := Float64.halfEven (number.natAbs * 1000) parts.natAbs
theorem Fit.text {number parts : Int} (f : Fit number parts) : Float64.text (quo number parts) 'f' 3 false false false = (decide (number < 0), Float64.pointed (Float64.Digits.of (cnt number parts) (-3)) 3) := by
  obtain ⟨N, i, k, hN, hi, hk, hn, hp⟩ := f.has
  have hp2 : parts.natAbs = 2 ^ k := by rw [hp]; exact Int.natAbs_natCast _
  unfold quo cnt
  rw [hn, hp2]
  obtain ⟨m, e, h1, h2, h3⟩ := exact_frac (decide (number < 0)) hN hi hk
  exact text_f h1 h2 (Nat.two_pow_pos k) h3
theorem Fit.notInf {number parts : Int} (f : Fit number parts) : ¬ Float64.isInf (quo number parts) = true := by
  obtain ⟨N, i, k, hN, hi, hk, hn, hp⟩ := f.has
  have hp2 : parts.natAbs = 2 ^ k := by rw [hp]; exact Int.natAbs_natCast _
  unfold quo
  rw [hn, hp2]
  obtain ⟨m, e, h1, h2, h3⟩ := exact_frac (decide (number < 0)) hN hi hk
  unfold Float64.isInf
  rw [h1]
  simp
theorem Fit.parts_pos {number parts : Int} (f : Fit number parts) : 1 ≤ parts ∧ parts ≤ 2 ^ 60 := by
  obtain ⟨N, i, k, hN, hi, hk, hn, hp⟩ := f.has
  have h1 : 0 < 2 ^ k := Nat.two_pow_pos k
  have h2 : 2 ^ k ≤ 2 ^ 60 := Nat.pow_le_pow_right (by decide) hk
  generalize 2 ^ k = K at *
  subst hp
  omega
theorem Fit.num_lt {number parts : Int} (f : Fit number parts) : number.natAbs < 2 ^ 73 := by
  obtain ⟨N, i, k, hN, hi, hk, hn, hp⟩ := f.has
  rw [hn]
  calc N * 2 ^ i ≤ N * 2 ^ 20 := Nat.mul_le_mul_left _ (Nat.pow_le_pow_right (by decide) hi)
    _ < 2 ^ 73 := by omega
theorem Fit.cnt_lt {number parts : Int} (f : Fit number parts) : cnt number parts < 2 ^ 90 := by
  have h1 := f.num_lt
  have h2 := f.parts_pos
  have h3 := Float64.halfEven_le' (number.natAbs * 1000) parts.natAbs (by omega)
  have h4 : number.natAbs * 1000 / parts.natAbs ≤ number.natAbs * 1000 := Nat.div_le_self _ _
  unfold cnt
  omega
theorem Fit.neg_is {number parts : Int} (f : Fit number parts) (h : number < 0) : f8s (quo number parts) = Txt.mul (Str.ofString " ") (8 - ((Str.ofString "-" ++ bodyOf (cnt number parts)).length : Int)) ++ (Str.ofString "-" ++ bodyOf (cnt number parts)) := by
  have ht := f.text
  rw [decide_eq_true h] at ht
  exact str_ext (by rw [f8_neg ht, want_neg])
theorem Fit.pos_is {number parts : Int} (f : Fit number parts) (h : ¬ number < 0) : f8s (quo number parts) = Txt.mul (Str.ofString " ") (8 - ((bodyOf (cnt number parts)).length : Int)) ++ bodyOf (cnt number parts) := by
  have ht := f.text
  rw [decide_eq_false h] at ht
  exact str_ext (by rw [f8_pos ht, want_pos])
theorem Fit.thous {number parts : Int} (f : Fit number parts) : thous (f8s (quo number parts)) = cnt number parts := by
  have ht := f.text
  by_cases h : number < 0
  · rw [decide_eq_true h] at ht
    exact thous_neg (f8_neg ht)
  · rw [decide_eq_false h] at ht
    exact thous_pos (f8_pos ht)
theorem Fit.len {number parts : Int} (f : Fit number parts) : (f8s (quo number parts)).length ≤ 64 := by
  have ht := f.text
  have hs := dg_short f.cnt_lt
  show (f8s (quo number parts)).cps.toList.length ≤ 64
  by_cases h : number < 0
  · rw [decide_eq_true h] at ht
    rw [f8_neg ht]
    simp
    omega
  · rw [decide_eq_false h] at ht
    rw [f8_pos ht]
    simp
    omega
theorem Fit.round {number parts c : Int} (f : Fit number parts) (hc : c = cnt number parts) :
    2 * (if 1000 * (if number < 0 then -number else number) - c * parts < 0 then -(1000 * (if number < 0 then -number else number) - c * parts) else 1000 * (if number < 0 then -number else number) - c * parts) < parts ∨ (2 * (if 1000 * (if number < 0 then -number else number) - c * parts < 0 then -(1000 * (if number < 0 then -number else number) - c * parts) else 1000 * (if number < 0 then -number else number) - c * parts) = parts ∧ c.fmod 2 = 0) := by
  have hp := f.parts_pos
  have hr := round_nat (number.natAbs * 1000) parts.natAbs (by omega) _ (rfl : cnt number parts = cnt number parts)
  have ha : (if number < 0 then -number else number) = (number.natAbs : Int) := by split <;> omega
  have hm : c.fmod 2 = ((cnt number parts % 2 : Nat) : Int) := by
    rw [hc, Int.fmod_eq_emod_of_nonneg _ (by decide)]; omega
  have hcp : c * parts = ((cnt number parts * parts.natAbs : Nat) : Int) := by
    rw [hc, Int.natCast_mul]
    congr 1
    omega
  rw [ha, hm, hcp]
  generalize cnt number parts * parts.natAbs = X at *
  split <;> omega
theorem right_fin {w : World} {s₀ : Shared} {mg mb : Str → Option Value} {number parts : Int} {t t1 t2 : Tok} {news : List (Addr × Obj)}
    {dp un : Nat} {gd : Option (List Code)} {cn : Str} {cs : Scope} {a : Addr} {ccd : Value} {cl : List (Str × Addr)} {outer : List Env} {A₀ : Around} {base h₀ : Heap} {L : Addr} {m : Str → Option Value} {s : Shared} {Q E : Value → Shared → Prop}
    (B : Below A₀ base outer h₀) (F : Fr h₀ L s.heap m) (X : (hd.heap_39 w.params).In h₀) (N : News h₀ L s.heap news) (T : Top hd.view_39 (looseW hd.view_39 []) (ExcName.means s₀.heap) mg mb h₀) (hk : cs.kind = .function)
    (hd' : dp + 2 < recursionLimit) (hu : un + 16 < cLine) (f : Fit number parts)
    (hret : ∀ (t : Tok) (h' : Heap) (tk' : Nat), Fr h₀ L h' m → News h₀ L h' news → Q (.bool true) { s with heap := h', toks := tk' }) :
    wpAny (model Challenge.rw_mg0081_01.row.prog w) (ktrTop dp un gd cn cs L a ccd cl outer) (call (.ref 35) [.str (f8s (quo number parts)) t, .int number t1, .int parts t2]) Q E s := by
  have hc := f.cnt_lt
  have hn := f.num_lt
  have hp := f.parts_pos
  exact right_use (c := (cnt number parts : Int)) B F X N T hk hd' hu f.len f.thous (by omega) (by omega) (by omega) (by omega) hp.1 hp.2 f.neg_is f.pos_is (f.round rfl) hret
section
variable {prog : Program} {w : World} {A : Around} {E : Value → Shared → Prop} {s : Shared} {X : PySem.Str} {number parts : Int} {t u : Tok} {Q : Value → Shared → Prop}
theorem mod_q {x : UInt64} (hX : X = Str.ofString "%8.3f") (hx : x = quo number parts) (f : Fit number parts) (h : ∀ t' k, Q (.str (f8s (quo number parts)) t') { s with toks := k }) : wpAny (model prog w) A (binaryOp .Mod (.str X t) (.float x u)) Q E s := by
  subst hx
  exact KPt.mod_float hX (meets_f _ _ _ f.len) h
theorem ofInt_quo (n : Int) : Float64.ofInt n = quo n 1 := by
  have e : Int.natAbs 1 = 1 := by decide
  unfold quo Float64.ofInt
  rw [e]
theorem mod_n (hX : X = Str.ofString "%8.3f") (f : Fit number 1) (h : ∀ t' k, Q (.str (f8s (quo number 1)) t') { s with toks := k }) : wpAny (model prog w) A (binaryOp .Mod (.str X t) (.int number u)) Q E s := by
  refine KPc.mod_lit hX ?_ (fun _ _ => meets_i number (quo number 1) _ _ (ofInt_quo number) f.notInf f.len) h
  have hn := f.num_lt
  exact shown (N := 2 ^ 1920) (by omega) (by omega) (Int.le_refl _)
end
end Mine
end

section
open PySem PySem.W PyProof.Rows PySem.Calls
set_option maxRecDepth 100000
set_option maxHeartbeats 8000000
namespace Mine
section
variable {prog : Program} {w : World} {A : Around} {E : Value → Shared → Prop} {s : Shared} {env : Env} {h₀ : Heap} {x : Str} {body : List Stmt} {Q : Flow → Shared → Prop}
theorem subL_refl : ∀ (l all : List (Addr × Obj)), (∀ p ∈ l, p ∈ all) → SubL l all
  | [], _, _ => trivial
  | p :: r, all, h => ⟨h p (List.mem_cons_self ..), subL_refl r all fun q hq => h q (List.mem_cons_of_mem _ hq)⟩
theorem iter_each {ax : Addr} {lo : Obj} {vs : List Value} {n : Nat} {m₀ : Str → Option Value} {news : List (Addr × Obj)}
    (hh : A.handled = none) (F : Fr h₀ env.locals s.heap m₀) (N : News h₀ env.locals s.heap news) (hm : (ax, lo) ∈ news) (hc : lo.cls = .type "list") (hd : lo.data = .seq vs.toArray n)
    (turn : ∀ (I : Addr) (v : Value), (∀ p ∈ news, p.1 < I) → v ∈ vs → ∀ (it : Obj) (m : Str → Option Value) h tk, it.cls = .type "list_iterator" → Fr h₀ env.locals h (fun y => if y = x then some v else m y) → News h₀ env.locals h ((I, it) :: news) →
      wpAny (model prog w) A (execs body env) (UnrPost h₀ env.locals { s with heap := h, toks := tk } I it (fun _ n' => (ax, lo) ∈ n' ∧ SubL news n') Q) E { s with heap := h, toks := tk })
    (done : ∀ m h tk, Fr h₀ env.locals h m → News h₀ env.locals h news → Q .next { s with heap := h, toks := tk }) :
    wpAny (model prog w) A (pyIter (.ref ax)) (fun it s₂ => LoopAtV prog w A h₀ env x body Q E it s₂) E s := by
  refine iter_listUnr hh F N hm hc hd ?_
  intro I hI
  have key : ∀ (l : List Value), (∀ v ∈ l, v ∈ vs) → ∀ m, ListRest prog w A E h₀ env x body Q s I (ax, lo) l m news := by
    intro l
    induction l with
    | nil => exact fun _ m => ListRest.zero fun h tk F' N' => done m h tk F' N'
    | cons v r ih =>
      intro hv m
      refine ListRest.succ fun it h tk hit F' N' => ?_
      refine wpAny_mono (turn I v hI (hv v (List.mem_cons_self ..)) it m h tk hit F' N') (fun f s₂ p => ?_) fun _ _ e => e
      have fin : UnrEnd h₀ env.locals { s with heap := h, toks := tk } I it (fun _ n' => (ax, lo) ∈ n' ∧ SubL news n') s₂ →
          UnrEnd h₀ env.locals { s with heap := h, toks := tk } I it (fun m' n' => (ax, lo) ∈ n' ∧ ListRest prog w A E h₀ env x body Q s I (ax, lo) r m' n') s₂ := by
        rintro ⟨h', tk', m', n', e, F2, N2, off, _, sub⟩
        refine ⟨h', tk', m', news, e, F2, fun p hp => N2 p ?_, fun p hp => off p (sub.mem p hp), hm, ih (fun q hq => hv q (List.mem_cons_of_mem _ hq)) m'⟩
        rcases List.mem_cons.mp hp with rfl | hp
        · exact List.mem_cons_self ..
        · exact List.mem_cons_of_mem _ (sub.mem p hp)
      cases f with
      | ret v => exact p
      | brk => exact p
      | next => exact fin p
      | cont => exact fin p
  exact key vs (fun _ h => h) m₀
end
end Mine
end

section
open PySem PySem.W PyProof.Rows PySem.Calls
set_option maxRecDepth 100000
set_option maxHeartbeats 8000000
namespace Mine
theorem ints_mem : ∀ {vs : List Value} {ns : List Int}, IntsAre vs ns → ∀ {v : Value}, v ∈ vs → ∃ (n : Int) (t : Tok), v = .int n t := by
  intro vs ns h
  induction h with
  | nil => intro v hv; cases hv
  | cons n t _ ih =>
    intro v hv
    rcases List.mem_cons.mp hv with rfl | hv
    · exact ⟨_, _, rfl⟩
    · exact ih hv
theorem div_q {prog : Program} {w : World} {A : Around} {E : Value → Shared → Prop} {s : Shared} {number parts : Int} {t u : Tok} {Q : Value → Shared → Prop} (f : Fit number parts)
    (h : ∀ t' k, Q (.float (quo number parts) t') { s with toks := k }) : wpAny (model prog w) A (binaryOp .Div (.int number t) (.int parts u)) Q E s := by
  have hp := f.parts_pos
  have e : (decide (number < 0) != decide (parts < 0)) = decide (number < 0) := by
    rw [decide_eq_false (by omega : ¬ parts < 0)]
    cases decide (number < 0) <;> rfl
  have hq : Float64.ofFrac (decide (number < 0) != decide (parts < 0)) number.natAbs parts.natAbs = quo number parts := by rw [e]; rfl
  have hz : ¬ (parts == 0) = true := by
    rw [beq_iff_eq]; omega
  refine AutoIntOps.truediv_2 hz (by rw [hq]; exact f.notInf) ?_
  rw [hq]
  exact h _ _
theorem small_x {x : Int} (h : (if x < 0 then -x else x) < 2 ^ Int.toNat 50) : x.natAbs < 2 ^ 50 := by
  have e : (2 : Int) ^ Int.toNat 50 = 2 ^ 50 := rfl
  rw [e] at h
  split at h <;> omega
theorem small_m (x : Int) : (x.fmod (2 ^ Int.toNat 50)).natAbs < 2 ^ 50 := by
  have e : (2 : Int) ^ Int.toNat 50 = 1125899906842624 := rfl
  rw [e, Int.fmod_eq_emod_of_nonneg x (by decide)]
  omega
theorem fit_k {n p : Int} (k : Nat) (hn : n.natAbs < 2 ^ 50) (hk : k ≤ 60) (hp : p = ((2 ^ k : Nat) : Int)) : Fit n p :=
  ⟨n.natAbs, 0, k, by omega, by decide, hk, by rw [Nat.pow_zero, Nat.mul_one], hp⟩
theorem fit_1 {n : Int} (hn : n.natAbs < 2 ^ 50) : Fit n 1 := fit_k 0 hn (by decide) rfl
theorem fit_16 {n : Int} (hn : n.natAbs < 2 ^ 50) : Fit n 16 := fit_k 4 hn (by decide) rfl
theorem fit_1024 {n : Int} (hn : n.natAbs < 2 ^ 50) : Fit n 1024 := fit_k 10 hn (by decide) rfl
theorem fit_p {n : Int} (x : Int) (hn : n.natAbs < 2 ^ 50) : Fit n (2 ^ (x.fmod 61).toNat) := by
  have e := Int.fmod_eq_emod_of_nonneg x (b := 61) (by decide)
  refine fit_k (x.fmod 61).toNat hn (by rw [e]; omega) ?_
  rw [Int.natCast_pow]
  rfl
theorem fit_g {n : Int} (hn : n.natAbs < 2 ^ 50) : Fit (n * 2 ^ Int.toNat 20) 1 :=
  ⟨n.natAbs, 20, 0, by omega, by decide, by decide, by rw [Int.natAbs_mul]; rfl, rfl⟩
end Mine
end

section
open PySem PySem.W PyProof.Rows
set_option maxRecDepth 100000
set_option maxHeartbeats 8000000
namespace Mine
local macro_rules | `(tactic| walk_at "mine fit") => `(tactic| (first
  | exact fit_1 (small_x (by assumption)) | exact fit_1 (small_m _)
  | exact fit_g (small_x (by assumption)) | exact fit_g (small_m _)
  | exact fit_16 (small_x (by assumption)) | exact fit_16 (small_m _)
  | exact fit_1024 (small_x (by assumption)) | exact fit_1024 (small_m _)
  | exact fit_p _ (small_x (by assumption)) | exact fit_p _ (small_m _)))
local macro_rules | `(tactic| walk_at "exec For Name BinOp cons nil") => `(tactic| (k_here; (rename Fr _ _ _ _ => lF'); (with_unfolding_all refine' For_invVF lF' ?k1 ?k2 ?_; (case k1 => exact rfl); (case k2 => exact rfl); k_whole)))
local macro_rules | `(tactic| walk_at "binaryOp Mod str int") => `(tactic| (k_here; (with_reducible show wpAny _ _ (binaryOp Operator.Mod (Value.str _ _) (Value.int _ _)) _ _ _); (refine' mod_n ?k1 ?k2 ?_; (case k1 => exact rfl); (case k2 => walk_at "mine fit")); intro _ _))
local macro_rules | `(tactic| walk_at "binaryOp Mod str float") => `(tactic| (k_here; (with_reducible show wpAny _ _ (binaryOp Operator.Mod (Value.str _ _) (Value.float _ _)) _ _ _); (refine' mod_q ?k1 ?k3 ?k2 ?_; (case k1 => exact rfl); (case k3 => exact rfl); (case k2 => walk_at "mine fit")); intro _ _))
local macro_rules | `(tactic| walk_at "binaryOp Div int int") => `(tactic| (k_here; (with_reducible show wpAny _ _ (binaryOp Operator.Div (Value.int _ _) (Value.int _ _)) _ _ _); (refine' div_q ?k2 ?_; (case k2 => walk_at "mine fit")); intro _ _))
local macro_rules | `(tactic| walk_at "SubL") => `(tactic| k_subL)
theorem holds : Challenge.rw_mg0081_01.Holds := hd (by
  k_with "call ref" => (k_here; (with_reducible show wpAny _ _ (call (Value.ref 35) _) _ _ _); k_dflt (refine' right_fin ?k1 ?k2 ?k3 ?k4 ?k5 ?k6 ?k7 ?k8 ?k9 ?_; (case k1 => k_asm); (case k2 => k_asm); (case k3 => k_asm); (case k4 => k_asm); (case k5 => k_asm); (case k6 => exact rfl); (case k7 => ktr_room); (case k8 => ktr_units); (case k9 => walk_at "mine fit")); intro t9 h9 tk9 F9 N9; (try dsimp only); (try k_fold))
  k_with "pyIter ref" => (k_here; (k_of "x" => ((rename Fr _ _ _ _ => lF'); (rename News _ _ _ _ => lN'); (rename IntsAre _ _ => lI'); (with_unfolding_all refine iter_each (by rfl) lF' lN' (List.mem_cons_self ..) (by rfl) (by rfl) ?_ ?_); clear lF' lN'; (focus (intro I' v' hI' hv'; obtain ⟨x', t', rfl⟩ := ints_mem lI' hv'; clear hv'; intro it' m' h' tk' hit' F' N'; (try k_lt hI'))))))
  k_go)
end Mine
end

set_option maxRecDepth 100000 in
set_option maxHeartbeats 8000000 in
theorem PySem.Challenge.cw_mg0081_01_holds : PySem.Challenge.rw_mg0081_01.Holds :=
  Mine.holds
