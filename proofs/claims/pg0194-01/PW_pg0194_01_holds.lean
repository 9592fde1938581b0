import PyProof.Rows.All
import Wide.All
import OpenK.AllK
import Wide.FinOn
import Lean
import PySem.Challenge.RW_pg0194_01
/-
Parts: lemmas on the model's steps (P0, P2), each function of the text walked once by a contract (P1, P3, P4, P5), the law's body in nine pieces (P7),
the plain law in plain Lean (Pure), and the join (Whole, the claim's theorem). The theorems «words..» say the walk's own lines by k_with (they prove nothing).
-/
set_option Elab.async false
set_option maxRecDepth 100000
open PySem PySem.W PyProof.Rows
namespace Mine
local macro_rules | `(tactic| walk_at $s:str) => `(tactic| k_extra $(Lean.Syntax.mkStrLit ("own " ++ s.getString)))
local macro_rules | `(tactic| k_ne) => `(tactic| k_extra "own k_ne")
local macro_rules | `(tactic| k_all) => `(tactic| k_extra "own k_all")
section P0
section Base_part
open PySem PySem.W PyProof.Rows
section
abbrev Led := List (Addr × Obj)
noncomputable def nth : List Stmt → Nat → Stmt
  | [], _ => .Pass default
  | s :: _, 0 => s
  | _ :: r, n + 1 => nth r n
noncomputable def top (i : Nat) : Stmt := nth PySem.Challenge.pw_pg0194_01.main.body i
noncomputable def sN : Stmt → Str
  | .FunctionDef n _ _ _ _ _ _ _ _ _ => n
  | .ClassDef n _ _ _ _ _ _ _ _ _ _ => n
  | _ => Str.ofString ""
noncomputable def sA : Stmt → Arguments
  | .FunctionDef _ a _ _ _ _ _ _ _ _ => a
  | _ => ⟨[], [], none, [], [], none, []⟩
noncomputable def sB : Stmt → List Stmt
  | .FunctionDef _ _ b _ _ _ _ _ _ _ => b
  | .ClassDef _ _ _ b _ _ _ _ _ _ _ => b
  | _ => []
noncomputable def sS : Stmt → Scope
  | .FunctionDef _ _ _ _ _ _ s _ _ _ => s
  | .ClassDef _ _ _ _ _ _ s _ _ _ _ => s
  | _ => default

/-- a def of the text, as the written part bears it -/
noncomputable def FunIs (K : Frag) (st : Stmt) (q : Str) (f : Addr) (dV kV : Value) : Prop :=
  ∃ (oc : Value) (od : Option Addr) (osl : Array (Option Value)) (pm doc cdv ct : Value) (an : Option Addr),
    K.lookup f = some ⟨oc, od, .func (fnOf (sN st) q (sA st) (sB st) (sS st) dV kV doc pm an cdv ct), osl⟩ ∧ codeIn K cdv q = true
structure FunAt (K : Frag) (i : Nat) (f : Addr) (dV kV : Value) : Prop where
  is : FunIs K (top i) (sN (top i)) f dV kV
  keep : keepIn K (.ref f) = true
  name : nsIn K mainGlobals (sN (top i)) = some (some (.ref f))

noncomputable def Spec (prog : Program) (w : World) (K : Frag) (p : Program) (loose : List Str) (mean : ExcName → Option Value) (mg mb : Str → Option Value) (f : Addr) (vs : List Value) (news : Led) (D U : Nat) (Post : Value → Led → Prop) : Prop :=
  ∀ (dp un : Nat) (gd : Option (List Code)) (cn : Str) (cs : Scope) (a : Addr) (ccd : Value) (cl : List (Str × Addr)) (outer : List Env) (A₀ : Around) (base h₀ : Heap) (L : Addr) (m : Str → Option Value) (s : Shared) (Q E : Value → Shared → Prop),
    Below A₀ base outer h₀ → Fr h₀ L s.heap m → K.In h₀ → News h₀ L s.heap news → Top p loose mean mg mb h₀ → cs.kind = .function → dp + D < recursionLimit → un + U < cLine →
    (∀ r news' h' tk', Fr h₀ L h' m → News h₀ L h' news' → Post r news' → Q r { s with heap := h', toks := tk' }) →
    wpAny (model prog w) (ktrTop dp un gd cn cs L a ccd cl outer) (call (.ref f) vs) Q E s

abbrev tupOf (its : List Value) (n : Nat) : Obj := { cls := .type "tuple", data := .seq its.toArray n }
end
section
theorem allLt_ne {d : Addr} : ∀ {l : Led}, AllLt d l → ∀ p ∈ l, p.1 ≠ d
  | [], _, _, h => nomatch h
  | _ :: _, h, p, hp => by
    rcases List.mem_cons.mp hp with rfl | hp
    · exact Nat.ne_of_lt h.1
    · exact allLt_ne h.2 p hp
end
section
theorem Spec.use {prog : Program} {w : World} {K : Frag} {p : Program} {loose : List Str} {mean : ExcName → Option Value} {mg mb : Str → Option Value} {f : Addr} {vs : List Value} {news : Led} {D U : Nat} {Post : Value → Led → Prop}
    (S : Spec prog w K p loose mean mg mb f vs news D U Post) {dp un : Nat} {gd : Option (List Code)} {cn : Str} {cs : Scope} {a : Addr} {ccd : Value} {cl : List (Str × Addr)} {outer : List Env} {A₀ : Around} {base h₀ : Heap} {L : Addr} {m : Str → Option Value} {s : Shared} {Q E : Value → Shared → Prop}
    (B : Below A₀ base outer h₀) (F : Fr h₀ L s.heap m) (X : K.In h₀) (N : News h₀ L s.heap news) (T : Top p loose mean mg mb h₀) (hk : cs.kind = .function) (hd : dp + D < recursionLimit) (hu : un + U < cLine)
    (ret : ∀ r news' h' tk', Fr h₀ L h' m → News h₀ L h' news' → Post r news' → Q r { s with heap := h', toks := tk' }) :
    wpAny (model prog w) (ktrTop dp un gd cn cs L a ccd cl outer) (call (.ref f) vs) Q E s := S _ _ _ _ _ _ _ _ _ _ _ _ _ _ _ _ _ B F X N T hk hd hu ret
end
section
theorem news_tail {h₀ h : Heap} {L : Addr} {p : Addr × Obj} {news : Led} (N : News h₀ L h (p :: news)) : News h₀ L h news := fun q hq => N q (List.mem_cons_of_mem _ hq)
theorem news_sub {h₀ h : Heap} {L : Addr} {news news' : Led} (N : News h₀ L h news) (hs : ∀ p ∈ news', p ∈ news) : News h₀ L h news' := fun q hq => N q (hs q hq)
end

section
theorem room1 {dp b a R : Nat} (h : dp + b < R) (e : Nat.ble (1 + a) b = true) : dp + 1 + a < R := by have := Nat.le_of_ble_eq_true e; omega
theorem room0 {dp b a R : Nat} (h : dp + b < R) (e : Nat.ble a b = true) : dp + a < R := by have := Nat.le_of_ble_eq_true e; omega
theorem room3 {dp b a R : Nat} (h : dp + b < R) (e : Nat.ble (3 + a) b = true) : dp + 3 + a < R := by have := Nat.le_of_ble_eq_true e; omega
theorem neL0 {a b : Nat} {p : Prop} (h : a < b ∧ p) : a ≠ b := Nat.ne_of_lt h.1
theorem neG0 {a b : Nat} {p : Prop} (h : a < b ∧ p) : b ≠ a := Nat.ne_of_gt h.1
theorem neL1 {a b : Nat} {q0 : Prop} {p : Prop} (h : q0 ∧ (a < b ∧ p)) : a ≠ b := Nat.ne_of_lt h.2.1
theorem neG1 {a b : Nat} {q0 : Prop} {p : Prop} (h : q0 ∧ (a < b ∧ p)) : b ≠ a := Nat.ne_of_gt h.2.1
theorem neL2 {a b : Nat} {q0 q1 : Prop} {p : Prop} (h : q0 ∧ (q1 ∧ (a < b ∧ p))) : a ≠ b := Nat.ne_of_lt h.2.2.1
theorem neG2 {a b : Nat} {q0 q1 : Prop} {p : Prop} (h : q0 ∧ (q1 ∧ (a < b ∧ p))) : b ≠ a := Nat.ne_of_gt h.2.2.1
theorem neL3 {a b : Nat} {q0 q1 q2 : Prop} {p : Prop} (h : q0 ∧ (q1 ∧ (q2 ∧ (a < b ∧ p)))) : a ≠ b := Nat.ne_of_lt h.2.2.2.1
theorem neG3 {a b : Nat} {q0 q1 q2 : Prop} {p : Prop} (h : q0 ∧ (q1 ∧ (q2 ∧ (a < b ∧ p)))) : b ≠ a := Nat.ne_of_gt h.2.2.2.1
theorem neL4 {a b : Nat} {q0 q1 q2 q3 : Prop} {p : Prop} (h : q0 ∧ (q1 ∧ (q2 ∧ (q3 ∧ (a < b ∧ p))))) : a ≠ b := Nat.ne_of_lt h.2.2.2.2.1
theorem neG4 {a b : Nat} {q0 q1 q2 q3 : Prop} {p : Prop} (h : q0 ∧ (q1 ∧ (q2 ∧ (q3 ∧ (a < b ∧ p))))) : b ≠ a := Nat.ne_of_gt h.2.2.2.2.1
theorem neL5 {a b : Nat} {q0 q1 q2 q3 q4 : Prop} {p : Prop} (h : q0 ∧ (q1 ∧ (q2 ∧ (q3 ∧ (q4 ∧ (a < b ∧ p)))))) : a ≠ b := Nat.ne_of_lt h.2.2.2.2.2.1
theorem neG5 {a b : Nat} {q0 q1 q2 q3 q4 : Prop} {p : Prop} (h : q0 ∧ (q1 ∧ (q2 ∧ (q3 ∧ (q4 ∧ (a < b ∧ p)))))) : b ≠ a := Nat.ne_of_gt h.2.2.2.2.2.1
theorem neL6 {a b : Nat} {q0 q1 q2 q3 q4 q5 : Prop} {p : Prop} (h : q0 ∧ (q1 ∧ (q2 ∧ (q3 ∧ (q4 ∧ (q5 ∧ (a < b ∧ p))))))) : a ≠ b := Nat.ne_of_lt h.2.2.2.2.2.2.1
theorem neG6 {a b : Nat} {q0 q1 q2 q3 q4 q5 : Prop} {p : Prop} (h : q0 ∧ (q1 ∧ (q2 ∧ (q3 ∧ (q4 ∧ (q5 ∧ (a < b ∧ p))))))) : b ≠ a := Nat.ne_of_gt h.2.2.2.2.2.2.1
theorem neL7 {a b : Nat} {q0 q1 q2 q3 q4 q5 q6 : Prop} {p : Prop} (h : q0 ∧ (q1 ∧ (q2 ∧ (q3 ∧ (q4 ∧ (q5 ∧ (q6 ∧ (a < b ∧ p)))))))) : a ≠ b := Nat.ne_of_lt h.2.2.2.2.2.2.2.1
theorem neG7 {a b : Nat} {q0 q1 q2 q3 q4 q5 q6 : Prop} {p : Prop} (h : q0 ∧ (q1 ∧ (q2 ∧ (q3 ∧ (q4 ∧ (q5 ∧ (q6 ∧ (a < b ∧ p)))))))) : b ≠ a := Nat.ne_of_gt h.2.2.2.2.2.2.2.1
theorem neL8 {a b : Nat} {q0 q1 q2 q3 q4 q5 q6 q7 : Prop} {p : Prop} (h : q0 ∧ (q1 ∧ (q2 ∧ (q3 ∧ (q4 ∧ (q5 ∧ (q6 ∧ (q7 ∧ (a < b ∧ p))))))))) : a ≠ b := Nat.ne_of_lt h.2.2.2.2.2.2.2.2.1
theorem neG8 {a b : Nat} {q0 q1 q2 q3 q4 q5 q6 q7 : Prop} {p : Prop} (h : q0 ∧ (q1 ∧ (q2 ∧ (q3 ∧ (q4 ∧ (q5 ∧ (q6 ∧ (q7 ∧ (a < b ∧ p))))))))) : b ≠ a := Nat.ne_of_gt h.2.2.2.2.2.2.2.2.1
theorem neL9 {a b : Nat} {q0 q1 q2 q3 q4 q5 q6 q7 q8 : Prop} {p : Prop} (h : q0 ∧ (q1 ∧ (q2 ∧ (q3 ∧ (q4 ∧ (q5 ∧ (q6 ∧ (q7 ∧ (q8 ∧ (a < b ∧ p)))))))))) : a ≠ b := Nat.ne_of_lt h.2.2.2.2.2.2.2.2.2.1
theorem neG9 {a b : Nat} {q0 q1 q2 q3 q4 q5 q6 q7 q8 : Prop} {p : Prop} (h : q0 ∧ (q1 ∧ (q2 ∧ (q3 ∧ (q4 ∧ (q5 ∧ (q6 ∧ (q7 ∧ (q8 ∧ (a < b ∧ p)))))))))) : b ≠ a := Nat.ne_of_gt h.2.2.2.2.2.2.2.2.2.1
theorem neL10 {a b : Nat} {q0 q1 q2 q3 q4 q5 q6 q7 q8 q9 : Prop} {p : Prop} (h : q0 ∧ (q1 ∧ (q2 ∧ (q3 ∧ (q4 ∧ (q5 ∧ (q6 ∧ (q7 ∧ (q8 ∧ (q9 ∧ (a < b ∧ p))))))))))) : a ≠ b := Nat.ne_of_lt h.2.2.2.2.2.2.2.2.2.2.1
theorem neG10 {a b : Nat} {q0 q1 q2 q3 q4 q5 q6 q7 q8 q9 : Prop} {p : Prop} (h : q0 ∧ (q1 ∧ (q2 ∧ (q3 ∧ (q4 ∧ (q5 ∧ (q6 ∧ (q7 ∧ (q8 ∧ (q9 ∧ (a < b ∧ p))))))))))) : b ≠ a := Nat.ne_of_gt h.2.2.2.2.2.2.2.2.2.2.1
theorem neL11 {a b : Nat} {q0 q1 q2 q3 q4 q5 q6 q7 q8 q9 q10 : Prop} {p : Prop} (h : q0 ∧ (q1 ∧ (q2 ∧ (q3 ∧ (q4 ∧ (q5 ∧ (q6 ∧ (q7 ∧ (q8 ∧ (q9 ∧ (q10 ∧ (a < b ∧ p)))))))))))) : a ≠ b := Nat.ne_of_lt h.2.2.2.2.2.2.2.2.2.2.2.1
theorem neG11 {a b : Nat} {q0 q1 q2 q3 q4 q5 q6 q7 q8 q9 q10 : Prop} {p : Prop} (h : q0 ∧ (q1 ∧ (q2 ∧ (q3 ∧ (q4 ∧ (q5 ∧ (q6 ∧ (q7 ∧ (q8 ∧ (q9 ∧ (q10 ∧ (a < b ∧ p)))))))))))) : b ≠ a := Nat.ne_of_gt h.2.2.2.2.2.2.2.2.2.2.2.1
theorem neL12 {a b : Nat} {q0 q1 q2 q3 q4 q5 q6 q7 q8 q9 q10 q11 : Prop} {p : Prop} (h : q0 ∧ (q1 ∧ (q2 ∧ (q3 ∧ (q4 ∧ (q5 ∧ (q6 ∧ (q7 ∧ (q8 ∧ (q9 ∧ (q10 ∧ (q11 ∧ (a < b ∧ p))))))))))))) : a ≠ b := Nat.ne_of_lt h.2.2.2.2.2.2.2.2.2.2.2.2.1
theorem neG12 {a b : Nat} {q0 q1 q2 q3 q4 q5 q6 q7 q8 q9 q10 q11 : Prop} {p : Prop} (h : q0 ∧ (q1 ∧ (q2 ∧ (q3 ∧ (q4 ∧ (q5 ∧ (q6 ∧ (q7 ∧ (q8 ∧ (q9 ∧ (q10 ∧ (q11 ∧ (a < b ∧ p))))))))))))) : b ≠ a := Nat.ne_of_gt h.2.2.2.2.2.2.2.2.2.2.2.2.1
theorem neL13 {a b : Nat} {q0 q1 q2 q3 q4 q5 q6 q7 q8 q9 q10 q11 q12 : Prop} {p : Prop} (h : q0 ∧ (q1 ∧ (q2 ∧ (q3 ∧ (q4 ∧ (q5 ∧ (q6 ∧ (q7 ∧ (q8 ∧ (q9 ∧ (q10 ∧ (q11 ∧ (q12 ∧ (a < b ∧ p)))))))))))))) : a ≠ b := Nat.ne_of_lt h.2.2.2.2.2.2.2.2.2.2.2.2.2.1
theorem neG13 {a b : Nat} {q0 q1 q2 q3 q4 q5 q6 q7 q8 q9 q10 q11 q12 : Prop} {p : Prop} (h : q0 ∧ (q1 ∧ (q2 ∧ (q3 ∧ (q4 ∧ (q5 ∧ (q6 ∧ (q7 ∧ (q8 ∧ (q9 ∧ (q10 ∧ (q11 ∧ (q12 ∧ (a < b ∧ p)))))))))))))) : b ≠ a := Nat.ne_of_gt h.2.2.2.2.2.2.2.2.2.2.2.2.2.1
end

section
theorem three_nat {v : Nat} (h : v < 3) : v = 0 ∨ v = 1 ∨ v = 2 := by
  have : ∀ v : Nat, v < 3 → v = 0 ∨ v = 1 ∨ v = 2 := by decide
  exact this v h
theorem three_int {v : Int} (h : 0 ≤ v ∧ v < 3) : v = 0 ∨ v = 1 ∨ v = 2 := by
  obtain ⟨k, rfl⟩ := Int.eq_ofNat_of_zero_le h.1
  have : ∀ v : Nat, v < 3 → (v : Int) = 0 ∨ (v : Int) = 1 ∨ (v : Int) = 2 := by decide
  exact this k (Int.ofNat_lt.mp h.2)
theorem deg_two {dn : Nat} (h : 2 ≤ dn ∧ dn ≤ 5) : dn = 2 ∨ dn = 3 ∨ dn = 4 ∨ dn = 5 := by
  have : ∀ v : Nat, v < 6 → 2 ≤ v → v = 2 ∨ v = 3 ∨ v = 4 ∨ v = 5 := by decide
  exact this dn (Nat.lt_succ_of_le h.2) h.1
theorem lo1 {u : Int} (h : 1 ≤ u ∧ u ≤ 100) : 0 ≤ u ∧ u ≤ 100 := ⟨Int.le_trans (by decide) h.1, h.2⟩
theorem deg0 {dn : Nat} (h : dn = 2 ∨ dn = 3) : 2 ≤ dn ∧ dn ≤ 5 := by
  rcases h with rfl | rfl <;> decide
theorem deg1 {dn : Nat} (h : dn = 2 ∨ dn = 3) : 2 ≤ dn + 1 ∧ dn + 1 ≤ 5 := by
  rcases h with rfl | rfl <;> decide
theorem deg2 {dn : Nat} (h : dn = 2 ∨ dn = 3) : 2 ≤ dn + 2 ∧ dn + 2 ≤ 5 := by
  rcases h with rfl | rfl <;> decide
end
end Base_part
section Tup_part
open PySem PySem.W PyProof.Rows
section
noncomputable def ltT (a b : Int × Int × Int) : Bool := a.1 < b.1 || (a.1 == b.1 && (a.2.1 < b.2.1 || (a.2.1 == b.2.1 && a.2.2 < b.2.2)))
section
variable {prog : Program} {w : World} {A : Around} {E : Value → Shared → Prop} {s : Shared}
theorem tup_step {α : Type} {x y : Int} {t u : Tok} {k : ForInStep (Option PySem.Fin × Unit) → Sem α} {Q : α → Shared → Prop}
   (h1 : x = y → wpAny (model prog w) A (k (.yield (none, ()))) Q E s) (h2 : x ≠ y → wpAny (model prog w) A (k (.done (some (.done (.ret (.bool (decide (x < y))))), ()))) Q E s) :
   wpAny (model prog w) A ((do
          let b ← eqBool (Value.int x t) (Value.int y u)
          if (!b) = true then do
              rule "tuple.compare.by-the-first-pair-that-differs"
              let r ← richCompare CmpOp.Lt (Value.int x t) (Value.int y u)
              let r ← ret r
              pure (ForInStep.done (some r, ()))
            else pure (ForInStep.yield (none, ()))) >>= k) Q E s := by
  refine wpAny_bind (wpAny_bind (wpAny_eqBool_int ?_))
  by_cases e : x = y
  · rw [beq_iff_eq.mpr e]
    exact wpAny_pure (h1 e)
  · rw [beq_eq_false_iff_ne.mpr e]
    simp only [Bool.not_false, if_true]
    refine wpAny_bind (wpAny_rule (wpAny_bind ?_))
    refine (show wpAny (model prog w) A (compareOp .Lt (.int x t) (.int y u)) _ E s from wpAny_lt_int ?_)
    exact wpAny_bind (wpAny_pure (wpAny_pure (h2 e)))
theorem tup_lt_tree {a b : Addr} {x0 x1 x2 y0 y1 y2 : Int} {t0 t1 t2 u0 u1 u2 : Tok} {n k : Nat} {P : PySem.Fin → Shared → Prop}
   (ha : s.heap.get? a = some (tupOf [.int x0 t0, .int x1 t1, .int x2 t2] n)) (hb : s.heap.get? b = some (tupOf [.int y0 u0, .int y1 u1, .int y2 u2] k))
   (h : P (.done (.ret (.bool (ltT (x0, x1, x2) (y0, y1, y2))))) s) :
   wpAny (model prog w) A (Builtin.«tuple.__lt__» ⟨[.ref a, .ref b], []⟩) P E s := by
  show wpAny _ _ (isInstance (.ref b) (.type "tuple") >>= _) _ _ s
  refine wpAny_bind (wpAny_isInstance ⟨_, hb, rfl⟩ isSubtype_tuple_tuple ?_)
  simp only [Bool.not_true, Bool.false_eq_true, if_false]
  refine wpAny_bind (wpAny_tupleItemsOf ha rfl ?_)
  refine wpAny_bind (wpAny_tupleItemsOf hb rfl ?_)
  refine wpAny_bind ?_
  simp only [List.zip_cons_cons, List.forIn_cons, List.zip_nil_left, List.forIn_nil]
  unfold ltT at h
  dsimp only at h
  refine tup_step (fun e0 => ?_) fun e0 => ?_
  · refine tup_step (fun e1 => ?_) fun e1 => ?_
    · refine tup_step (fun e2 => ?_) fun e2 => ?_
      · refine wpAny_pure ?_
        subst e0 e1 e2
        have e9 : (decide (x0 < x0) || (x0 == x0 && (decide (x1 < x1) || (x1 == x1 && decide (x2 < x2))))) = false := by simp
        rw [e9] at h
        exact wpAny_pure h
      · refine wpAny_pure (wpAny_pure ?_)
        subst e0 e1
        have e9 : (decide (x0 < x0) || (x0 == x0 && (decide (x1 < x1) || (x1 == x1 && decide (x2 < y2))))) = decide (x2 < y2) := by simp
        rw [e9] at h
        exact h
    · refine wpAny_pure (wpAny_pure ?_)
      subst e0
      have e9 : (decide (x0 < x0) || (x0 == x0 && (decide (x1 < y1) || (x1 == y1 && decide (x2 < y2))))) = decide (x1 < y1) := by
        rw [beq_eq_false_iff_ne.mpr e1]; simp
      rw [e9] at h
      exact h
  · refine wpAny_pure (wpAny_pure ?_)
    rw [beq_eq_false_iff_ne.mpr e0, Bool.false_and, Bool.or_false] at h
    exact h
theorem tup_lt {a b : Addr} {x0 x1 x2 y0 y1 y2 : Int} {t0 t1 t2 u0 u1 u2 : Tok} {n k : Nat} {Q : Value → Shared → Prop}
   (ha : s.heap.get? a = some (tupOf [.int x0 t0, .int x1 t1, .int x2 t2] n)) (hb : s.heap.get? b = some (tupOf [.int y0 u0, .int y1 u1, .int y2 u2] k)) (hu : A.units < cLine)
   (h : Q (.bool (ltT (x0, x1, x2) (y0, y1, y2))) s) :
   wpAny (model prog w) A (compareOp .Lt (.ref a) (.ref b)) Q E s :=
  wpAny_richCompare_same_room (op := .Lt) ⟨_, ha, rfl⟩ ⟨_, hb, rfl⟩ PySem.F.slot_tuple_lt
    (wpAny_call_entry PySem.F.slot_tuple_lt ⟨_, ha, rfl⟩ PySem.F.entry_tuple_lt (tup_lt_tree ha hb ⟨_, rfl, (fun e => nomatch e), h⟩) (PySem.F.args_tuple_lt_2 _ _)) hu
end
end
section
abbrev Key := Int × Int × Int
noncomputable def HI (news : Led) (a : Addr) (k : Key) : Prop := ∃ (s t u : Tok) (n : Nat), (a, tupOf [.int k.1 s, .int k.2.1 t, .int k.2.2 u] n) ∈ news
theorem HI.mono {news news' : Led} {a : Addr} {k : Key} (h : HI news a k) (hs : ∀ p ∈ news, p ∈ news') : HI news' a k := let ⟨s, t, u, n, hm⟩ := h; ⟨s, t, u, n, hs _ hm⟩
theorem HI.cons {news : Led} {p : Addr × Obj} {a : Addr} {k : Key} (h : HI news a k) : HI (p :: news) a k := h.mono fun _ hm => List.mem_cons_of_mem _ hm
theorem hi_lt {prog : Program} {w : World} {A : Around} {E : Value → Shared → Prop} {s : Shared} {h₀ : Heap} {L : Addr} {news : Led} {a b : Addr} {k l : Key} {Q : Value → Shared → Prop}
   (N : News h₀ L s.heap news) (ha : HI news a k) (hb : HI news b l) (hu : A.units < cLine) (h : Q (.bool (ltT k l)) s) :
   wpAny (model prog w) A (compareOp .Lt (.ref a) (.ref b)) Q E s := by
  obtain ⟨s1, t1, u1, n1, m1⟩ := ha
  obtain ⟨s2, t2, u2, n2, m2⟩ := hb
  exact tup_lt (News.get N m1) (News.get N m2) hu h
noncomputable def sift (k : Addr → Key) : List Addr → List Addr
  | [a, b] => if ltT (k a) (k b) then [a, b] else [b, a]
  | [a, b, c] => if ltT (k b) (k c) then (if ltT (k a) (k b) then [a, b, c] else [b, a, c]) else (if ltT (k a) (k c) then [a, b, c] else [c, b, a])
  | l => l
noncomputable def refs (l : List Addr) : Array Value := (l.map Value.ref).toArray
end
end Tup_part
section Loop_part
open PySem PySem.W PyProof.Rows
section
abbrev litO (l : Addr) (i : Nat) : Obj := { cls := .type "list_iterator", data := .fields #[.ref l, .int i 0] }
abbrev titO (l : Addr) (i : Nat) : Obj := { cls := .type "tuple_iterator", data := .fields #[.ref l, .int i 0] }
abbrev ritO (x left c : Int) : Obj := { cls := .type "range_iterator", data := .fields #[rawInt x, rawInt left, rawInt c] }
section
variable {prog : Program} {w : World} {A : Around} {E : Value → Shared → Prop} {s : Shared} {h₀ : Heap} {L I : Addr} {m : Str → Option Value} {rest : Led} {o o' : Obj}


inductive Del (d : Addr) : Led → Led → Prop
  | head {o : Obj} {r : Led} : (∀ p ∈ r, p.1 ≠ d) → Del d ((d, o) :: r) r
  | tail {p : Addr × Obj} {r r' : Led} : p.1 ≠ d → Del d r r' → Del d (p :: r) (p :: r')
theorem Del.has {d : Addr} : ∀ {l l' : Led}, Del d l l' → ∃ o, (d, o) ∈ l
  | _, _, .head _ => ⟨_, List.mem_cons_self⟩
  | _, _, .tail _ h => let ⟨o, hm⟩ := h.has; ⟨o, List.mem_cons_of_mem _ hm⟩
theorem Del.off {d : Addr} : ∀ {l l' : Led}, Del d l l' → ∀ p ∈ l', p ∈ l ∧ p.1 ≠ d
  | _, _, .head h, p, hp => ⟨List.mem_cons_of_mem _ hp, h p hp⟩
  | _, _, .tail e h, p, hp => by
    rcases List.mem_cons.mp hp with rfl | hp
    · exact ⟨List.mem_cons_self, e⟩
    · exact ⟨List.mem_cons_of_mem _ (h.off p hp).1, (h.off p hp).2⟩
theorem led_change {news news' : Led} {h' : Heap} (F : Fr h₀ L s.heap m) (N : News h₀ L s.heap news) (U : Upd I o o' news news') (hs : Heap.SameBut I s.heap h') (ho : h'.get? I = some o') :
    Fr h₀ L h' m ∧ News h₀ L h' news' := by
  obtain ⟨pre, post, rfl, rfl, a, b⟩ := U.split
  have z := N (I, o) (List.mem_append.mpr (.inr List.mem_cons_self))
  exact ⟨F.change hs z.2.1 z.2.2, news_set N a b hs ho⟩
theorem led_changeF {news : Led} {g : Obj → Led} {h' : Heap} (F : Fr h₀ L s.heap m) (N : News h₀ L s.heap news) (U : UpdF I o news g) (hs : Heap.SameBut I s.heap h') (ho : h'.get? I = some o') :
    Fr h₀ L h' m ∧ News h₀ L h' (g o') := by
  obtain ⟨pre, post, rfl, e, a, b⟩ := U.split
  have z := N (I, o) (List.mem_append.mpr (.inr List.mem_cons_self))
  exact ⟨F.change hs z.2.1 z.2.2, (e o').symm ▸ news_set N a b hs ho⟩
theorem updF_has {news : Led} {g : Obj → Led} (U : UpdF I o news g) : (I, o) ∈ news := by
  obtain ⟨pre, post, rfl, e, a, b⟩ := U.split
  exact List.mem_append.mpr (.inr List.mem_cons_self)
theorem upd_has {news news' : Led} (U : Upd I o o' news news') : (I, o) ∈ news := by
  obtain ⟨pre, post, rfl, rfl, a, b⟩ := U.split
  exact List.mem_append.mpr (.inr List.mem_cons_self)
theorem led_end {news news' : Led} {h' : Heap} (F : Fr h₀ L s.heap m) (N : News h₀ L s.heap news) (D : Del I news news') (hs : Heap.ExtBut I s.heap h') :
    Fr h₀ L h' m ∧ News h₀ L h' news' := by
  obtain ⟨o, hm⟩ := D.has
  have z := N (I, o) hm
  refine ⟨⟨F.ns.at' fun o e => hs _ _ (Ne.symm z.2.1) e, fun b o e => hs b o (fun q => ?_) (F.keep b o e), F.above⟩, fun p hp => ?_⟩
  · have := z.2.2; rw [← q, e] at this; cases this
  · have y := N p (D.off p hp).1
    exact ⟨hs _ _ (D.off p hp).2 y.1, y.2⟩
noncomputable def IsLit (o : Obj) (l : Addr) (i : Nat) : Prop := o.cls = .type "list_iterator" ∧ o.data = .fields #[.ref l, .int i 0]
noncomputable def IsTit (o : Obj) (l : Addr) (i : Nat) : Prop := o.cls = .type "tuple_iterator" ∧ o.data = .fields #[.ref l, .int i 0]
variable {news news' : Led} {g : Obj → Led}
theorem next_rng {x left c : Int} {Q : Option Value → Shared → Prop} (F : Fr h₀ L s.heap m) (N : News h₀ L s.heap news) (U : Upd I (ritO x left c) (ritO (x + c) (left - 1) c) news news') (hl : 0 < left)
    (h : ∀ h' t tk, Fr h₀ L h' m → News h₀ L h' news' → Q (some (.int x t)) { s with heap := h', toks := tk }) : wpAny (model prog w) A (pyNext (.ref I)) Q E s :=
  wpAny_pyNext_range_item (N _ (upd_has U)).1 hl fun h' hi hs => let ⟨F', N'⟩ := led_change F N U hs hi; h h' _ _ F' N'
theorem next_rng_end {x left c : Int} {Q : Option Value → Shared → Prop} (hh : A.handled = none) (F : Fr h₀ L s.heap m) (N : News h₀ L s.heap news) (hm : (I, ritO x left c) ∈ news) (D : Del I news news') (hl : left ≤ 0)
    (h : ∀ h', Fr h₀ L h' m → News h₀ L h' news' → Q none { s with heap := h' }) : wpAny (model prog w) A (pyNext (.ref I)) Q E s :=
  wpAny_pyNext_range_end hh (N _ hm).1 hl fun h' hs => let ⟨F', N'⟩ := led_end F N D hs; h h' F' N'
theorem next_lst {l : Addr} {i n : Nat} {items : Array Value} {v : Value} {Q : Option Value → Shared → Prop} (F : Fr h₀ L s.heap m) (N : News h₀ L s.heap news) (U : UpdF I o news g) (ho : IsLit o l i) (hm : (l, listOf items n) ∈ news) (hx : items[i]? = some v)
    (h : ∀ h' o', Fr h₀ L h' m → News h₀ L h' (g o') → IsLit o' l (i + 1) → Q (some v) { s with heap := h' }) : wpAny (model prog w) A (pyNext (.ref I)) Q E s :=
  wpAny_pyNext_list_item ⟨_, (N _ (updF_has U)).1, ho⟩ ⟨_, (N _ hm).1, rfl, _, rfl⟩ hx fun h' hi hs =>
    let ⟨_, e1, e2⟩ := hi
    let ⟨F', N'⟩ := led_changeF F N U hs e1
    h h' _ F' N' e2
theorem next_lst_end {l : Addr} {i n : Nat} {items : Array Value} {Q : Option Value → Shared → Prop} (hh : A.handled = none) (F : Fr h₀ L s.heap m) (N : News h₀ L s.heap news) (hI : (I, o) ∈ news) (D : Del I news news') (ho : IsLit o l i) (hm : (l, listOf items n) ∈ news) (hx : items[i]? = none)
    (h : ∀ h', Fr h₀ L h' m → News h₀ L h' news' → Q none { s with heap := h' }) : wpAny (model prog w) A (pyNext (.ref I)) Q E s :=
  wpAny_pyNext_list_end hh ⟨_, (N _ hI).1, ho⟩ ⟨_, (N _ hm).1, rfl, _, rfl⟩ hx fun h' hs =>
    let ⟨F', N'⟩ := led_end F N D hs
    h h' F' N'
theorem next_tup {l : Addr} {i n : Nat} {items : List Value} {v : Value} {Q : Option Value → Shared → Prop} (F : Fr h₀ L s.heap m) (N : News h₀ L s.heap news) (U : UpdF I o news g) (ho : IsTit o l i) (hm : (l, tupOf items n) ∈ news) (hx : items[i]? = some v)
    (h : ∀ h' o', Fr h₀ L h' m → News h₀ L h' (g o') → IsTit o' l (i + 1) → Q (some v) { s with heap := h' }) : wpAny (model prog w) A (pyNext (.ref I)) Q E s :=
  wpAny_pyNext_tuple_item ⟨_, (N _ (updF_has U)).1, ho⟩ ⟨_, (N _ hm).1, rfl, _, rfl⟩ (by simpa using hx) fun h' hi hs =>
    let ⟨_, e1, e2⟩ := hi
    let ⟨F', N'⟩ := led_changeF F N U hs e1
    h h' _ F' N' e2
theorem next_tup_end {l : Addr} {i n : Nat} {items : List Value} {Q : Option Value → Shared → Prop} (hh : A.handled = none) (F : Fr h₀ L s.heap m) (N : News h₀ L s.heap news) (hI : (I, o) ∈ news) (D : Del I news news') (ho : IsTit o l i) (hm : (l, tupOf items n) ∈ news) (hx : items[i]? = none)
    (h : ∀ h', Fr h₀ L h' m → News h₀ L h' news' → Q none { s with heap := h' }) : wpAny (model prog w) A (pyNext (.ref I)) Q E s :=
  wpAny_pyNext_tuple_end hh ⟨_, (N _ hI).1, ho⟩ ⟨_, (N _ hm).1, rfl, _, rfl⟩ (by simpa using hx) fun h' hs =>
    let ⟨F', N'⟩ := led_end F N D hs
    h h' F' N'

theorem news_off {news : Led} {h : Heap} (N : News h₀ L h news) : ∀ p ∈ news, p.1 < h.objs.size := fun p hp => Heap.lt_size (N p hp).1
theorem iter_lst {l : Addr} {n : Nat} {items : Array Value} {news : Led} {Q : Value → Shared → Prop} (F : Fr h₀ L s.heap m) (N : News h₀ L s.heap news) (hm : (l, listOf items n) ∈ news)
    (h : ∀ I h' o', Fr h₀ L h' m → News h₀ L h' ((I, o') :: news) → IsLit o' l 0 → (∀ p ∈ news, p.1 < I) → Q (.ref I) { s with heap := h' }) : wpAny (model prog w) A (pyIter (.ref l)) Q E s :=
  wpAny_pyIter_list ⟨_, (N _ hm).1, rfl, _, rfl⟩ (h _ _ _ (F.push _) (N.push F _) ⟨rfl, rfl⟩ (news_off N))
theorem iter_tup {l : Addr} {n : Nat} {items : List Value} {news : Led} {Q : Value → Shared → Prop} (F : Fr h₀ L s.heap m) (N : News h₀ L s.heap news) (hm : (l, tupOf items n) ∈ news)
    (h : ∀ I h' o', Fr h₀ L h' m → News h₀ L h' ((I, o') :: news) → IsTit o' l 0 → (∀ p ∈ news, p.1 < I) → Q (.ref I) { s with heap := h' }) : wpAny (model prog w) A (pyIter (.ref l)) Q E s :=
  wpAny_pyIter_tuple ⟨_, (N _ hm).1, rfl, _, rfl⟩ (h _ _ _ (F.push _) (N.push F _) ⟨rfl, rfl⟩ (news_off N))
theorem iter_rng {r : Addr} {a b c : Int} {t u v : Tok} {n : Int} {news : Led} {Q : Value → Shared → Prop} (hr : IsRange s.heap r a b c t u v) (hs : Builtin.Range.small a b c = true) (hn : Builtin.Range.rangeSize a b c = n) (F : Fr h₀ L s.heap m) (N : News h₀ L s.heap news)
    (h : ∀ I h', Fr h₀ L h' m → News h₀ L h' ((I, ritO a n c) :: news) → (∀ p ∈ news, p.1 < I) → Q (.ref I) { s with heap := h' }) : wpAny (model prog w) A (pyIter (.ref r)) Q E s :=
  wpAny_pyIter_range hr hs (by rw [hn]; exact h _ _ (F.push _) (N.push F _) (news_off N))
theorem iter_rit {x left c : Int} {Q : Value → Shared → Prop} (N : News h₀ L s.heap news) (hm : (I, ritO x left c) ∈ news) (h : Q (.ref I) s) : wpAny (model prog w) A (pyIter (.ref I)) Q E s :=
  wpAny_pyIter_rangeiter (N _ hm).1 h
end

section
variable {prog : Program} {w : World} {A : Around} {E : Value → Shared → Prop} {s : Shared} {env : Env} {target iter : Expr} {body : List Stmt} {Q : Flow → Shared → Prop}
/-- the rest of a for loop, from its iterator on -/
noncomputable def ForGo (prog : Program) (w : World) (A : Around) (E : Value → Shared → Prop) (env : Env) (target : Expr) (it : Value) (body : List Stmt) (Q : Flow → Shared → Prop) (s : Shared) : Prop :=
  codeAny (model prog w) A (.forLoop target it body [] env) (fun r s' => match r with | .ok f => Q f s' | .error e => cameBackBy (model prog w) A env E e s') s
noncomputable def ForPost (prog : Program) (w : World) (A : Around) (E : Value → Shared → Prop) (env : Env) (target : Expr) (it : Value) (body : List Stmt) (Q : Flow → Shared → Prop) (f : Flow) (s : Shared) : Prop :=
  match f with
  | .next => ForGo prog w A E env target it body Q s
  | .cont => ForGo prog w A E env target it body Q s
  | .brk => Q .next s
  | .ret v => Q (.ret v) s
noncomputable def ForNext (prog : Program) (w : World) (A : Around) (E E' : Value → Shared → Prop) (env : Env) (target : Expr) (it : Value) (body : List Stmt) (Q : Flow → Shared → Prop) (r : Option Value) (s : Shared) : Prop :=
  match r with
  | none => Q .next s
  | some v => wpAny (model prog w) A (letOwnedTupleGo target it v) (fun _ s₀ => wpAny (model prog w) A (assign target env v) (fun _ s₂ => wpAny (model prog w) A (execs body env) (ForPost prog w A E env target it body Q) E' s₂) E' s₀) E' s
theorem for_start {pos : Pos} (h : wpAny (model prog w) A (eval iter env) (fun xv s₁ => wpAny (model prog w) A (pyIter xv) (fun it s₂ => ForGo prog w A E env target it body Q s₂) E s₁) E s)
    (hs : ∀ x, foldedSetIterable iter env x = pure x := by intro _; rfl) : wpAny (model prog w) A (exec (.For target iter body [] pos) env) Q E s :=
  wpAny_For h hs
theorem for_step {it : Value} (h : ∀ E', wpAny (model prog w) A (pyNext it) (ForNext prog w A E E' env target it body Q) E' s) : ForGo prog w A E env target it body Q s := by
  refine codeAny_of_tree ?_
  show wpAny _ A ((forTurn target it body [] env).onRaise (fun x => do noteFrame x env; theTreesLotGoes x)) _ _ s
  refine wpAny_noted ?_
  simp only [forTurn]
  refine wpAny_bind (wpAny_standAt (wpAny_bind (wpAny_onRaise (wpAny_mono (h _) (fun r s₁ h₁ => ?_) fun _ _ h' => wpAny_standAt h'))))
  cases r with
  | none => exact wpAny_pure ⟨rfl, codeAny_block (wpAny_execs_nil h₁)⟩
  | some v =>
    refine wpAny_bind (wpAny_mono h₁ (fun _ s₀ h₀ => ?_) fun _ _ h' => h')
    refine wpAny_bind (wpAny_mono h₀ (fun _ s₂ h₂ => wpAny_bind (wpAny_mono h₂ (fun f s₃ h₃ => ?_) fun _ _ h' => h')) fun _ _ h' => h')
    cases f with
    | next => exact wpAny_pure ⟨rfl, h₃⟩
    | cont => exact wpAny_pure ⟨rfl, h₃⟩
    | brk => exact wpAny_pure h₃
    | ret v => exact wpAny_pure h₃
theorem for_name {E' : Value → Shared → Prop} {x : Str} {px : Pos} {it v : Value}
    (h : wpAny (model prog w) A (storeName env x v) (fun _ s₂ => wpAny (model prog w) A (execs body env) (ForPost prog w A E env (.Name x px) it body Q) E' s₂) E' s) :
    ForNext prog w A E E' env (.Name x px) it body Q (some v) s := wpAny_pure (wpAny_assign_Name h)
theorem for_done {E' : Value → Shared → Prop} {it : Value} (h : Q .next s) : ForNext prog w A E E' env target it body Q none s := h
end
end
section
inductive Pull (d : Addr) (o : Obj) : Led → Led → Prop
  | head {r : Led} : (∀ p ∈ r, p.1 ≠ d) → Pull d o ((d, o) :: r) r
  | tail {p : Addr × Obj} {r r' : Led} : p.1 ≠ d → Pull d o r r' → Pull d o (p :: r) (p :: r')
theorem Pull.has {d : Addr} {o : Obj} : ∀ {l l' : Led}, Pull d o l l' → ∀ p ∈ (d, o) :: l', p ∈ l
  | _, _, .head _, _, hp => hp
  | _, _, .tail _ h, p, hp => by
    rcases List.mem_cons.mp hp with rfl | hp
    · exact List.mem_cons_of_mem _ (h.has _ List.mem_cons_self)
    · rcases List.mem_cons.mp hp with rfl | hp
      · exact List.mem_cons_self
      · exact List.mem_cons_of_mem _ (h.has _ (List.mem_cons_of_mem _ hp))
theorem Pull.off {d : Addr} {o : Obj} : ∀ {l l' : Led}, Pull d o l l' → ∀ p ∈ l', p.1 ≠ d
  | _, _, .head h, p, hp => h p hp
  | _, _, .tail e h, p, hp => by
    rcases List.mem_cons.mp hp with rfl | hp
    · exact e
    · exact h.off p hp
theorem Pull.news {d : Addr} {o : Obj} {l l' : Led} {h₀ h : Heap} {L : Addr} (N : News h₀ L h l) (P : Pull d o l l') : News h₀ L h ((d, o) :: l') := fun p hp => N p (P.has p hp)
end

section
section
variable {prog : Program} {w : World} {A : Around} {E E' : Value → Shared → Prop} {s : Shared} {env : Env} {target : Expr} {body : List Stmt} {h₀ : Heap} {L : Addr} {news : Led}
theorem for_tup {Q : Flow → Shared → Prop} {elts : List Expr} {k : Nat} {pos : Pos} {it v : Value}
    (h : wpAny (model prog w) A (letOwnedTupleGo (.Tuple elts k pos) it v) (fun _ s₀ => wpAny (model prog w) A (assign (.Tuple elts k pos) env v) (fun _ s₂ => wpAny (model prog w) A (execs body env) (ForPost prog w A E env (.Tuple elts k pos) it body Q) E' s₂) E' s₀) E' s) :
    ForNext prog w A E E' env (.Tuple elts k pos) it body Q (some v) s := h
theorem let_lit {elts : List Expr} {k i : Nat} {pos : Pos} {I l T : Addr} {o : Obj} {Q : Unit → Shared → Prop} (N : News h₀ L s.heap news) (hm : (I, o) ∈ news) (ho : IsLit o l i) (h : Q () s) :
    wpAny (model prog w) A (letOwnedTupleGo (.Tuple elts k pos) (.ref I) (.ref T)) Q E s := wpAny_letOwnedTupleGo_listiter ⟨o, News.get N hm, ho⟩ h
theorem tup_at {value slice : Expr} {a : Addr} {its : List Value} {n : Nat} {k : Int} {u : Tok} {v : Value} {Q : Value → Shared → Prop} (N : News h₀ L s.heap news) (hm : (a, tupOf its n) ∈ news)
    (h0 : 0 ≤ k) (h1 : k < 2 ^ 63) (hx : its[k.toNat]? = some v) (h : Q v s)
    (hs : subscripted slice false (.ref a) (.int k u) = operate [.ref a, .int k u] (getItem (.ref a) (.int k u)) := by with_unfolding_all rfl) :
    wpAny (model prog w) A (subscriptTail value slice (.ref a) (.int k u)) Q E s :=
  item_tupleT (j := k.toNat) ⟨_, News.get N hm, rfl, _, rfl⟩ (by omega) h1 (by
    have hl : k.toNat < its.length := by
      rcases Nat.lt_or_ge k.toNat its.length with h | h
      · exact h
      · rw [List.getElem?_eq_none h] at hx; cases hx
    unfold seqIndex?
    have e1 : (if k < 0 then k + (its.length : Int) else k) = k := if_neg (by omega)
    dsimp only
    rw [e1, if_pos (by simp only [Bool.and_eq_true, decide_eq_true_eq]; omega)]) hx h hs
end
end

section
/-- the class of the text -/
structure ClsAt (K : Frag) (C fi fc : Addr) : Prop where
  name : nsIn K mainGlobals (Str.ofString "TupleComp") = some (some (.ref C))
  keep : keepIn K (.ref C) = true
  makes : makesIn K C = true
  init : findIn K (.ref C) (Str.ofString "__init__") = some (some (.ref fi))
  initFn : isFn K (.ref fi) = true
  initIs : FunIs K (nth (sB (top 11)) 0) (Str.ofString "TupleComp.__init__") fi .none .none
  cmp : findIn K (.ref C) (Str.ofString "compare") = some (some (.ref fc))
  cmpFn : isFn K (.ref fc) = true
  cmpKeep : keepIn K (.ref fc) = true
  cmpIs : FunIs K (nth (sB (top 11)) 1) (Str.ofString "TupleComp.compare") fc .none .none
  plainC : plainGet K C (Str.ofString "compare") = true
  plainL : plainGet K C (Str.ofString "comp_select_list") = true
  hasD : hasDictIn K C = true
  over : plainOver K C = true
  taker : takerIn K C (Str.ofString "comp_select_list") = some none
  setter : findIn K (.ref C) (Str.ofString "__setattr__") = some (some (.builtin "object.__setattr__"))
  own : findIn K (.ref C) (Str.ofString "comp_select_list") = some none
end
end Loop_part
section Rev_part
open PySem PySem.W PyProof.Rows
section
theorem sub_rit_reversed : isSubtype (.type "range_iterator") (.type "reversed") = pure false := by rw [isSubtype_type]; kernel_rfl
section
variable {prog : Program} {w : World} {A : Around} {E : Value → Shared → Prop} {s : Shared} {h₀ : Heap} {L I : Addr} {m : Str → Option Value} {news : Led}
theorem call_range_reversed {r : Addr} {a b c : Int} {t u v : Tok} {Q : Value → Shared → Prop} (hr : IsRange s.heap r a b c t u v)
    (hs : (Builtin.Range.rangeFitsLong a && Builtin.Range.rangeFitsLong b && Builtin.Range.rangeFitsLong c && Builtin.Range.rangeFitsLong (-c) && Builtin.Range.rangeFitsLong (a - c) && Builtin.Range.rangeFitsLong (Builtin.Range.rangeSize a b c)) = true)
    (h : Q (.ref s.heap.objs.size) { s with heap := s.heap.push (ritO (a + (Builtin.Range.rangeSize a b c - 1) * c) (Builtin.Range.rangeSize a b c) (-c)) }) : wpAny (model prog w) A (call (.builtin "range.__reversed__") [.ref r]) Q E s := by
  have hT : s.TypeIs (.ref r) "range" := ⟨_, hr, rfl⟩
  refine wpAny_call_entry PySem.F.slot_range_reversed hT PySem.F.entry_range_reversed ?_ (PySem.F.args_range_reversed_1 _)
  unfold Builtin.«range.__reversed__»
  refine wpAny_bind (wpAny_of_eq (a := Value.ref r) rfl ?_)
  unfold Builtin.Range.rangeFields
  refine wpAny_bind (wpAny_bind (wpAny_field hr rfl (x := .int a t) rfl (wpAny_bind (wpAny_of_eq (a := some a) rfl ?_))))
  refine wpAny_bind (wpAny_field hr rfl (x := .int b u) rfl (wpAny_bind (wpAny_of_eq (a := some b) rfl ?_)))
  refine wpAny_bind (wpAny_field hr rfl (x := .int c v) rfl (wpAny_bind (wpAny_of_eq (a := some c) rfl (wpAny_pure ?_))))
  dsimp only
  simp only [hs, Bool.not_true, Bool.false_eq_true, if_false, if_true]
  exact wpAny_bind (wpAny_newObj_type (wpAny_pure ⟨_, rfl, h⟩))
theorem code_range_reversed {r : Addr} {a b c : Int} {t u v : Tok} {Q₁ : Value → Shared → Prop} (hr : IsRange s.heap r a b c t u v)
    (hs : (Builtin.Range.rangeFitsLong a && Builtin.Range.rangeFitsLong b && Builtin.Range.rangeFitsLong c && Builtin.Range.rangeFitsLong (-c) && Builtin.Range.rangeFitsLong (a - c) && Builtin.Range.rangeFitsLong (Builtin.Range.rangeSize a b c)) = true)
    (h : Q₁ (.ref s.heap.objs.size) { s with heap := s.heap.push (ritO (a + (Builtin.Range.rangeSize a b c - 1) * c) (Builtin.Range.rangeSize a b c) (-c)) }) :
    codeAny (model prog w) A (.call (.builtin "reversed.__new__") ⟨[.type "reversed", .ref r], []⟩) (wants Q₁ E) s := by
  have hT : s.TypeIs (.ref r) "range" := ⟨_, hr, rfl⟩
  refine codeAny_of_tree ?_
  show wpAny _ A.in1 (do checkBuiltinCall "reversed.__new__" ⟨[.type "reversed", .ref r], []⟩; again (.builtin "reversed.__new__" ⟨[.type "reversed", .ref r], []⟩)) _ _ s
  refine wpAny_bind (wpAny_of_eq (PySem.F.newCall_reversed_1 _) (wpAny_pure ⟨plainId_quiet PySem.F.plain_reversed_new _, codeAny_builtin PySem.F.entry_reversed_new ?_⟩))
  rw [Around.under_plainId PySem.F.plain_reversed_new _]
  unfold Builtin.«reversed.__new__»
  refine wpAny_bind (wpAny_of_eq (newClass_reversed _) ?_)
  try dsimp only
  refine wpAny_bind (wpAny_of_eq (a := ()) (by first | rfl | kernel_rfl) ?_)
  refine wpAny_bind (wpAny_of_eq (a := ()) (by first | rfl | kernel_rfl) ?_)
  try dsimp only
  refine wpAny_bind (wpAny_specialOf hT PySem.F.slot_range_reversed.lookup ?_)
  try dsimp only
  refine wpAny_bind (wpAny_of_eq (PySem.F.slot_range_reversed.bind _) ?_)
  try dsimp only
  first
  | rw [if_neg (show ¬ ((Value.builtin "range.__reversed__" == Value.none) = true) from Bool.false_ne_true)]
  | (show wpAny _ _ (if (Value.builtin "range.__reversed__" == Value.none) = true then _ else _) _ _ _; rw [if_neg (show ¬ ((Value.builtin "range.__reversed__" == Value.none) = true) from Bool.false_ne_true)])
  refine wpAny_bind (wpAny_rule ?_)
  refine wpAny_bind (m := runValue (.call (.builtin "range.__reversed__") ⟨[.ref r], []⟩)) (show wpAny _ _ (call (.builtin "range.__reversed__") [.ref r]) _ _ _ from call_range_reversed hr hs ?_)
  first
  | exact wpAny_pure h
  | exact wpAny_bind (wpAny_pure (wpAny_pure h))
theorem rev_rng {r : Addr} {a b c n : Int} {t u v : Tok} {Q : Value → Shared → Prop} (F : Fr h₀ L s.heap m) (N : News h₀ L s.heap news) (hr : IsRange s.heap r a b c t u v)
    (hn : Builtin.Range.rangeSize a b c = n) (hs : (Builtin.Range.rangeFitsLong a && Builtin.Range.rangeFitsLong b && Builtin.Range.rangeFitsLong c && Builtin.Range.rangeFitsLong (-c) && Builtin.Range.rangeFitsLong (a - c) && Builtin.Range.rangeFitsLong n) = true)
    (h : ∀ I h', Fr h₀ L h' m → News h₀ L h' ((I, ritO (a + (n - 1) * c) n (-c)) :: news) → (∀ p ∈ news, p.1 < I) → Q (.ref I) { s with heap := h' }) : wpAny (model prog w) A (call (.type "reversed") [.ref r]) Q E s := by
  subst hn
  refine callType_other (U := "range_iterator") (Q₁ := fun obj s₁ => obj = .ref s.heap.objs.size ∧ s₁ = { s with heap := s.heap.push (ritO (a + (Builtin.Range.rangeSize a b c - 1) * c) (Builtin.Range.rangeSize a b c) (-c)) }) (by decide +kernel) PySem.F.create_reversed ⟨_, _, PySem.F.mro_reversed⟩ PySem.F.made_reversed sub_rit_reversed (PySem.F.typeCall_reversed_1 _) (code_range_reversed hr hs ⟨rfl, rfl⟩) ?_
  rintro obj s₁ ⟨rfl, rfl⟩
  exact ⟨⟨_, Heap.get?_push_size _ rfl, rfl⟩, h _ _ (F.push _) (N.push F _) (news_off N)⟩
end
end
end Rev_part
section Dic_part
open PySem PySem.W PyProof.Rows
section
open PyProof.V in
/-- a dict of the ledger: its pairs -/
noncomputable def DI (prog : Program) (w : World) (news : Led) (d : Addr) (kvs : List (Str × Value)) : Prop :=
  ∃ (o : Obj) (D : List (PyData × PyData)), (d, o) ∈ news ∧ o.IsDictOf (strKind prog w) kvs ∧ FlatPairs PyData.str kvs D ∧ (d == sysModules) = false
theorem DI.mono {prog : Program} {w : World} {news news' : Led} {d : Addr} {kvs : List (Str × Value)} (h : DI prog w news d kvs) (hs : ∀ p ∈ news, p ∈ news') : DI prog w news' d kvs :=
  let ⟨o, D, a, b, c, e⟩ := h; ⟨o, D, hs _ a, b, c, e⟩
end

section
abbrev ivO (d : Addr) : Obj := { cls := .type "dict_items", data := .fields #[.ref d] }
abbrev iitO (t : Value) (d : Addr) (i n ep : Nat) (ok ov : Value) : Obj := { cls := .type "dict_itemiterator", data := .fields #[t, .bool false, .ref d, .int i 0, .int n 0, .int ep 0, ok, ov] }
section
variable {prog : Program} {w : World} {A : Around} {E : Value → Shared → Prop} {s : Shared} {h₀ : Heap} {L I d V : Addr} {m : Str → Option Value} {news news' : Led} {g : Obj → Led} {o : Obj} {kvs : List (Str × Value)}
theorem items_call {Q : Value → Shared → Prop} (F : Fr h₀ L s.heap m) (N : News h₀ L s.heap news) (hm : (d, o) ∈ news) (hd : o.IsDictOf (strKind prog w) kvs) (lo : (d == sysModules) = false)
    (h : ∀ V h', Fr h₀ L h' m → News h₀ L h' ((V, ivO d) :: news) → (∀ p ∈ news, p.1 < V) → Q (.ref V) { s with heap := h' }) : wpAny (model prog w) A (call (.builtin "dict.items") [.ref d]) Q E s :=
  have hD := kda_dict N hm hd
  call_meetsIn PySem.F.slot_dict_items hD.typeIs PySem.F.entry_dict_items (PySem.F.args_dict_items_1 _) (meets_dict_items (strKind prog w) d lo) ⟨⟨kvs, hD⟩, h _ _ (F.push _) (N.push F _) (news_off N)⟩
theorem iter_items {Q : Value → Shared → Prop} (F : Fr h₀ L s.heap m) (N : News h₀ L s.heap news) (hV : (V, ivO d) ∈ news) (hm : (d, o) ∈ news) (hd : o.IsDictOf (strKind prog w) kvs)
    (h : ∀ I h' ep, Fr h₀ L h' m → News h₀ L h' ((I, iitO .none d 0 kvs.length ep .none .none) :: news) → KdkAt (strKind prog w) o kvs ep → (∀ p ∈ news, p.1 < I) → Q (.ref I) { s with heap := h' }) :
    wpAny (model prog w) A (pyIter (.ref V)) Q E s := by
  obtain ⟨ep, hat⟩ := KdkAt.of hd
  exact wpAny_pyIter_items ⟨_, (N _ hV).1, rfl, rfl⟩ (hat.dictAt (N _ hm).1) (h _ _ ep (F.push _) (N.push F _) hat (news_off N))
theorem next_items {i ep n : Nat} {k : Str} {v ok ov : Value} {Q : Option Value → Shared → Prop} (F : Fr h₀ L s.heap m) (N : News h₀ L s.heap news) (U : UpdF I (iitO .none d i n ep ok ov) news g) (hm : (d, o) ∈ news) (hat : KdkAt (strKind prog w) o kvs ep) (hn : kvs.length = n) (hx : kvs[i]? = some (k, v))
    (h : ∀ T h' t, Fr h₀ L h' m → News h₀ L h' ((T, tupOf [.str k t, v] 0) :: g (iitO (rawInt T) d (i + 1) n ep (.str k t) v)) → (∀ p ∈ news, p.1 < T) → Q (some (.ref T)) { s with heap := h' }) :
    wpAny (model prog w) A (pyNext (.ref I)) Q E s := by
  subst hn
  refine wpAny_pyNext_items_item (N _ (updF_has U)).1 (hat.dictAt (N _ hm).1) hx fun key h' hk hI hT hsz hs => ?_
  obtain ⟨t, rfl⟩ : ∃ t, key = .str k t := by
    cases key with
    | str x t => exact ⟨t, by have : x = k := by simpa [PySem.strKind, Value.isStrOf] using hk
                              rw [this]⟩
    | _ => simp [PySem.strKind, Value.isStrOf] at hk
  obtain ⟨pre, post, rfl, e, a, b⟩ := U.split
  have z := N (I, _) (List.mem_append.mpr (.inr List.mem_cons_self))
  have hI0 : ∀ b o, h₀.get? b = some o → b ≠ I := fun b o e q => by have := z.2.2; rw [← q, e] at this; cases this
  refine h s.heap.objs.size h' t ⟨F.ns.at' fun o e => hs _ _ (Ne.symm z.2.1) e, fun b o e => hs b o (hI0 b o e) (F.keep b o e), F.above⟩ ?_ (news_off N)
  rw [e]
  intro p hp
  rcases List.mem_cons.mp hp with rfl | hp
  · refine ⟨hT, Nat.ne_of_gt F.ns.lt, ?_⟩
    cases q : h₀.get? s.heap.objs.size with
    | none => rfl
    | some o' => exact absurd (Heap.lt_size (F.keep _ _ q)) (Nat.lt_irrefl _)
  · rcases List.mem_append.mp hp with hp | hp
    · have y := N p (List.mem_append.mpr (.inl hp))
      exact ⟨hs _ _ (a p hp) y.1, y.2⟩
    · rcases List.mem_cons.mp hp with rfl | hp
      · exact ⟨hI, z.2⟩
      · have y := N p (List.mem_append.mpr (.inr (List.mem_cons_of_mem _ hp)))
        exact ⟨hs _ _ (b p hp) y.1, y.2⟩
theorem let_items {elts : List Expr} {kk : Nat} {pos : Pos} {i n ep : Nat} {ok ov : Value} {T : Addr} {Q : Unit → Shared → Prop} (F : Fr h₀ L s.heap m) (N : News h₀ L s.heap news) (U : Upd I (iitO (rawInt T) d i n ep ok ov) (iitO .none d i n ep ok ov) news news')
    (h : ∀ h', Fr h₀ L h' m → News h₀ L h' news' → Q () { s with heap := h' }) : wpAny (model prog w) A (letOwnedTupleGo (.Tuple elts kk pos) (.ref I) (.ref T)) Q E s :=
  wpAny_letOwnedTupleGo_items (N _ (upd_has U)).1 fun h' hi hs => let ⟨F', N'⟩ := led_change F N U hs hi; h h' F' N'
theorem next_items_end {i ep n : Nat} {ok ov : Value} {Q : Option Value → Shared → Prop} (hh : A.handled = none) (F : Fr h₀ L s.heap m) (N : News h₀ L s.heap news) (hI : (I, iitO .none d i n ep ok ov) ∈ news) (D : Del I news news') (hm : (d, o) ∈ news) (hat : KdkAt (strKind prog w) o kvs ep) (hn : kvs.length = n) (hx : kvs[i]? = none)
    (h : ∀ h', Fr h₀ L h' m → News h₀ L h' news' → Q none { s with heap := h' }) : wpAny (model prog w) A (pyNext (.ref I)) Q E s := by
  subst hn
  exact wpAny_pyNext_items_end hh (N _ hI).1 (hat.dictAt (N _ hm).1) hx fun h' hs => let ⟨F', N'⟩ := led_end F N D hs; h h' F' N'
end
end

section
open PyProof.V in
/-- what a call makes lies above what stood; r is what it hands back -/
theorem new_dict {prog : Program} {w : World} {h₀ h' : Heap} {L d : Addr} {tk : Nat} {m : Str → Option Value} {news all : Led} {o : Obj} {D : List (PyData × PyData)} {kvs : List (Str × Value)} {P : Value → Led → Prop} {Q : Value → Shared → Prop} {s : Shared}
    (hret : ∀ r news' h' tk', Fr h₀ L h' m → News h₀ L h' news' → P r news' → Q r { s with heap := h', toks := tk' }) (F : Fr h₀ L h' m) (N : News h₀ L h' all) (hm : (d, o) ∈ all) (hs : ∀ p ∈ news, p ∈ all) (hlt : ∀ p ∈ news, p.1 < d)
    (hd : o.IsDictOf (PySem.strKind prog w) kvs) (hf : FlatPairs PyData.str kvs D) (lo : (d == sysModules) = false)
    (k : ∀ new, (∀ q ∈ news, ∀ p ∈ new, q.1 < p.1) → DI prog w new d kvs → P (.ref d) (new ++ news)) : Q (.ref d) { s with heap := h', toks := tk } := by
  refine hret (.ref d) ([(d, o)] ++ news) h' tk F (fun p hp => ?_) (k [(d, o)] ?_ ⟨o, D, List.mem_cons_self, hd, hf, lo⟩)
  · rcases List.mem_append.mp hp with hp | hp
    · rw [List.mem_singleton.mp hp]; exact N _ hm
    · exact N _ (hs p hp)
  · intro q hq p hp
    rw [List.mem_singleton.mp hp]
    exact hlt q hq
end

section
theorem DI.cons {prog : Program} {w : World} {news : Led} {p : Addr × Obj} {d : Addr} {kvs : List (Str × Value)} (h : DI prog w news d kvs) : DI prog w (p :: news) d kvs := h.mono fun _ hm => List.mem_cons_of_mem _ hm
theorem DI.appL {prog : Program} {w : World} {new news : Led} {d : Addr} {kvs : List (Str × Value)} (h : DI prog w news d kvs) : DI prog w (new ++ news) d kvs := h.mono fun _ hm => List.mem_append.mpr (.inr hm)
theorem above_cons {news new : Led} {T : Addr} {o : Obj} (l1 : ∀ p ∈ new ++ news, p.1 < T) (lt : ∀ q ∈ news, ∀ p ∈ new, q.1 < p.1) : ∀ q ∈ news, ∀ p ∈ (T, o) :: new, q.1 < p.1 := by
  intro q hq p hp
  rcases List.mem_cons.mp hp with rfl | hp
  · exact l1 q (List.mem_append.mpr (.inr hq))
  · exact lt q hq p hp
end
section
theorem above1 {news : Led} {a : Addr} {o : Obj} (h : ∀ q ∈ news, q.1 < a) : ∀ q ∈ news, ∀ p ∈ [(a, o)], q.1 < p.1 := by
  intro q hq p hp
  rw [List.mem_singleton.mp hp]
  exact h q hq
theorem above2 {news new : Led} {a : Addr} {o : Obj} (h : ∀ q ∈ news, q.1 < a) (k : ∀ q ∈ news, ∀ p ∈ new, q.1 < p.1) : ∀ q ∈ news, ∀ p ∈ (a, o) :: new, q.1 < p.1 := by
  intro q hq p hp
  rcases List.mem_cons.mp hp with rfl | hp
  · exact h q hq
  · exact k q hq p hp
theorem close_new {h₀ h' : Heap} {L : Addr} {tk : Nat} {m : Str → Option Value} {news all new : Led} {P : Value → Led → Prop} {Q : Value → Shared → Prop} {s : Shared} {r : Value}
    (hret : ∀ r news' h' tk', Fr h₀ L h' m → News h₀ L h' news' → P r news' → Q r { s with heap := h', toks := tk' }) (F : Fr h₀ L h' m) (N : News h₀ L h' all) (hP : P r (new ++ news))
    (hn : ∀ p ∈ new, p ∈ all) (hs : ∀ p ∈ news, p ∈ all) : Q r { s with heap := h', toks := tk } :=
  hret r (new ++ news) h' tk F (fun p hp => N p ((List.mem_append.mp hp).elim (hn p) (hs p))) hP
end
end Dic_part
section Bis_part
open PySem PySem.W PyProof.Rows
section
/-- a def with defaults: how its arguments are bound, in two shapes of a call -/
noncomputable def FunB (K : Frag) (st : Stmt) (q : Str) (f : Addr) : Prop :=
  ∃ (oc : Value) (od : Option Addr) (osl : Array (Option Value)) (pm doc cdv ct dV kV : Value) (an : Option Addr) (z : Tok),
    K.lookup f = some ⟨oc, od, .func (fnOf (sN st) q (sA st) (sB st) (sS st) dV kV doc pm an cdv ct), osl⟩ ∧ codeIn K cdv q = true ∧
    (∀ S a x, peek K S (bindArgs (fnOf (sN st) q (sA st) (sB st) (sS st) dV kV doc pm an cdv ct) ⟨[a, x], []⟩) = some [(Str.ofString "a", a), (Str.ofString "x", x), (Str.ofString "lo", .int 0 z), (Str.ofString "hi", .none), (Str.ofString "key", .none)]) ∧
    (∀ S a x l h, peek K S (bindArgs (fnOf (sN st) q (sA st) (sB st) (sS st) dV kV doc pm an cdv ct) ⟨[a, x, l, h], []⟩) = some [(Str.ofString "a", a), (Str.ofString "x", x), (Str.ofString "lo", l), (Str.ofString "hi", h), (Str.ofString "key", .none)])
structure FunBAt (K : Frag) (i : Nat) (f : Addr) : Prop where
  is : FunB K (top i) (sN (top i)) f
  keep : keepIn K (.ref f) = true
  name : nsIn K mainGlobals (sN (top i)) = some (some (.ref f))
theorem int_at {prog : Program} {w : World} {A : Around} {E : Value → Shared → Prop} {s : Shared} {h₀ : Heap} {L : Addr} {news : Led} {value slice : Expr} {l : Addr} {vs : List Value} {ns : List Int} {n : Nat} {k : Int} {u : Tok} {Q : Value → Shared → Prop}
    (N : News h₀ L s.heap news) (hm : (l, listOf vs.toArray n) ∈ news) (hi : IntsAre vs ns) (h0 : 0 ≤ k ∧ k < ns.length) (hl : ns.length < 2 ^ 62) (h : ∀ t, Q (.int (ns.getD k.toNat 0) t) s)
    (hs : subscripted slice false (.ref l) (.int k u) = operate [.ref l, .int k u] (getItem (.ref l) (.int k u)) := by with_unfolding_all rfl) :
    wpAny (model prog w) A (subscriptTail value slice (.ref l) (.int k u)) Q E s :=
  item_anyK ⟨_, News.get N hm, rfl, _, rfl⟩ hi h0.1 h0.2 (by omega) h hs
theorem mid_in {lo hi c n : Int} (h : 0 ≤ lo ∧ lo ≤ c ∧ c ≤ hi ∧ hi ≤ n) (hlt : lo < hi) : 0 ≤ Int.fdiv (lo + hi) 2 ∧ Int.fdiv (lo + hi) 2 < n := by
  rw [Int.fdiv_eq_ediv_of_nonneg _ (by decide)]; omega
theorem mid_lt {lo hi c n : Int} (h : 0 ≤ lo ∧ lo ≤ c ∧ c ≤ hi ∧ hi ≤ n) (hlt : lo < hi) : lo ≤ Int.fdiv (lo + hi) 2 ∧ Int.fdiv (lo + hi) 2 < hi := by
  rw [Int.fdiv_eq_ediv_of_nonneg _ (by decide)]; omega
end
section
/-- a word for a while over two ints of the frame -/
noncomputable def WW2 (_nlo _nhi : Str) (_stored : List Str) (_news : Led) (_P : Int → Int → Prop) (_μ : Int → Int → Nat) : Prop := True
noncomputable def W2End (h₀ : Heap) (L : Addr) (s : Shared) (nlo nhi : Str) (stored : List Str) (news : Led) (m₀ : Str → Option Value) (P : Int → Int → Prop) (μ : Int → Int → Nat) (n : Nat) (s₂ : Shared) : Prop :=
  ∃ (a b : Int) (ta tb : Tok) (h' : Heap) (tk : Nat) (m' : Str → Option Value), s₂ = { s with heap := h', toks := tk } ∧ Fr h₀ L h' m' ∧ News h₀ L h' news ∧ m' nlo = some (.int a ta) ∧ m' nhi = some (.int b tb) ∧
    (∀ z, z ≠ nlo → z ≠ nhi → stored.contains z = false → m' z = m₀ z) ∧ P a b ∧ μ a b < n
noncomputable def W2Post (h₀ : Heap) (L : Addr) (s : Shared) (nlo nhi : Str) (stored : List Str) (news : Led) (m₀ : Str → Option Value) (P : Int → Int → Prop) (μ : Int → Int → Nat) (Q : Flow → Shared → Prop) (n : Nat) (f : Flow) (s₂ : Shared) : Prop :=
  match f with
  | .ret v => Q (.ret v) s₂
  | .brk => Q .next s₂
  | _ => W2End h₀ L s nlo nhi stored news m₀ P μ n s₂
theorem w2_end {h₀ : Heap} {L : Addr} {s : Shared} {nlo nhi : Str} {stored : List Str} {news : Led} {m₀ m' : Str → Option Value} {P : Int → Int → Prop} {μ : Int → Int → Nat} {n : Nat} {a b : Int} {ta tb : Tok} {h' : Heap} {tk : Nat}
    (F : Fr h₀ L h' m') (N : News h₀ L h' news) (ha : m' nlo = some (.int a ta)) (hb : m' nhi = some (.int b tb)) (hr : ∀ z, z ≠ nlo → z ≠ nhi → stored.contains z = false → m' z = m₀ z) (hp : P a b) (hm : μ a b < n) :
    W2End h₀ L s nlo nhi stored news m₀ P μ n { s with heap := h', toks := tk } := ⟨a, b, ta, tb, h', tk, m', rfl, F, N, ha, hb, hr, hp, hm⟩
section
variable {prog : Program} {w : World} {A : Around} {E : Value → Shared → Prop} {s : Shared} {env : Env} {h₀ : Heap} {L : Addr}
theorem while2 {test : Expr} {body : List Stmt} {pos : Pos} {Q : Flow → Shared → Prop} {nlo nhi : Str} {stored : List Str} {news : Led} {m₀ : Str → Option Value} {P : Int → Int → Prop} {μ : Int → Int → Nat} {a b : Int} {ta tb : Tok}
    (_hW : WW2 nlo nhi stored news P μ) (F : Fr h₀ L s.heap m₀) (N : News h₀ L s.heap news) (ha : m₀ nlo = some (.int a ta)) (hb : m₀ nhi = some (.int b tb)) (hp : P a b)
    (turn : ∀ (a b : Int) (ta tb : Tok) (u : Str → Option Value) h tk, P a b → Fr h₀ L h (fun z => if z = nlo then some (.int a ta) else if z = nhi then some (.int b tb) else if stored.contains z then u z else m₀ z) → News h₀ L h news →
      wpAny (model prog w) A (isTrue test env (eval test env)) (fun bb s₂ =>
        if bb = true then wpAny (model prog w) A (execs body env) (W2Post h₀ L s nlo nhi stored news m₀ P μ Q (μ a b)) E s₂ else Q .next s₂) E { s with heap := h, toks := tk })
    (hE : PassesOwn (model prog w) A env E := by passes_own) :
    wpAny (model prog w) A (exec (.While test body [] pos) env) Q E s := by
  refine While_inv2 (fun n m nx => ∃ (a b : Int) (ta tb : Tok), nx = news ∧ μ a b = n ∧ m nlo = some (.int a ta) ∧ m nhi = some (.int b tb) ∧ (∀ z, z ≠ nlo → z ≠ nhi → stored.contains z = false → m z = m₀ z) ∧ P a b) F N ⟨a, b, ta, tb, rfl, rfl, ha, hb, fun _ _ _ _ => rfl, hp⟩ ?_ hE
  rintro n m₁ nx h tk F₁ N₁ ⟨a, b, ta, tb, rfl, rfl, h1, h2, h3, hp'⟩
  have em : (fun z => if z = nlo then some (Value.int a ta) else if z = nhi then some (Value.int b tb) else if stored.contains z then m₁ z else m₀ z) = m₁ := by
    funext z
    by_cases e1 : z = nlo
    · rw [if_pos e1, e1]; exact h1.symm
    · rw [if_neg e1]
      by_cases e2 : z = nhi
      · rw [if_pos e2, e2]; exact h2.symm
      · rw [if_neg e2]
        cases e3 : stored.contains z with
        | true => simp
        | false => simp only [Bool.false_eq_true, if_false]; exact (h3 z e1 e2 e3).symm
  refine wpAny_mono (turn a b ta tb m₁ h tk hp' (by rw [em]; exact F₁) N₁) (fun bb s₂ p => ?_) fun _ _ x => x
  cases bb with
  | false => simpa using p
  | true =>
    simp only [if_true] at p ⊢
    refine wpAny_mono p (fun f s₃ q => ?_) fun _ _ x => x
    cases f with
    | ret v => exact q
    | brk => exact q
    | next =>
      obtain ⟨a', b', ta', tb', h', tk', m', rfl, F', N', ha', hb', hr', hp', hm'⟩ := q
      exact ⟨h', tk', m', nx, μ a' b', rfl, F', N', hm', a', b', ta', tb', rfl, rfl, ha', hb', hr', hp'⟩
    | cont =>
      obtain ⟨a', b', ta', tb', h', tk', m', rfl, F', N', ha', hb', hr', hp', hm'⟩ := q
      exact ⟨h', tk', m', nx, μ a' b', rfl, F', N', hm', a', b', ta', tb', rfl, rfl, ha', hb', hr', hp'⟩
end
end
section
section
variable {ns : List Int} {x c k : Int}
theorem br_hi (hcnt : ∀ k : Int, 0 ≤ k → k < ns.length → (ns.getD k.toNat 0 ≤ x ↔ k < c)) (h : 0 ≤ k ∧ k < ns.length) (q : x < ns.getD k.toNat 0) : c ≤ k := by
  have := hcnt k h.1 h.2; omega
theorem br_lo (hcnt : ∀ k : Int, 0 ≤ k → k < ns.length → (ns.getD k.toNat 0 ≤ x ↔ k < c)) (h : 0 ≤ k ∧ k < ns.length) (q : ¬ x < ns.getD k.toNat 0) : k + 1 ≤ c := by
  have := hcnt k h.1 h.2; omega
theorem bl_hi (hcnt : ∀ k : Int, 0 ≤ k → k < ns.length → (ns.getD k.toNat 0 < x ↔ k < c)) (h : 0 ≤ k ∧ k < ns.length) (q : ¬ ns.getD k.toNat 0 < x) : c ≤ k := by
  have := hcnt k h.1 h.2; omega
theorem bl_lo (hcnt : ∀ k : Int, 0 ≤ k → k < ns.length → (ns.getD k.toNat 0 < x ↔ k < c)) (h : 0 ≤ k ∧ k < ns.length) (q : ns.getD k.toNat 0 < x) : k + 1 ≤ c := by
  have := hcnt k h.1 h.2; omega
end
end
section
theorem ints_split {vs : List Value} {ns : List Int} (hi : IntsAre vs ns) : ∀ k, IntsAre (vs.take k) (ns.take k) ∧ IntsAre (vs.drop k) (ns.drop k) := by
  induction hi with
  | nil => intro k; simp only [List.take_nil, List.drop_nil]; exact ⟨.nil, .nil⟩
  | cons i t r ih =>
    intro k
    cases k with
    | zero => exact ⟨.nil, .cons i t r⟩
    | succ k => exact ⟨.cons i t (ih k).1, (ih k).2⟩
theorem ints_app {vs us : List Value} {ns ms : List Int} (hi : IntsAre vs ns) (hu : IntsAre us ms) : IntsAre (vs ++ us) (ns ++ ms) := by
  induction hi with
  | nil => exact hu
  | cons i t r ih => exact .cons i t ih
section
variable {prog : Program} {w : World} {A : Around} {E : Value → Shared → Prop} {s : Shared} {h₀ : Heap} {L l : Addr} {m : Str → Option Value} {rest : Led} {n : Nat}
theorem ins_K {vs : List Value} {ns : List Int} {k y : Int} {u t : Tok} {Q : Value → Shared → Prop} (F : Fr h₀ L s.heap m) (N : News h₀ L s.heap ((l, listOf vs.toArray n) :: rest)) (off : ∀ p ∈ rest, p.1 ≠ l) (hi : IntsAre vs ns)
    (hk : 0 ≤ k ∧ k ≤ ns.length) (hz : ns.length < 1000000)
    (h : ∀ h' vs', Fr h₀ L h' m → News h₀ L h' ((l, listOf vs'.toArray (n + 1)) :: rest) → IntsAre vs' (ns.take k.toNat ++ y :: ns.drop k.toNat) → Q .none { s with heap := h' }) :
    wpAny (model prog w) A (call (.builtin "list.insert") [.ref l, .int k u, .int y t]) Q E s := by
  have hl := (N _ List.mem_cons_self).1
  have e0 := hi.length
  refine call_meets PySem.F.slot_list_insert ⟨_, hl, rfl⟩ PySem.F.entry_list_insert (PySem.F.args_list_insert_3 _ _ _) (PySem.AutoListH.list_insert_list_int_val_1 l vs.toArray n k u (.int y t) ?_ ?_) ⟨hl, ?_⟩
  · simp only [Builtin.List.listFitsIndex]
    simp
    omega
  · rw [List.size_toArray, sizeLine_eq]; omega
  · have hk' : k.toNat ≤ vs.length := by omega
    have z := news_upd (pre := []) (f := Obj.mapSeq fun xs => have k := if k < 0 then (k + ((xs.size : Nat) : Int)).toNat else min k.toNat xs.size; (xs.extract 0 k).push (Value.int y t) ++ xs.extract k) F N (fun _ h => nomatch h) off (o' := listOf ((vs.take k.toNat ++ Value.int y t :: vs.drop k.toNat)).toArray (n + 1)) ?_ rfl
    · exact h _ _ z.1 z.2 (ints_app (ints_split hi _).1 (.cons y t (ints_split hi _).2))
    · have e1 : (if k < 0 then (k + ((vs.toArray.size : Nat) : Int)).toNat else min k.toNat vs.toArray.size) = k.toNat := by
        rw [if_neg (by omega), List.size_toArray]; omega
      have ef : (fun xs : Array Value => have k := if k < 0 then (k + ((xs.size : Nat) : Int)).toNat else min k.toNat xs.size; (xs.extract 0 k).push (Value.int y t) ++ xs.extract k) vs.toArray = (vs.take k.toNat ++ Value.int y t :: vs.drop k.toNat).toArray := by
        dsimp only
        rw [e1]
        simp
        exact List.take_of_length_le (by rw [List.length_drop]; exact Nat.le_refl _)
      have es : ((vs.take k.toNat ++ Value.int y t :: vs.drop k.toNat).toArray.size == vs.toArray.size) = false := by
        simp
        omega
      simp only [Obj.mapSeq, ef, es]
      simp
end
end
end Bis_part
section Comps_part
open PySem PySem.W PyProof.Rows PyProof.Rows.LCg
section
abbrev zipO (f0 : Value) (TI TO : Addr) : Obj := { cls := .type "zip", data := .fields #[f0, .bool false, .bool false, .ref TI, .ref TO] }
noncomputable def IterSelf (o : Obj) : Prop := (∃ l i, IsLit o l i) ∨ (∃ l i, IsTit o l i) ∨ (∃ x left c, o = ritO x left c) ∨ (∃ f0 TI TO, o = zipO f0 TI TO)
abbrev zeroFr : Str → Option Value := fun _ => none
noncomputable def CompGo (prog : Program) (w : World) (A : Around) (e : Expr) (depth : Nat) (it acc : Value) (env : Env) (R : Result → Shared → Prop) (s : Shared) : Prop :=
  codeAny (model prog w) A (.compLoop e depth it acc env) R s
noncomputable def CompNext (prog : Program) (w : World) (A : Around) (elt target iter : Expr) (scope : Scope) (pos : Pos) (it acc : Value) (env : Env) (R : Result → Shared → Prop) (E' : Value → Shared → Prop) (r : Option Value) (s : Shared) : Prop :=
  match r with
  | none => R (.ok .next) s
  | some v => wpAny (model prog w) A (letOwnedTupleGo target it v) (fun _ s₀ => wpAny (model prog w) A (assign target env v) (fun _ s₂ => wpAny (model prog w) A (eval elt env) (fun x s₄ =>
      wpAny (model prog w) A (call (.builtin "list.append") [acc, x]) (fun _ s₅ => CompGo prog w A (.ListComp elt [⟨target, iter, [], 0⟩] scope pos) 0 it acc env R s₅) E' s₄) E' s₂) E' s₀) E' s
section
variable {prog : Program} {w : World} {A : Around} {E : Value → Shared → Prop} {s : Shared} {h₀ : Heap} {L I C D : Addr} {m : Str → Option Value} {news news' : Led} {env : Env} {oI oC : Obj}
theorem iter_self {Q : Value → Shared → Prop} (N : News h₀ L s.heap news) (hm : (I, oI) ∈ news) (h : IterSelf oI) (q : Q (.ref I) s) : wpAny (model prog w) A (pyIter (.ref I)) Q E s := by
  rcases h with ⟨l, i, h⟩ | ⟨l, i, h⟩ | ⟨x, left, c, rfl⟩ | ⟨f0, TI, TO, rfl⟩
  · exact wpAny_pyIter_listiter ⟨_, (N _ hm).1, h⟩ q
  · exact wpAny_pyIter_tupleiter ⟨_, (N _ hm).1, h⟩ q
  · exact wpAny_pyIter_rangeiter (N _ hm).1 q
  · exact wpAny_pyIter_zip (N _ hm).1 q
theorem comp_made {elt target iter : Expr} {ifs : List Expr} {gs : List Comprehension} {scope : Scope} {cl : List (Str × Addr)} {pos : Pos} {RR : Value → Addr → Result → Shared → Prop}
    (F : Fr h₀ L s.heap m) (N : News h₀ L s.heap news) (hI : (I, oI) ∈ news) (hs : IterSelf oI)
    (hcell : ∀ y ∈ scope.names, y.2 ≠ .cell) (hkind : scope.kind = .function)
    (k : ∀ (C D : Addr) oC h tk, Fr h₀ L h m → News h₀ L h ((C, oC) :: (D, lst []) :: news) → NsObj oC zeroFr → (∀ p ∈ news, p.1 < D) → (∀ p ∈ (D, lst []) :: news, p.1 < C) →
      CompGo prog w A (.ListComp elt (⟨target, iter, ifs, 0⟩ :: gs) scope pos) 0 (.ref I) (.ref D) (compEnvC scope cl C env) (RR (.ref D) C) { s with heap := h, toks := tk }) :
    wpAny (model prog w) A (newList []) (fun acc s₃ => wpAny (model prog w) A (newFunctionEnv scope env.globals cl [] env.qual none .none (some env)) (fun cenv s₄ =>
      codeAny (model prog w) A (.compStart (.ListComp elt (⟨target, iter, ifs, 0⟩ :: gs) scope pos) 0 (.ref I) acc { cenv with scope := relabel scope env }) (RR acc cenv.locals) s₄) E s₃) E s := by
  refine wpAny_newObj_type (wpAny_newFunctionEnv hcell (by intro y hy; simp at hy) (fun h₁ hns₁ hsb₁ => ?_) hkind)
  dsimp only at hns₁ hsb₁ ⊢
  generalize hH2 : s.heap.push { cls := .type "list", dict := none, data := .seq ([] : List Value).toArray } = H2 at hns₁ hsb₁ ⊢
  have hC : H2.objs.size = s.heap.objs.size + 1 := by rw [← hH2, Heap.size_push]
  have hDC : s.heap.objs.size ≠ H2.objs.size := by rw [hC]; exact Nat.ne_of_lt (Nat.lt_succ_self _)
  have below : ∀ b, b < s.heap.objs.size → b ≠ H2.objs.size := fun b hb => by rw [hC]; exact Nat.ne_of_lt (Nat.lt_succ_of_lt hb)
  have old : ∀ b o, s.heap.get? b = some o → h₁.get? b = some o := fun b o e => hsb₁.extBut b o (below b (Heap.lt_size e)) (Heap.get?_push_of_some _ (hH2 ▸ Heap.get?_push_of_some _ e))
  have hacc : h₁.get? s.heap.objs.size = some (lst []) := hsb₁.extBut _ _ hDC (Heap.get?_push_of_some _ (hH2 ▸ Heap.get?_push_size _ rfl))
  have fresh₀ : ∀ a, s.heap.objs.size ≤ a → h₀.get? a = none := fun a ha => by
    cases e : h₀.get? a with
    | none => rfl
    | some o' => exact absurd (Heap.lt_size (F.keep a o' e)) (Nat.not_lt.mpr ha)
  have hLlt : L < s.heap.objs.size := F.ns.lt
  obtain ⟨oC, heC, hoC⟩ := ns_obj hns₁
  have N₁ : News h₀ L h₁ ((H2.objs.size, oC) :: (s.heap.objs.size, lst []) :: news) := by
    intro p hp
    rcases List.mem_cons.mp hp with rfl | hp
    · exact ⟨heC, (fun q => absurd hLlt (by rw [← q, hC]; exact Nat.not_lt.mpr (Nat.le_succ _))), fresh₀ _ (by rw [hC]; exact Nat.le_succ _)⟩
    · rcases List.mem_cons.mp hp with rfl | hp
      · exact ⟨hacc, Ne.symm (Nat.ne_of_lt hLlt), fresh₀ _ (Nat.le_refl _)⟩
      · exact ⟨old _ _ (N p hp).1, (N p hp).2⟩
  have K := k H2.objs.size s.heap.objs.size oC h₁ (s.toks + ([] : List (Str × Value)).length) (F.keeps old) N₁ hoC (news_off N) (fun p hp => by
    rw [hC]
    rcases List.mem_cons.mp hp with rfl | hp
    · exact Nat.lt_succ_self _
    · exact Nat.lt_succ_of_lt (news_off N p hp))
  refine codeAny_compStart_list K ?_
  exact iter_self (news := (H2.objs.size, oC) :: (s.heap.objs.size, lst []) :: news) N₁ (List.mem_cons_of_mem _ (List.mem_cons_of_mem _ hI)) hs K
theorem comp_step {elt target iter : Expr} {scope : Scope} {pos : Pos} {it acc : Value} {R : Result → Shared → Prop}
    (h : ∀ E', wpAny (model prog w) A (pyNext it) (CompNext prog w A elt target iter scope pos it acc env R E') E' s) : CompGo prog w A (.ListComp elt [⟨target, iter, [], 0⟩] scope pos) 0 it acc env R s := by
  refine codeAny_of_tree ?_
  show wpAny _ A ((compTurn (.ListComp elt [⟨target, iter, [], 0⟩] scope pos) 0 it acc env).onRaise (fun x => do noteFrame x env; theTreesLotGoes x)) _ _ s
  refine wpAny_noted ?_
  rw [compTurn_list1]
  refine wpAny_bind (wpAny_standAt (wpAny_bind (wpAny_mono (h _) (fun r s₁ h₁ => ?_) fun _ _ h' => h')))
  cases r with
  | none => exact wpAny_pure h₁
  | some v =>
    refine wpAny_bind (wpAny_mono h₁ (fun _ s₀ h₀ => wpAny_bind (wpAny_mono h₀ (fun _ s₂ h₂ => ?_) fun _ _ h' => h')) fun _ _ h' => h')
    exact wpAny_bind (wpAny_bind (wpAny_mono h₂ (fun x s₄ h₄ => wpAny_bind (wpAny_mono h₄ (fun _ s₅ h₅ => wpAny_pure (wpAny_pure ⟨rfl, h₅⟩)) fun _ _ h' => h')) fun _ _ h' => h'))
theorem comp_eval {elt target iter : Expr} {ifs : List Expr} {gs : List Comprehension} {scope : Scope} {cl : List (Str × Addr)} {pos : Pos} {Q : Value → Shared → Prop}
    (hclos : closureFor scope env = pure cl) (hcell : ∀ y ∈ scope.names, y.2 ≠ .cell) (hkind : scope.kind = .function)
    (hnames : ∀ y ∈ scope.names, y.2 = .local → scope.names.lookup y.1 = some .local)
    (h : wpAny (model prog w) A (eval iter env) (fun xv s₁ => wpAny (model prog w) A (pyIter xv) (fun it s₂ => ∃ (I : Addr) (oI : Obj) (L : Addr) (h₀ : Heap) (m : Str → Option Value) (news : Led), it = .ref I ∧ Fr h₀ L s₂.heap m ∧ News h₀ L s₂.heap news ∧ (I, oI) ∈ news ∧ IterSelf oI ∧
      ∀ (C D : Addr) oC h tk, Fr h₀ L h m → News h₀ L h ((C, oC) :: (D, lst []) :: news) → NsObj oC zeroFr → (∀ p ∈ news, p.1 < D) → (∀ p ∈ (D, lst []) :: news, p.1 < C) →
        CompGo prog w A (.ListComp elt (⟨target, iter, ifs, 0⟩ :: gs) scope pos) 0 (.ref I) (.ref D) (compEnvC scope cl C env) (compPost (model prog w) A E none Q (.ref D) C) { s₂ with heap := h, toks := tk }) E s₁) E s)
    (hs : ∀ x, foldedSetIterable iter env x = pure x := by intro _; rfl) :
    wpAny (model prog w) A (eval (.ListComp elt (⟨target, iter, ifs, 0⟩ :: gs) scope pos) env) Q E s := by
  rw [eval_ListComp]
  refine wpAny_comprehension_free (use := none) rfl hs hclos hkind hnames (wpAny_mono h (fun xv s₁ h₁ => wpAny_mono h₁ (fun it s₂ h₂ => ?_) fun _ _ e => e) fun _ _ e => e)
  obtain ⟨I, oI, L, h₀, m, news, rfl, F, N, hI, hS, k⟩ := h₂
  exact comp_made F N hI hS hcell hkind k
theorem comp_done {Q : Value → Shared → Prop} {mC : Str → Option Value} (F : Fr h₀ L s.heap m) (N : News h₀ L s.heap news) (hC : (C, oC) ∈ news) (hn : NsObj oC mC) (Dl : Del C news news')
    (h : ∀ h', Fr h₀ L h' m → News h₀ L h' news' → Q (.ref D) { s with heap := h' }) : compPost (model prog w) A E none Q (.ref D) C (.ok .next) s :=
  ⟨mC, hn.ns (N _ hC).1, fun h' hs => let ⟨F', N'⟩ := led_end F N Dl hs.extBut; h h' F' N'⟩
end
end
section
section
variable {prog : Program} {w : World} {A : Around} {E E' : Value → Shared → Prop} {s : Shared} {h₀ : Heap} {L I C D : Addr} {m : Str → Option Value} {news news' : Led} {g : Obj → Led} {env : Env} {oI oC : Obj}
theorem comp_assign {elt target iter : Expr} {ifs : List Expr} {gs : List Comprehension} {y : Str} {py spos : Pos} {scope : Scope} {cl : List (Str × Addr)} {pos : Pos} {Q : Flow → Shared → Prop}
    (hsw : swapsWith (.ListComp elt (⟨target, iter, ifs, 0⟩ :: gs) scope pos) (some (.Name y py)) spos.line env = pure true)
    (hclos : closureFor scope env = pure cl) (hcell : ∀ y ∈ scope.names, y.2 ≠ .cell) (hkind : scope.kind = .function)
    (hnames : ∀ y ∈ scope.names, y.2 = .local → scope.names.lookup y.1 = some .local)
    (h : wpAny (model prog w) A (eval iter env) (fun xv s₁ => wpAny (model prog w) A (pyIter xv) (fun it s₂ => ∃ (I : Addr) (oI : Obj) (L : Addr) (h₀ : Heap) (m : Str → Option Value) (news : Led), it = .ref I ∧ Fr h₀ L s₂.heap m ∧ News h₀ L s₂.heap news ∧ (I, oI) ∈ news ∧ IterSelf oI ∧
      ∀ (C D : Addr) oC h tk, Fr h₀ L h m → News h₀ L h ((C, oC) :: (D, lst []) :: news) → NsObj oC zeroFr → (∀ p ∈ news, p.1 < D) → (∀ p ∈ (D, lst []) :: news, p.1 < C) →
        CompGo prog w A (.ListComp elt (⟨target, iter, ifs, 0⟩ :: gs) scope pos) 0 (.ref I) (.ref D) (compEnvC scope cl C env) (compPost (model prog w) A E (some (assign (.Name y py) env)) (fun _ s' => Q .next s') (.ref D) C) { s₂ with heap := h, toks := tk }) E s₁) E s)
    (hs : ∀ x, foldedSetIterable iter env x = pure x := by intro _; rfl) :
    wpAny (model prog w) A (exec (.Assign [.Name y py] (.ListComp elt (⟨target, iter, ifs, 0⟩ :: gs) scope pos) spos) env) Q E s := by
  rw [exec_Assign_Name_used _ _ _ _ hsw]
  refine wpAny_bind (wpAny_standAt (wpAny_bind ?_))
  show wpAny _ A (do let _ ← comprehension (.ListComp elt (⟨target, iter, ifs, 0⟩ :: gs) scope pos) scope env _ (newList []) false (eval iter env) (some (assign (.Name y py) env))) _ _ s
  refine wpAny_bind (wpAny_mono (wpAny_comprehension_free (use := some (assign (.Name y py) env)) (Q := fun _ s' => Q .next s') rfl hs hclos hkind hnames
    (wpAny_mono h (fun xv s₁ h₁ => wpAny_mono h₁ (fun it s₂ h₂ => ?_) fun _ _ e => e) fun _ _ e => e)) (fun _ s' hq => wpAny_pure (wpAny_pure hq)) fun _ _ e => e)
  obtain ⟨I, oI, L, h₀, m, news, rfl, F, N, hI, hS, k⟩ := h₂
  exact comp_made F N hI hS hcell hkind k
theorem comp_doneA {y : Str} {py : Pos} {G : Shared → Prop} {mC : Str → Option Value} (hy : env.kindOf y = some .local) (hp : (env.scope.kind == .class || (env.scope.kind == .module && env.locals != env.globals)) = false)
    (F : Fr h₀ env.locals s.heap m) (N : News h₀ env.locals s.heap news) (hC : (C, oC) ∈ news) (hn : NsObj oC mC) (Dl : Del C news news')
    (h : ∀ h' tk, Fr h₀ env.locals h' (fun z => if z = y then some (.ref D) else m z) → News h₀ env.locals h' news' → G { s with heap := h', toks := tk }) :
    compPost (model prog w) A E (some (assign (.Name y py) env)) (fun _ s' => G s') (.ref D) C (.ok .next) s := by
  show wpAny _ A (assign (.Name y py) env (.ref D)) _ _ _
  refine wpAny_assign_Name (wpAny_storeName_local hy F.ns (fun h₂ hn₂ hs₂ => ?_) hp)
  have F₂ := F.set hn₂ hs₂
  have N₂ := N.set hs₂
  exact ⟨mC, hn.ns (N₂ _ hC).1, fun h' hs => let ⟨F', N'⟩ := led_end (s := { s with heap := h₂ }) F₂ N₂ Dl hs.extBut; h h' _ F' N'⟩
theorem comp_next {elt target iter : Expr} {scope : Scope} {pos : Pos} {it acc : Value} {R : Result → Shared → Prop} (h : R (.ok .next) s) : CompNext prog w A elt target iter scope pos it acc env R E' none s := h
theorem comp_name {elt iter : Expr} {x : Str} {px : Pos} {scope : Scope} {pos : Pos} {it acc v : Value} {R : Result → Shared → Prop}
    (h : wpAny (model prog w) A (storeName env x v) (fun _ s₂ => wpAny (model prog w) A (eval elt env) (fun y s₄ =>
      wpAny (model prog w) A (call (.builtin "list.append") [acc, y]) (fun _ s₅ => CompGo prog w A (.ListComp elt [⟨.Name x px, iter, [], 0⟩] scope pos) 0 it acc env R s₅) E' s₄) E' s₂) E' s) :
    CompNext prog w A elt (.Name x px) iter scope pos it acc env R E' (some v) s := wpAny_pure (wpAny_assign_Name h)
theorem comp_store {scope : Scope} {cl : List (Str × Addr)} {x : Str} {v : Value} {mC : Str → Option Value} {Q : Unit → Shared → Prop}
    (hx : (compEnvC scope cl C env).kindOf x = some .local) (hp : ((compEnvC scope cl C env).scope.kind == .class || ((compEnvC scope cl C env).scope.kind == .module && (compEnvC scope cl C env).locals != (compEnvC scope cl C env).globals)) = false)
    (F : Fr h₀ L s.heap m) (N : News h₀ L s.heap news) (U : UpdF C oC news g) (hn : NsObj oC mC)
    (h : ∀ h' oC', Fr h₀ L h' m → News h₀ L h' (g oC') → NsObj oC' (fun y => if y = x then some v else mC y) → Q () { s with heap := h', toks := s.toks + 1 }) :
    wpAny (model prog w) A (storeName (compEnvC scope cl C env) x v) Q E s :=
  wpAny_storeName_local hx (hn.ns (N _ (updF_has U)).1) (fun h' hn' hs' => by
    obtain ⟨oC', e1, e2⟩ := ns_obj hn'
    obtain ⟨F', N'⟩ := led_changeF F N U hs' e1
    exact h h' oC' F' N' e2) hp
theorem comp_local {scope : Scope} {cl : List (Str × Addr)} {x : Str} {pos : Pos} {v : Value} {mC : Str → Option Value} {Q : Value → Shared → Prop} (N : News h₀ L s.heap news) (hm : (C, oC) ∈ news) (hC : NsObj oC mC) (hx : mC x = some v) (h : Q v s)
    (hk : (compEnvC scope cl C env).scope.kind = .function := by rfl) (hl : (compEnvC scope cl C env).kindOf x = some .local := by rfl) (hd : (x == ("__debug__" : Str)) = false := by decide) :
    wpAny (model prog w) A (eval (.Name x pos) (compEnvC scope cl C env)) Q E s := wpAny_Name (wpAny_loadName_local hk hl (hC.ns (N _ hm).1) hx h) hd
theorem comp_cell {scope : Scope} {cl : List (Str × Addr)} {x : Str} {pos : Pos} {v : Value} {c : Addr} {o : Obj} {Q : Value → Shared → Prop} (N : News h₀ L s.heap news) (hc : cl.lookup x = some c) (hm : (c, o) ∈ news) (hd : o.data = .cell (some v)) (h : Q v s)
    (hk : (compEnvC scope cl C env).scope.kind = .function := by rfl) (hx : (compEnvC scope cl C env).kindOf x = some .cell := by rfl) (hb : (x == ("__debug__" : Str)) = false := by decide) :
    wpAny (model prog w) A (eval (.Name x pos) (compEnvC scope cl C env)) Q E s := wpAny_Name (wpAny_loadName_cell hk hx hc ⟨o, News.get N hm, hd⟩ h) hb
theorem comp_free {scope : Scope} {cl : List (Str × Addr)} {x : Str} {pos : Pos} {v : Value} {c : Addr} {o : Obj} {Q : Value → Shared → Prop} (N : News h₀ L s.heap news) (hc : cl.lookup x = some c) (hm : (c, o) ∈ news) (hd : o.data = .cell (some v)) (h : Q v s)
    (hk : (compEnvC scope cl C env).scope.kind = .function := by rfl) (hx : (compEnvC scope cl C env).kindOf x = some .free := by rfl) (hb : (x == ("__debug__" : Str)) = false := by decide) (hn : (x == ("__classdict__" : Str)) = false := by decide) :
    wpAny (model prog w) A (eval (.Name x pos) (compEnvC scope cl C env)) Q E s := wpAny_Name (wpAny_loadName_free hk hx hc ⟨o, News.get N hm, hd⟩ h hn) hb
end
end
end Comps_part
section Comp2_part
open PySem PySem.W PyProof.Rows PyProof.Rows.LCg
section
theorem compTurn_two0 (elt t1 i1 t2 i2 : Expr) (scope : Scope) (pos : Pos) (it acc : Value) (env : Env) :
    compTurn (.ListComp elt [⟨t1, i1, [], 0⟩, ⟨t2, i2, [], 0⟩] scope pos) 0 it acc env = (standAt i1.pos >>= fun _ => pyNext it >>= fun r => match r with
      | none => pure (.done .next)
      | some v => letOwnedTupleGo t1 it v >>= fun _ => assign t1 env v >>= fun _ =>
        eval i2 env >>= fun x => standAt i2.pos >>= fun _ => foldedSetIterable i2 env x >>= fun x => holding [x] (pyIter x) >>= fun it' => runOwn (.compStart (.ListComp elt [⟨t1, i1, [], 0⟩, ⟨t2, i2, [], 0⟩] scope pos) 1 it' acc env) env >>= fun _ =>
          again (.compLoop (.ListComp elt [⟨t1, i1, [], 0⟩, ⟨t2, i2, [], 0⟩] scope pos) 0 it acc env)) := by rfl
theorem compTurn_two1 (elt t1 i1 t2 i2 : Expr) (scope : Scope) (pos : Pos) (it acc : Value) (env : Env) :
    compTurn (.ListComp elt [⟨t1, i1, [], 0⟩, ⟨t2, i2, [], 0⟩] scope pos) 1 it acc env = (standAt i2.pos >>= fun _ => pyNext it >>= fun r => match r with
      | none => pure (.done .next)
      | some v => letOwnedTupleGo t2 it v >>= fun _ => assign t2 env v >>= fun _ =>
        (eval elt env >>= fun x => call (.builtin "list.append") [acc, x] >>= fun _ => pure PUnit.unit) >>= fun _ =>
          again (.compLoop (.ListComp elt [⟨t1, i1, [], 0⟩, ⟨t2, i2, [], 0⟩] scope pos) 1 it acc env)) := by rfl
section
variable {prog : Program} {w : World} {A : Around} {E : Value → Shared → Prop} {s : Shared} {R : Result → Shared → Prop}
theorem codeAny_compStart_two {elt t1 i1 t2 i2 : Expr} {scope : Scope} {pos : Pos} {it acc : Value} {env : Env}
    (h0 : codeAny (model prog w) A (.compLoop (.ListComp elt [⟨t1, i1, [], 0⟩, ⟨t2, i2, [], 0⟩] scope pos) 1 it acc env) R s)
    (h : wpAny (model prog w) A (pyIter it) (fun it' s' => codeAny (model prog w) A (.compLoop (.ListComp elt [⟨t1, i1, [], 0⟩, ⟨t2, i2, [], 0⟩] scope pos) 1 it' acc env) R s')
      (notedBy (model prog w) A env fun x s' => R (.error x) s') s) :
    codeAny (model prog w) A (.compStart (.ListComp elt [⟨t1, i1, [], 0⟩, ⟨t2, i2, [], 0⟩] scope pos) 1 it acc env) R s := by
  refine codeAny_of_tree ?_
  show wpAny _ _ ((compStart (.ListComp elt [⟨t1, i1, [], 0⟩, ⟨t2, i2, [], 0⟩] scope pos) 1 it acc env).onRaise (fun x => do noteFrame x env; standAt theWindowsPlace)) _ _ s
  refine wpAny_notedAt ?_
  unfold compStart
  show wpAny _ _ (ask >>= _) _ _ s
  refine wpAny_bind (wpAny_askSetting (wpAny_ite ?_))
  split
  · first
      | exact wpAny_bind (wpAny_pure (wpAny_pure (And.intro rfl h0)))
      | exact wpAny_pure (And.intro rfl h0)
  · first
      | exact wpAny_bind (wpAny_rule (wpAny_bind (wpAny_standAt (wpAny_bind (wpAny_mono h (fun it' s' h' => wpAny_pure (And.intro rfl h')) fun _ _ x => x)))))
      | (refine wpAny_bind (wpAny_rule ?_); show wpAny _ _ (standAt i2.pos >>= _) _ _ s; exact wpAny_bind (wpAny_standAt (wpAny_bind (wpAny_mono h (fun it' s' h' => wpAny_pure (And.intro rfl h')) fun _ _ x => x))))
/-- the inner loop of a comprehension over two clauses -/
noncomputable def InGo (prog : Program) (w : World) (A : Around) (elt : Expr) (t1 i1 t2 i2 : Expr) (scope : Scope) (pos : Pos) (it acc : Value) (env : Env) (R : Result → Shared → Prop) (s : Shared) : Prop :=
  codeAny (model prog w) A (.compLoop (.ListComp elt [⟨t1, i1, [], 0⟩, ⟨t2, i2, [], 0⟩] scope pos) 1 it acc env) R s
noncomputable def InNext (prog : Program) (w : World) (A : Around) (elt : Expr) (t1 i1 : Expr) (x : Str) (px : Pos) (i2 : Expr) (scope : Scope) (pos : Pos) (it acc : Value) (env : Env) (R : Result → Shared → Prop) (E' : Value → Shared → Prop) (r : Option Value) (s : Shared) : Prop :=
  match r with
  | none => R (.ok .next) s
  | some v => wpAny (model prog w) A (storeName env x v) (fun _ s₂ => wpAny (model prog w) A (eval elt env) (fun x' s₄ =>
      wpAny (model prog w) A (call (.builtin "list.append") [acc, x']) (fun _ s₅ => InGo prog w A elt t1 i1 (.Name x px) i2 scope pos it acc env R s₅) E' s₄) E' s₂) E' s
noncomputable def Back2 (prog : Program) (w : World) (A : Around) (elt : Expr) (gs : List Comprehension) (scope : Scope) (pos : Pos) (it acc : Value) (env : Env) (R : Result → Shared → Prop) (E' : Value → Shared → Prop) (r : Result) (s : Shared) : Prop :=
  match r with
  | .ok _ => CompGo prog w A (.ListComp elt gs scope pos) 0 it acc env R s
  | .error e => cameBackBy (model prog w) A env E' e s
noncomputable def Start2 (prog : Program) (w : World) (A : Around) (elt : Expr) (t1 i1 t2 i2 : Expr) (scope : Scope) (pos : Pos) (it acc : Value) (env : Env) (R : Result → Shared → Prop) (E' : Value → Shared → Prop) (it' : Value) (s : Shared) : Prop :=
  ∃ (h₀ : Heap) (L I : Addr) (oI : Obj) (news : Led), it' = .ref I ∧ News h₀ L s.heap news ∧ (I, oI) ∈ news ∧ IterSelf oI ∧ InGo prog w A elt t1 i1 t2 i2 scope pos (.ref I) acc env (Back2 prog w A elt [⟨t1, i1, [], 0⟩, ⟨t2, i2, [], 0⟩] scope pos it acc env R E') s
noncomputable def OutNext (prog : Program) (w : World) (A : Around) (elt : Expr) (x : Str) (px : Pos) (i1 t2 i2 : Expr) (scope : Scope) (pos : Pos) (it acc : Value) (env : Env) (R : Result → Shared → Prop) (E' : Value → Shared → Prop) (r : Option Value) (s : Shared) : Prop :=
  match r with
  | none => R (.ok .next) s
  | some v => wpAny (model prog w) A (storeName env x v) (fun _ s₂ => wpAny (model prog w) A (eval i2 env) (fun xv s₃ => wpAny (model prog w) A (pyIter xv)
      (Start2 prog w A elt (.Name x px) i1 t2 i2 scope pos it acc env R E') E' s₃) E' s₂) E' s
theorem back2 {elt : Expr} {gs : List Comprehension} {scope : Scope} {pos : Pos} {it acc : Value} {env : Env} {E' : Value → Shared → Prop} (r : Result) (s : Shared) (h : Back2 prog w A elt gs scope pos it acc env R E' r s) :
    match r with
      | .ok _ => wpAny (model prog w) A (again (.compLoop (.ListComp elt gs scope pos) 0 it acc env)) (fun fin s' => match fin with | .done f => R (.ok f) s' | .again c' => c'.quiet = true ∧ codeAny (model prog w) A c' R s') E' s
      | .error e => cameBackBy (model prog w) A env E' e s := by
  cases r with
  | ok _ => exact wpAny_pure ⟨rfl, h⟩
  | error _ => exact h
theorem start2 {elt t1 i1 t2 i2 : Expr} {scope : Scope} {pos : Pos} {it acc : Value} {env : Env} {E' : Value → Shared → Prop} {h₀ : Heap} {L I : Addr} {oI : Obj} {news : Led} (N : News h₀ L s.heap news) (hm : (I, oI) ∈ news) (hs : IterSelf oI)
    (h : InGo prog w A elt t1 i1 t2 i2 scope pos (.ref I) acc env (Back2 prog w A elt [⟨t1, i1, [], 0⟩, ⟨t2, i2, [], 0⟩] scope pos it acc env R E') s) : Start2 prog w A elt t1 i1 t2 i2 scope pos it acc env R E' (.ref I) s :=
  ⟨_, _, _, _, _, rfl, N, hm, hs, h⟩
theorem in_step {elt t1 i1 i2 : Expr} {x : Str} {px : Pos} {scope : Scope} {pos : Pos} {it acc : Value} {env : Env}
    (h : ∀ E', wpAny (model prog w) A (pyNext it) (InNext prog w A elt t1 i1 x px i2 scope pos it acc env R E') E' s) : InGo prog w A elt t1 i1 (.Name x px) i2 scope pos it acc env R s := by
  refine codeAny_of_tree ?_
  show wpAny _ A ((compTurn (.ListComp elt [⟨t1, i1, [], 0⟩, ⟨.Name x px, i2, [], 0⟩] scope pos) 1 it acc env).onRaise (fun x => do noteFrame x env; theTreesLotGoes x)) _ _ s
  refine wpAny_noted ?_
  rw [compTurn_two1]
  refine wpAny_bind (wpAny_standAt (wpAny_bind (wpAny_mono (h _) (fun r s₁ h₁ => ?_) fun _ _ h' => h')))
  cases r with
  | none => exact wpAny_pure h₁
  | some v =>
    refine wpAny_bind (wpAny_pure (wpAny_bind (wpAny_assign_Name (wpAny_mono h₁ (fun _ s₂ h₂ => ?_) fun _ _ h' => h'))))
    exact wpAny_bind (wpAny_bind (wpAny_mono h₂ (fun x s₄ h₄ => wpAny_bind (wpAny_mono h₄ (fun _ s₅ h₅ => wpAny_pure (wpAny_pure ⟨rfl, h₅⟩)) fun _ _ h' => h')) fun _ _ h' => h'))
theorem out_step {elt i1 t2 i2 : Expr} {x : Str} {px : Pos} {scope : Scope} {pos : Pos} {it acc : Value} {env : Env} (hf : ∀ v, foldedSetIterable i2 env v = pure v)
    (h : ∀ E', wpAny (model prog w) A (pyNext it) (OutNext prog w A elt x px i1 t2 i2 scope pos it acc env R E') E' s) : CompGo prog w A (.ListComp elt [⟨.Name x px, i1, [], 0⟩, ⟨t2, i2, [], 0⟩] scope pos) 0 it acc env R s := by
  refine codeAny_of_tree ?_
  show wpAny _ A ((compTurn (.ListComp elt [⟨.Name x px, i1, [], 0⟩, ⟨t2, i2, [], 0⟩] scope pos) 0 it acc env).onRaise (fun x => do noteFrame x env; theTreesLotGoes x)) _ _ s
  refine wpAny_noted ?_
  rw [compTurn_two0]
  refine wpAny_bind (wpAny_standAt (wpAny_bind (wpAny_mono (h _) (fun r s₁ h₁ => ?_) fun _ _ h' => h')))
  cases r with
  | none => exact wpAny_pure h₁
  | some v =>
    refine wpAny_bind (wpAny_pure (wpAny_bind (wpAny_assign_Name (wpAny_mono h₁ (fun _ s₂ h₂ => ?_) fun _ _ h' => h'))))
    refine wpAny_bind (wpAny_mono h₂ (fun xv s₃ h₃ => wpAny_bind (wpAny_standAt (wpAny_bind ?_))) fun _ _ h' => h')
    rw [hf]
    refine wpAny_pure (wpAny_bind (wpAny_holding (wpAny_mono h₃ (fun it' s₄ h₄ => ?_) fun _ _ h' => h')))
    obtain ⟨h₀, L, I, oI, news, rfl, N, hm, hs, h₅⟩ := h₄
    refine wpAny_bind (wpAny_runOwn (codeAny_compStart_two (codeAny_mono (show codeAny _ _ _ _ _ from h₅) fun r s h => by cases r with | ok _ => exact wpAny_pure ⟨rfl, h⟩ | error _ => exact h) (iter_self N hm hs (codeAny_mono (show codeAny _ _ _ _ _ from h₅) fun r s h => by cases r with | ok _ => exact wpAny_pure ⟨rfl, h⟩ | error _ => exact h))))
theorem out_next {elt i1 t2 i2 : Expr} {x : Str} {px : Pos} {scope : Scope} {pos : Pos} {it acc : Value} {env : Env} {E' : Value → Shared → Prop} (h : R (.ok .next) s) : OutNext prog w A elt x px i1 t2 i2 scope pos it acc env R E' none s := h
theorem out_name {elt i1 t2 i2 : Expr} {x : Str} {px : Pos} {scope : Scope} {pos : Pos} {it acc v : Value} {env : Env} {E' : Value → Shared → Prop}
    (h : wpAny (model prog w) A (storeName env x v) (fun _ s₂ => wpAny (model prog w) A (eval i2 env) (fun xv s₃ => wpAny (model prog w) A (pyIter xv)
      (Start2 prog w A elt (.Name x px) i1 t2 i2 scope pos it acc env R E') E' s₃) E' s₂) E' s) : OutNext prog w A elt x px i1 t2 i2 scope pos it acc env R E' (some v) s := h
theorem in_next {elt t1 i1 i2 : Expr} {x : Str} {px : Pos} {scope : Scope} {pos : Pos} {it acc : Value} {env : Env} {E' : Value → Shared → Prop} (h : R (.ok .next) s) : InNext prog w A elt t1 i1 x px i2 scope pos it acc env R E' none s := h
theorem in_name {elt t1 i1 i2 : Expr} {x : Str} {px : Pos} {scope : Scope} {pos : Pos} {it acc v : Value} {env : Env} {E' : Value → Shared → Prop}
    (h : wpAny (model prog w) A (storeName env x v) (fun _ s₂ => wpAny (model prog w) A (eval elt env) (fun x' s₄ =>
      wpAny (model prog w) A (call (.builtin "list.append") [acc, x']) (fun _ s₅ => InGo prog w A elt t1 i1 (.Name x px) i2 scope pos it acc env R s₅) E' s₄) E' s₂) E' s) : InNext prog w A elt t1 i1 x px i2 scope pos it acc env R E' (some v) s := h
theorem back2_ok {elt : Expr} {gs : List Comprehension} {scope : Scope} {pos : Pos} {it acc : Value} {env : Env} {E' : Value → Shared → Prop} {f : Flow} (h : CompGo prog w A (.ListComp elt gs scope pos) 0 it acc env R s) : Back2 prog w A elt gs scope pos it acc env R E' (.ok f) s := h
end
end
end Comp2_part
section Comp3_part
open PySem PySem.W PyProof.Rows PyProof.Rows.LCg
section
section
variable {prog : Program} {w : World} {A : Around} {s : Shared} {R : Result → Shared → Prop} {h₀ : Heap} {L I C D : Addr} {m : Str → Option Value}
noncomputable def downs (f : Int → Int) : Nat → List Int
  | 0 => []
  | k + 1 => f k :: downs f k
theorem downs_len (f : Int → Int) : ∀ k, (downs f k).length = k
  | 0 => rfl
  | k + 1 => congrArg Nat.succ (downs_len f k)
theorem in_rng {elt t1 i1 i2 : Expr} {x : Str} {px : Pos} {scope : Scope} {cl : List (Str × Addr)} {pos : Pos} {env : Env} {rest : Led} {f : Int → Int} {mC : Str → Option Value}
    (hh : A.handled = none) (hx : (compEnvC scope cl C env).kindOf x = some .local) (hp : ((compEnvC scope cl C env).scope.kind == .class || ((compEnvC scope cl C env).scope.kind == .module && (compEnvC scope cl C env).locals != (compEnvC scope cl C env).globals)) = false)
    (hIC : C ≠ I) (hID : D ≠ I) (hCD : D ≠ C) (hI : ∀ p ∈ rest, p.1 ≠ I) (hC : ∀ p ∈ rest, p.1 ≠ C) (hD : ∀ p ∈ rest, p.1 ≠ D)
    (body : ∀ (j : Int) (t : Tok) (s' : Shared) (oC' : Obj) (E' : Value → Shared → Prop), Fr h₀ L s'.heap m → News h₀ L s'.heap ((C, oC') :: rest) → NsObj oC' (fun y => if y = x then some (.int j t) else mC y) →
      wpAny (model prog w) A (eval elt (compEnvC scope cl C env)) (fun v s4 => ∃ t' tk, v = .int (f j) t' ∧ s4 = { s' with toks := tk }) E' s') :
    ∀ (k : Nat) (s : Shared) (vs : List Value) (n : Nat) (oC : Obj) (mC' : Str → Option Value), (∀ y, y ≠ x → mC' y = mC y) → Fr h₀ L s.heap m → News h₀ L s.heap ((I, ritO ((k : Int) - 1) k (-1)) :: (C, oC) :: (D, listOf vs.toArray n) :: rest) → NsObj oC mC' → (k = 0 → ∃ v, NsObj oC (fun y => if y = x then some v else mC y)) → vs.length + k ≤ 1000 →
    (∀ ws n' oC' v h' tk', Fr h₀ L h' m → News h₀ L h' ((C, oC') :: (D, listOf (vs ++ ws).toArray n') :: rest) → NsObj oC' (fun y => if y = x then some v else mC y) → IntsAre ws (downs f k) → R (.ok .next) { s with heap := h', toks := tk' }) →
    InGo prog w A elt t1 i1 (.Name x px) i2 scope pos (.ref I) (.ref D) (compEnvC scope cl C env) R s := by
  intro k
  induction k with
  | zero =>
    intro s vs n oC mC' hm F N ho hv hz ret
    refine in_step fun E' => ?_
    refine next_rng_end hh F N List.mem_cons_self (.head ?_) (by omega) fun h' F' N' => ?_
    · intro p hp
      rcases List.mem_cons.mp hp with rfl | hp
      · exact hIC
      · rcases List.mem_cons.mp hp with rfl | hp
        · exact hID
        · exact hI p hp
    · refine in_next ?_
      obtain ⟨v, hv⟩ := hv rfl
      exact ret [] n oC v h' _ F' (by rw [List.append_nil]; exact N') hv .nil
  | succ k ih =>
    intro s vs n oC mC' hm F N ho hv hz ret
    refine in_step fun E' => ?_
    refine next_rng F N (.head ?_) (by omega) fun h₁ t tk₁ F₁ N₁ => in_name ?_
    · intro p hp
      rcases List.mem_cons.mp hp with rfl | hp
      · exact hIC
      · rcases List.mem_cons.mp hp with rfl | hp
        · exact hID
        · exact hI p hp
    refine comp_store (g := fun o' => (I, ritO ((((k + 1 : Nat) : Int) - 1) + -1) (((k + 1 : Nat) : Int) - 1) (-1)) :: (C, o') :: (D, listOf vs.toArray n) :: rest) hx hp F₁ N₁ (.tail (g := fun o' => (C, o') :: (D, listOf vs.toArray n) :: rest) (Ne.symm hIC) (.head ?_)) ho fun h₂ oC₂ F₂ N₂ hC₂ => ?_
    · intro p hp
      rcases List.mem_cons.mp hp with rfl | hp
      · exact hCD
      · exact hC p hp
    have ej : (((k + 1 : Nat) : Int) - 1) = (k : Int) := by omega
    rw [ej] at N₂ hC₂
    have hC₃ : NsObj oC₂ (fun y => if y = x then some (.int (k : Int) t) else mC y) := by
      have : (fun y => if y = x then some (Value.int (k : Int) t) else mC' y) = (fun y => if y = x then some (.int (k : Int) t) else mC y) := by
        funext y
        by_cases e : y = x
        · rw [if_pos e, if_pos e]
        · rw [if_neg e, if_neg e, hm y e]
      rw [← this]; exact hC₂
    refine wpAny_mono (body k t _ oC₂ E' F₂ (news_sub N₂ fun p hp => ?_) hC₃) (fun v s₄ h₄ => ?_) fun _ _ e => e
    · rcases List.mem_cons.mp hp with rfl | hp
      · exact List.mem_cons_of_mem _ List.mem_cons_self
      · exact List.mem_cons_of_mem _ (List.mem_cons_of_mem _ (List.mem_cons_of_mem _ hp))
    · obtain ⟨t', tk₄, rfl, rfl⟩ := h₄
      refine append_K (news' := (I, ritO ((k : Int) + -1) (k : Int) (-1)) :: (C, oC₂) :: (D, listOf (vs.toArray.push (Value.int (f k) t')) (n + 1)) :: rest) F₂ N₂ (.tail (Ne.symm hID) (.tail (Ne.symm hCD) (.head hD))) (fun h₅ F₅ N₅ => ?_) ?_
      · have e1 : vs.toArray.push (Value.int (f k) t') = (vs ++ [Value.int (f k) t']).toArray := by simp
        rw [e1, ← Int.sub_eq_add_neg] at N₅
        refine ih _ (vs ++ [Value.int (f k) t']) (n + 1) oC₂ _ (fun y e => ?_) F₅ N₅ hC₃ (fun _ => ⟨_, hC₃⟩) (by rw [List.length_append, List.length_singleton]; omega) fun ws n' oC' v h' tk' F' N' ho' hw => ?_
        · exact if_neg e
        · rw [List.append_assoc] at N'
          exact ret _ n' oC' v h' _ F' N' ho' (.cons _ _ hw)
      · rw [List.size_toArray, sizeLine_eq]; omega
theorem in_rngL {elt t1 i1 i2 : Expr} {x : Str} {px : Pos} {scope : Scope} {cl : List (Str × Addr)} {pos : Pos} {env : Env} {rest : Led} {f : (Str → Option Value) → Int → Int} {mC : Str → Option Value} {vs : List Value} {n : Nat} {oC : Obj} {x0 left : Int}
    (hh : A.handled = none) (hx : (compEnvC scope cl C env).kindOf x = some .local) (hp : ((compEnvC scope cl C env).scope.kind == .class || ((compEnvC scope cl C env).scope.kind == .module && (compEnvC scope cl C env).locals != (compEnvC scope cl C env).globals)) = false)
    (F : Fr h₀ L s.heap m) (N : News h₀ L s.heap ((I, ritO x0 left (-1)) :: (C, oC) :: (D, listOf vs.toArray n) :: rest)) (ho : NsObj oC mC)
    (hIC : C ≠ I) (hID : D ≠ I) (hCD : D ≠ C) (hI : ∀ p ∈ rest, p.1 ≠ I) (hC : ∀ p ∈ rest, p.1 ≠ C) (hD : ∀ p ∈ rest, p.1 ≠ D) (e1 : x0 + 1 = left) (e2 : 0 < left) (hz : left ≤ 100 ∧ vs.length ≤ 900)
    (body : ∀ (j : Int) (t : Tok) (s' : Shared) (oC' : Obj) (E' : Value → Shared → Prop), Fr h₀ L s'.heap m → News h₀ L s'.heap ((C, oC') :: rest) → NsObj oC' (fun y => if y = x then some (.int j t) else mC y) →
      wpAny (model prog w) A (eval elt (compEnvC scope cl C env)) (fun v s4 => ∃ t' tk, v = .int (f mC j) t' ∧ s4 = { s' with toks := tk }) E' s')
    (ret : ∀ ws n' oC' v h' tk', Fr h₀ L h' m → News h₀ L h' ((C, oC') :: (D, listOf (vs ++ ws).toArray n') :: rest) → NsObj oC' (fun y => if y = x then some v else mC y) → IntsAre ws (downs (f mC) left.toNat) → ws.length = left.toNat → R (.ok .next) { s with heap := h', toks := tk' }) :
    InGo prog w A elt t1 i1 (.Name x px) i2 scope pos (.ref I) (.ref D) (compEnvC scope cl C env) R s := by
  have e3 : (left.toNat : Int) = left := by omega
  have e4 : x0 = (left.toNat : Int) - 1 := by omega
  have N' : News h₀ L s.heap ((I, ritO ((left.toNat : Int) - 1) (left.toNat : Int) (-1)) :: (C, oC) :: (D, listOf vs.toArray n) :: rest) := by
    rw [e3, show left - 1 = x0 by omega]; exact N
  exact in_rng hh hx hp hIC hID hCD hI hC hD body left.toNat s vs n oC mC (fun _ _ => rfl) F N' ho (fun e => absurd e (by omega)) (by omega) fun ws n' oC' v h' tk' F' N' ho' hw => ret ws n' oC' v h' tk' F' N' ho' hw (by rw [hw.length, downs_len])
noncomputable def iOf (m : Str → Option Value) : Int := match m (Str.ofString "i") with
  | some (.int n _) => n
  | _ => 0
theorem ints_eq {vs : List Value} {ns ms : List Int} (h : IntsAre vs ns) (e : ns = ms) : IntsAre vs ms := e ▸ h
end
end
end Comp3_part
section Comp4_part
open PySem PySem.W PyProof.Rows PyProof.Rows.LCg
section
section
variable {prog : Program} {w : World} {A : Around} {s : Shared} {R : Result → Shared → Prop} {h₀ : Heap} {L I C D : Addr} {m : Str → Option Value}
noncomputable def outs (f : Int → List Int) : Nat → List Int
  | 0 => []
  | k + 1 => f k ++ outs f k
noncomputable def Start3 (prog : Program) (w : World) (A : Around) (elt t1 i1 t2 i2 : Expr) (scope : Scope) (pos : Pos) (acc : Value) (env : Env) (R' : Result → Shared → Prop) (it' : Value) (s : Shared) : Prop :=
  ∃ (h₀ : Heap) (L I : Addr) (oI : Obj) (news : Led), it' = .ref I ∧ News h₀ L s.heap news ∧ (I, oI) ∈ news ∧ IterSelf oI ∧ InGo prog w A elt t1 i1 t2 i2 scope pos (.ref I) acc env R' s
theorem start3 {elt t1 i1 t2 i2 : Expr} {scope : Scope} {pos : Pos} {acc : Value} {env : Env} {R' : Result → Shared → Prop} {h₀ : Heap} {L I : Addr} {oI : Obj} {news : Led} (N : News h₀ L s.heap news) (hm : (I, oI) ∈ news) (hs : IterSelf oI)
    (h : InGo prog w A elt t1 i1 t2 i2 scope pos (.ref I) acc env R' s) : Start3 prog w A elt t1 i1 t2 i2 scope pos acc env R' (.ref I) s := ⟨_, _, _, _, _, rfl, N, hm, hs, h⟩
theorem out_rng {elt i1 t2 i2 : Expr} {x : Str} {px : Pos} {scope : Scope} {cl : List (Str × Addr)} {pos : Pos} {env : Env} {rest : Led} (inner : Int → List Int)
    (hh : A.handled = none) (hf : ∀ v, foldedSetIterable i2 (compEnvC scope cl C env) v = pure v) (hx : (compEnvC scope cl C env).kindOf x = some .local) (hp : ((compEnvC scope cl C env).scope.kind == .class || ((compEnvC scope cl C env).scope.kind == .module && (compEnvC scope cl C env).locals != (compEnvC scope cl C env).globals)) = false)
    (hIC : C ≠ I) (hID : D ≠ I) (hCD : D ≠ C) (hI : ∀ p ∈ rest, p.1 ≠ I) (hC : ∀ p ∈ rest, p.1 ≠ C) (hD : ∀ p ∈ rest, p.1 ≠ D) (K : Nat)
    (turn : ∀ (i : Nat) (t : Tok) (s' : Shared) (vs : List Value) (n : Nat) (oC' oI' : Obj) (mC' : Str → Option Value) (E' : Value → Shared → Prop) (R' : Result → Shared → Prop), i < K → vs.length ≤ 10 * (K - i) → Fr h₀ L s'.heap m → News h₀ L s'.heap ((I, oI') :: (C, oC') :: (D, listOf vs.toArray n) :: rest) →
      NsObj oC' (fun z => if z = x then some (.int (i : Int) t) else mC' z) →
      (∀ ws n' oC'' mC'' h' tk', Fr h₀ L h' m → News h₀ L h' ((C, oC'') :: (D, listOf (vs ++ ws).toArray n') :: (I, oI') :: rest) → NsObj oC'' mC'' → IntsAre ws (inner i) → R' (.ok .next) { s' with heap := h', toks := tk' }) →
      wpAny (model prog w) A (eval i2 (compEnvC scope cl C env)) (fun xv s₃ => wpAny (model prog w) A (pyIter xv) (Start3 prog w A elt (.Name x px) i1 t2 i2 scope pos (.ref D) (compEnvC scope cl C env) R') E' s₃) E' s')
    (hin : ∀ i : Nat, i < K → (inner i).length ≤ 10) (hK : K ≤ 50) :
    ∀ (k : Nat) (s : Shared) (vs : List Value) (n : Nat) (oC : Obj) (mC : Str → Option Value), k ≤ K → vs.length ≤ 10 * (K - k) → Fr h₀ L s.heap m → News h₀ L s.heap ((I, ritO ((k : Int) - 1) k (-1)) :: (C, oC) :: (D, listOf vs.toArray n) :: rest) → NsObj oC mC →
      (∀ ws n' oC' mC' h' tk', Fr h₀ L h' m → News h₀ L h' ((C, oC') :: (D, listOf (vs ++ ws).toArray n') :: rest) → NsObj oC' mC' → IntsAre ws (outs inner k) → R (.ok .next) { s with heap := h', toks := tk' }) →
      CompGo prog w A (.ListComp elt [⟨.Name x px, i1, [], 0⟩, ⟨t2, i2, [], 0⟩] scope pos) 0 (.ref I) (.ref D) (compEnvC scope cl C env) R s := by
  have off : ∀ {vs : List Value} {n : Nat} {oC : Obj}, ∀ p ∈ (C, oC) :: (D, listOf vs.toArray n) :: rest, p.1 ≠ I := by
    intro vs n oC p hp
    rcases List.mem_cons.mp hp with rfl | hp
    · exact hIC
    · rcases List.mem_cons.mp hp with rfl | hp
      · exact hID
      · exact hI p hp
  intro k
  induction k with
  | zero =>
    intro s vs n oC mC hk hl F N ho ret
    refine out_step hf fun E' => ?_
    refine next_rng_end hh F N List.mem_cons_self (.head off) (by omega) fun h' F' N' => out_next ?_
    exact ret [] n oC mC h' _ F' (by rw [List.append_nil]; exact N') ho .nil
  | succ k ih =>
    intro s vs n oC mC hk hl F N ho ret
    refine out_step hf fun E' => ?_
    refine next_rng F N (.head off) (by omega) fun h₁ t tk₁ F₁ N₁ => out_name ?_
    refine comp_store (g := fun o' => (I, ritO ((((k + 1 : Nat) : Int) - 1) + -1) (((k + 1 : Nat) : Int) - 1) (-1)) :: (C, o') :: (D, listOf vs.toArray n) :: rest) hx hp F₁ N₁ (.tail (g := fun o' => (C, o') :: (D, listOf vs.toArray n) :: rest) (Ne.symm hIC) (.head ?_)) ho fun h₂ oC₂ F₂ N₂ hC₂ => ?_
    · intro p hp
      rcases List.mem_cons.mp hp with rfl | hp
      · exact hCD
      · exact hC p hp
    have ej : (((k + 1 : Nat) : Int) - 1) = (k : Int) := by omega
    rw [ej] at N₂ hC₂
    refine wpAny_mono (turn k t _ vs n oC₂ _ mC E' (Back2 prog w A elt [⟨.Name x px, i1, [], 0⟩, ⟨t2, i2, [], 0⟩] scope pos (.ref I) (.ref D) (compEnvC scope cl C env) R E') (by omega) (by omega) F₂ N₂ hC₂ fun ws n' oC'' mC'' h' tk' F' N' ho' hw => back2_ok ?_) (fun v s₄ h₄ => ?_) fun _ _ e => e
    · refine ih _ (vs ++ ws) n' oC'' mC'' (by omega) ?_ F' (news_sub N' fun p hp => ?_) ho' fun ws' n'' oC3 mC3 h3 tk3 F3 N3 ho3 hw3 => ?_
      · have := hin k (by omega)
        rw [List.length_append, hw.length]; omega
      · rw [← Int.sub_eq_add_neg] at N'
        rcases List.mem_cons.mp hp with rfl | hp
        · exact List.mem_cons_of_mem _ (List.mem_cons_of_mem _ List.mem_cons_self)
        rcases List.mem_cons.mp hp with rfl | hp
        · exact List.mem_cons_self
        rcases List.mem_cons.mp hp with rfl | hp
        · exact List.mem_cons_of_mem _ List.mem_cons_self
        · exact List.mem_cons_of_mem _ (List.mem_cons_of_mem _ (List.mem_cons_of_mem _ hp))
      · rw [List.append_assoc] at N3
        exact ret _ n'' oC3 mC3 h3 _ F3 N3 ho3 (hw.append hw3)
    · exact h₄
end
end
section
theorem rng_dnN : ∀ k : Nat, k < 12 → Builtin.Range.small ((k : Int) - 1) (-1) (-1) = true ∧ Builtin.Range.rangeSize ((k : Int) - 1) (-1) (-1) = (k : Int) := by decide
theorem rng_dn {a : Int} (h : -1 ≤ a ∧ a ≤ 10) : Builtin.Range.small a (-1) (-1) = true ∧ Builtin.Range.rangeSize a (-1) (-1) = a + 1 := by
  have e : a = (((a + 1).toNat : Nat) : Int) - 1 := by omega
  have := rng_dnN (a + 1).toNat (by omega)
  rw [← e] at this
  exact ⟨this.1, by rw [this.2]; omega⟩
section
variable {prog : Program} {w : World} {A : Around} {E : Value → Shared → Prop} {s : Shared} {h₀ : Heap} {L : Addr} {m : Str → Option Value} {news : Led} {Q : Value → Shared → Prop}
theorem iter_dn {r : Addr} {a : Int} {t u v : Tok} (hr : IsRange s.heap r a (-1) (-1) t u v) (ha : -1 ≤ a ∧ a ≤ 10) (F : Fr h₀ L s.heap m) (N : News h₀ L s.heap news)
    (h : ∀ I h', Fr h₀ L h' m → News h₀ L h' ((I, ritO a (a + 1) (-1)) :: news) → (∀ p ∈ news, p.1 < I) → Q (.ref I) { s with heap := h' }) : wpAny (model prog w) A (pyIter (.ref r)) Q E s :=
  iter_rng hr (rng_dn ha).1 (rng_dn ha).2 F N h
end
/-- the weights of a degree -/
noncomputable def innerF (d M : Int) : List Int := downs (fun j => 64 * M + 8 * j + d - M - j) (d - M + 1).toNat
theorem innerF_len {d M : Int} (h : 0 ≤ M ∧ M ≤ d ∧ d ≤ 5) : (innerF d M).length ≤ 10 := by
  unfold innerF
  rw [downs_len]; omega
end
section
theorem all_led {h₀ h : Heap} {L I C D : Addr} {oC : Obj} {rest : Led} {dn : Nat} (N : News h₀ L h ((C, oC) :: (D, LCg.lst []) :: (I, ritO (dn : Int) ((dn : Int) + 1) (-1)) :: rest)) :
    News h₀ L h ((I, ritO (((dn + 1 : Nat) : Int) - 1) ((dn + 1 : Nat) : Int) (-1)) :: (C, oC) :: (D, listOf ([] : List Value).toArray 0) :: rest) := by
  have e1 : ((dn + 1 : Nat) : Int) = (dn : Int) + 1 := Int.natCast_succ dn
  rw [e1, show (dn : Int) + 1 - 1 = dn from Int.add_sub_cancel _ _]
  refine news_sub N fun p hp => ?_
  rcases List.mem_cons.mp hp with rfl | hp
  · exact List.mem_cons_of_mem _ (List.mem_cons_of_mem _ List.mem_cons_self)
  rcases List.mem_cons.mp hp with rfl | hp
  · exact List.mem_cons_self
  rcases List.mem_cons.mp hp with rfl | hp
  · exact List.mem_cons_of_mem _ List.mem_cons_self
  · exact List.mem_cons_of_mem _ (List.mem_cons_of_mem _ (List.mem_cons_of_mem _ hp))
theorem all_rot {h₀ h : Heap} {L : Addr} {a b c : Addr × Obj} {rest : Led} (N : News h₀ L h (a :: b :: c :: rest)) : News h₀ L h (b :: c :: a :: rest) := by
  refine news_sub N fun p hp => ?_
  rcases List.mem_cons.mp hp with rfl | hp
  · exact List.mem_cons_of_mem _ List.mem_cons_self
  rcases List.mem_cons.mp hp with rfl | hp
  · exact List.mem_cons_of_mem _ (List.mem_cons_of_mem _ List.mem_cons_self)
  rcases List.mem_cons.mp hp with rfl | hp
  · exact List.mem_cons_self
  · exact List.mem_cons_of_mem _ (List.mem_cons_of_mem _ (List.mem_cons_of_mem _ hp))
end
end Comp4_part
section Inv_part
open PySem PySem.W PyProof.Rows PyProof.Rows.LCg
section
/-- what is new lies above what stood -/
noncomputable def Abv (old new : Led) : Prop := ∀ q ∈ old, ∀ p ∈ new, q.1 < p.1
theorem Abv.nil {old : Led} : Abv old [] := fun _ _ _ h => nomatch h
theorem Abv.sub {old old' new : Led} (h : Abv old new) (hs : ∀ p ∈ old', p ∈ old) : Abv old' new := fun q hq => h q (hs q hq)
theorem Abv.one {old : Led} {a : Addr} {o : Obj} (h : ∀ q ∈ old, q.1 < a) : Abv old [(a, o)] := fun q hq p hp => by rw [List.mem_singleton.mp hp]; exact h q hq
theorem Abv.cons {old new : Led} {a : Addr} {o : Obj} (h : ∀ q ∈ old, q.1 < a) (k : Abv old new) : Abv old ((a, o) :: new) := fun q hq p hp => by
  rcases List.mem_cons.mp hp with rfl | hp
  · exact h q hq
  · exact k q hq p hp
theorem Abv.app {old new new' : Led} (h : Abv old new) (k : Abv old new') : Abv old (new' ++ new) := fun q hq p hp => (List.mem_append.mp hp).elim (k q hq p) (h q hq p)
theorem Abv.ne {old new : Led} (h : Abv old new) {a : Addr} {o : Obj} (hm : (a, o) ∈ old) : ∀ p ∈ new, p.1 ≠ a := fun p hp => Ne.symm (Nat.ne_of_lt (h _ hm p hp))
theorem Abv.lt {old new : Led} (h : Abv old new) {a : Addr} {o : Obj} (hm : (a, o) ∈ old) : ∀ p ∈ new, a < p.1 := fun p hp => h _ hm p hp
theorem off_app {new g : Led} {a : Addr} (h : ∀ p ∈ new, p.1 ≠ a) (k : ∀ p ∈ g, p.1 ≠ a) : ∀ p ∈ new ++ g, p.1 ≠ a := fun p hp => (List.mem_append.mp hp).elim (h p) (k p)
theorem off_cons {x : Addr × Obj} {g : Led} {a : Addr} (h : x.1 ≠ a) (k : ∀ p ∈ g, p.1 ≠ a) : ∀ p ∈ x :: g, p.1 ≠ a := fun p hp => by
  rcases List.mem_cons.mp hp with rfl | hp
  · exact h
  · exact k p hp

theorem lst_at {prog : Program} {w : World} {A : Around} {E : Value → Shared → Prop} {s : Shared} {h₀ : Heap} {L : Addr} {news : Led} {value slice : Expr} {a : Addr} {its : List Value} {n : Nat} {k : Int} {u : Tok} {v : Value} {Q : Value → Shared → Prop} (N : News h₀ L s.heap news) (hm : (a, listOf its.toArray n) ∈ news)
    (h0 : 0 ≤ k) (h1 : k < 2 ^ 63) (hx : its[k.toNat]? = some v) (h : Q v s)
    (hs : subscripted slice false (.ref a) (.int k u) = operate [.ref a, .int k u] (getItem (.ref a) (.int k u)) := by with_unfolding_all rfl) :
    wpAny (model prog w) A (subscriptTail value slice (.ref a) (.int k u)) Q E s :=
  have hl : s.heap.IsList a its.toArray := ⟨_, News.get N hm, rfl, _, rfl⟩
  tail_any hl.typeIs slot_list_getitem.lookup (wpAny_getItem_list hl h0 h1 (by rw [List.getElem?_toArray]; exact hx) h) hs
theorem append_V {prog : Program} {w : World} {A : Around} {E : Value → Shared → Prop} {s : Shared} {h₀ : Heap} {L D : Addr} {m : Str → Option Value} {news news' : Led} {vs : List Value} {n : Nat} {x : Value} {Q : Value → Shared → Prop} (F : Fr h₀ L s.heap m) (N : News h₀ L s.heap news) (U : Upd D (listOf vs.toArray n) (listOf (vs ++ [x]).toArray (n + 1)) news news')
    (h : ∀ h', Fr h₀ L h' m → News h₀ L h' news' → Q .none { s with heap := h' }) (hsz : vs.length ≤ 1000) : wpAny (model prog w) A (call (.builtin "list.append") [.ref D, x]) Q E s :=
  append_K F N (by rw [show vs.toArray.push x = (vs ++ [x]).toArray by simp]; exact U) h (by rw [List.size_toArray, sizeLine_eq]; omega)
section
variable {prog : Program} {w : World}
/-- a source that a loop draws from -/
structure Src (prog : Program) (w : World) (I : Addr) (n : Nat) (IsAt : Nat → Obj → Prop) (val : Nat → Value → Prop) (need : Led → Prop) : Prop where
  next : ∀ {A : Around} {E : Value → Shared → Prop} {s : Shared} {h₀ : Heap} {L : Addr} {m : Str → Option Value} {news : Led} {o : Obj} {i : Nat} {Q : Option Value → Shared → Prop}, i < n → Fr h₀ L s.heap m → News h₀ L s.heap ((I, o) :: news) → (∀ p ∈ news, p.1 ≠ I) → IsAt i o → need news →
    (∀ h' tk o' v, Fr h₀ L h' m → News h₀ L h' ((I, o') :: news) → IsAt (i + 1) o' → val i v → Q (some v) { s with heap := h', toks := tk }) → wpAny (model prog w) A (pyNext (.ref I)) Q E s
  done : ∀ {A : Around} {E : Value → Shared → Prop} {s : Shared} {h₀ : Heap} {L : Addr} {m : Str → Option Value} {news : Led} {o : Obj} {Q : Option Value → Shared → Prop}, A.handled = none → Fr h₀ L s.heap m → News h₀ L s.heap ((I, o) :: news) → (∀ p ∈ news, p.1 ≠ I) → IsAt n o → need news →
    (∀ h', Fr h₀ L h' m → News h₀ L h' news → Q none { s with heap := h' }) → wpAny (model prog w) A (pyNext (.ref I)) Q E s
theorem src_lst {I l : Addr} {vs : List Value} {k : Nat} : Src prog w I vs.length (fun i o => IsLit o l i) (fun i v => vs[i]? = some v) (fun g => (l, listOf vs.toArray k) ∈ g) where
  next := fun {_ _ _ _ _ _ _ _ i _} hi F N off ho hn h => by
    have hx : vs.toArray[i]? = some (vs[i]'hi) := by rw [List.getElem?_toArray]; exact List.getElem?_eq_getElem hi
    exact next_lst F N (UpdF.head off) ho (List.mem_cons_of_mem _ hn) hx fun h' o' F' N' ho' => h h' _ o' _ F' N' ho' (List.getElem?_eq_getElem hi)
  done := fun hh F N off ho hn h => next_lst_end hh F N List.mem_cons_self (.head off) ho (List.mem_cons_of_mem _ hn) (by rw [List.getElem?_toArray]; exact List.getElem?_eq_none (Nat.le_refl _)) h
theorem src_up {I : Addr} {n : Nat} : Src prog w I n (fun i o => o = ritO i ((n : Int) - i) 1) (fun i v => ∃ t, v = .int i t) (fun _ => True) where
  next := fun {_ _ _ _ _ _ _ _ i _} hi F N off ho _ h => by
    subst ho
    refine next_rng F N (Upd.head off) (by omega) fun h' t tk F' N' => h h' tk _ _ F' N' ?_ ⟨t, rfl⟩
    have e2 : (n : Int) - i - 1 = (n : Int) - ((i + 1 : Nat) : Int) := by omega
    rw [e2]; rfl
  done := fun hh F N off ho _ h => by
    subst ho
    exact next_rng_end hh F N List.mem_cons_self (.head off) (by omega) h
theorem src_down {I : Addr} {n : Nat} : Src prog w I n (fun i o => o = ritO ((n : Int) - i) ((n : Int) - i) (-1)) (fun i v => ∃ t, v = .int ((n : Int) - i) t) (fun _ => True) where
  next := fun {_ _ _ _ _ _ _ _ i _} hi F N off ho _ h => by
    subst ho
    refine next_rng F N (Upd.head off) (by omega) fun h' t tk F' N' => h h' tk _ _ F' N' ?_ ⟨t, rfl⟩
    have e1 : (n : Int) - i + -1 = (n : Int) - ((i + 1 : Nat) : Int) := by omega
    have e2 : (n : Int) - i - 1 = (n : Int) - ((i + 1 : Nat) : Int) := by omega
    rw [e1, e2]
  done := fun hh F N off ho _ h => by
    subst ho
    exact next_rng_end hh F N List.mem_cons_self (.head off) (by omega) h
end

section
variable {prog : Program} {w : World} {A : Around} {E : Value → Shared → Prop} {s : Shared} {env : Env} {body : List Stmt} {Q : Flow → Shared → Prop} {h₀ : Heap} {I : Addr}
/-- what a turn of a for loop leaves -/
noncomputable def FEnd {σ : Type} (h₀ : Heap) (L : Addr) (s : Shared) (Led : σ → Led) (ps : σ → List (Str × Value)) (stored : List Str) (m₀ : Str → Option Value) (P : Nat → σ → Prop) (Q : Flow → Shared → Prop) (I : Addr) (o' : Obj) (i : Nat) (f : Flow) (s₂ : Shared) : Prop :=
  match f with
  | .ret v => Q (.ret v) s₂
  | .brk => Q .next s₂
  | _ => ∃ (c' : σ) (h' : Heap) (tk : Nat) (m' : Str → Option Value), s₂ = { s with heap := h', toks := tk } ∧ Fr h₀ L h' m' ∧ News h₀ L h' ((I, o') :: Led c') ∧ (∀ p ∈ ps c', m' p.1 = some p.2) ∧
      (∀ z, (∀ p ∈ ps c', z ≠ p.1) → stored.contains z = false → m' z = m₀ z) ∧ (∀ p ∈ Led c', p.1 ≠ I) ∧ P i c'
theorem f_end {σ : Type} {L : Addr} {Led : σ → Led} {ps : σ → List (Str × Value)} {stored : List Str} {m₀ m' : Str → Option Value} {P : Nat → σ → Prop} {o' : Obj} {i : Nat} {h' : Heap} {tk : Nat} (c' : σ)
    (F : Fr h₀ L h' m') (N : News h₀ L h' ((I, o') :: Led c')) (hk : ∀ p ∈ ps c', m' p.1 = some p.2) (hr : ∀ z, (∀ p ∈ ps c', z ≠ p.1) → stored.contains z = false → m' z = m₀ z) (off : ∀ p ∈ Led c', p.1 ≠ I) (hP : P i c') :
    FEnd h₀ L s Led ps stored m₀ P Q I o' i .next { s with heap := h', toks := tk } := ⟨c', h', tk, m', rfl, F, N, hk, hr, off, hP⟩
theorem for_inv {σ : Type} (Led : σ → Led) (ps : σ → List (Str × Value)) (stored : List Str) (P : Nat → σ → Prop) (c₀ : σ) {m₀ : Str → Option Value} {n : Nat} {IsAt : Nat → Obj → Prop} {val : Nat → Value → Prop} {need : Mine.Led → Prop} {x : Str} {px : Pos} {o : Obj}
    (S : Src prog w I n IsAt val need) (hx : env.kindOf x = some .local) (hp : (env.scope.kind == .class || (env.scope.kind == .module && env.locals != env.globals)) = false) (hh : A.handled = none)
    (F : Fr h₀ env.locals s.heap m₀) (N : News h₀ env.locals s.heap ((I, o) :: Led c₀)) (ho : IsAt 0 o) (off : ∀ p ∈ Led c₀, p.1 ≠ I) (hk : ∀ p ∈ ps c₀, m₀ p.1 = some p.2) (hP : P 0 c₀) (hn : ∀ i c, P i c → need (Led c))
    (turn : ∀ (i : Nat) (v : Value) (c : σ) (u : Str → Option Value) (h : Heap) (tk : Nat) (o' : Obj) (E' : Value → Shared → Prop), i < n → val i v → P i c → (∀ p ∈ Led c, p.1 ≠ I) → Fr h₀ env.locals h (fun y => if y = x then some v else kstB (fun z => if stored.contains z then u z else m₀ z) (ps c) y) →
      News h₀ env.locals h ((I, o') :: Led c) → wpAny (model prog w) A (execs body env) (FEnd h₀ env.locals s Led ps stored m₀ P Q I o' (i + 1)) E' { s with heap := h, toks := tk })
    (ret : ∀ (c : σ) (u : Str → Option Value) (h : Heap) (tk : Nat), P n c → Fr h₀ env.locals h (kstB (fun z => if stored.contains z then u z else m₀ z) (ps c)) → News h₀ env.locals h (Led c) → Q .next { s with heap := h, toks := tk }) :
    ForGo prog w A E env (.Name x px) (.ref I) body Q s := by
  have key : ∀ (k i : Nat) (c : σ) (h : Heap) (tk : Nat) (m : Str → Option Value) (o : Obj), i + k = n → Fr h₀ env.locals h m → News h₀ env.locals h ((I, o) :: Led c) → IsAt i o → (∀ p ∈ Led c, p.1 ≠ I) → (∀ p ∈ ps c, m p.1 = some p.2) → (∀ z, (∀ p ∈ ps c, z ≠ p.1) → stored.contains z = false → m z = m₀ z) → P i c →
      ForGo prog w A E env (.Name x px) (.ref I) body Q { s with heap := h, toks := tk } := by
    intro k
    induction k with
    | zero =>
      intro i c h tk m o hi F N ho off hk hr hP
      have : i = n := by omega
      subst this
      refine for_step fun E' => ?_
      exact S.done hh F N off ho (hn _ _ hP) fun h' F' N' => for_done (ret c m h' _ hP (ksw_fr hk hr F') N')
    | succ k ih =>
      intro i c h tk m o hi F N ho off hk hr hP
      refine for_step fun E' => ?_
      refine S.next (by omega) F N off ho (hn _ _ hP) fun h₁ tk₁ o' v F₁ N₁ ho' hv => for_name ?_
      refine wpAny_storeName_local hx F₁.ns (fun h₂ hn₂ hs₂ => ?_) hp
      have F₂ := F₁.set hn₂ hs₂
      have N₂ := N₁.set hs₂
      have em : (fun y => if y = x then some v else m y) = (fun y => if y = x then some v else kstB (fun z => if stored.contains z then m z else m₀ z) (ps c) y) := by
        funext y
        by_cases e : y = x
        · rw [if_pos e, if_pos e]
        · rw [if_neg e, if_neg e]
          refine (kstB_eq hk fun hn => ?_).symm
          cases h3 : stored.contains y with
          | true => simp
          | false => simp only [Bool.false_eq_true, if_false]; exact (hr y hn h3).symm
      rw [em] at F₂
      refine wpAny_mono (turn i v c m h₂ _ o' E' (by omega) hv hP off F₂ N₂) (fun f s₄ h₄ => ?_) fun _ _ e => e
      cases f with
      | ret v => exact h₄
      | brk => exact h₄
      | next =>
        obtain ⟨c', h', tk', m', rfl, F', N', hk', hr', off', hP'⟩ := h₄
        exact ih (i + 1) c' h' tk' m' o' (by omega) F' N' ho' off' hk' hr' hP'
      | cont =>
        obtain ⟨c', h', tk', m', rfl, F', N', hk', hr', off', hP'⟩ := h₄
        exact ih (i + 1) c' h' tk' m' o' (by omega) F' N' ho' off' hk' hr' hP'
  exact key n 0 c₀ s.heap s.toks m₀ o (by omega) F N ho off hk (fun _ _ _ => rfl) hP
end

section
variable {prog : Program} {w : World} {A : Around} {E : Value → Shared → Prop} {s : Shared} {env : Env} {body : List Stmt} {Q : Flow → Shared → Prop} {h₀ : Heap} {I D : Addr}
/-- a for loop that grows one object -/
theorem for_inv1 {σ : Type} (Ob : σ → Obj) (G : σ → Led) (ps : σ → List (Str × Value)) (stored : List Str) (P : Nat → σ → Prop) (c₀ : σ) {m₀ : Str → Option Value} {n : Nat} {IsAt : Nat → Obj → Prop} {val : Nat → Value → Prop} {need : Led → Prop} {x : Str} {px : Pos} {o : Obj}
    (S : Src prog w I n IsAt val need) (hx : env.kindOf x = some .local) (hp : (env.scope.kind == .class || (env.scope.kind == .module && env.locals != env.globals)) = false) (hh : A.handled = none)
    (F : Fr h₀ env.locals s.heap m₀) (N : News h₀ env.locals s.heap ((I, o) :: (D, Ob c₀) :: G c₀)) (ho : IsAt 0 o) (off : ∀ p ∈ (D, Ob c₀) :: G c₀, p.1 ≠ I) (offD : ∀ p ∈ G c₀, p.1 ≠ D) (hk : ∀ p ∈ ps c₀, m₀ p.1 = some p.2) (hP : P 0 c₀) (hn : ∀ i c, P i c → need ((D, Ob c) :: G c))
    (turn : ∀ (i : Nat) (v : Value) (c : σ) (u : Str → Option Value) (h : Heap) (tk : Nat) (o' : Obj) (E' : Value → Shared → Prop), i < n → val i v → P i c → (∀ p ∈ G c, p.1 ≠ I) → D ≠ I → (∀ p ∈ G c, p.1 ≠ D) → Fr h₀ env.locals h (fun y => if y = x then some v else kstB (fun z => if stored.contains z then u z else m₀ z) (ps c) y) →
      News h₀ env.locals h ((I, o') :: (D, Ob c) :: G c) → wpAny (model prog w) A (execs body env) (FEnd h₀ env.locals s (fun c => (D, Ob c) :: G c) ps stored m₀ (fun i c => P i c ∧ ∀ p ∈ G c, p.1 ≠ D) Q I o' (i + 1)) E' { s with heap := h, toks := tk })
    (ret : ∀ (c : σ) (u : Str → Option Value) (h : Heap) (tk : Nat), P n c → (∀ p ∈ G c, p.1 ≠ D) → Fr h₀ env.locals h (kstB (fun z => if stored.contains z then u z else m₀ z) (ps c)) → News h₀ env.locals h ((D, Ob c) :: G c) → Q .next { s with heap := h, toks := tk }) :
    ForGo prog w A E env (.Name x px) (.ref I) body Q s :=
  for_inv (fun c => (D, Ob c) :: G c) ps stored (fun i c => P i c ∧ ∀ p ∈ G c, p.1 ≠ D) c₀ S hx hp hh F N ho off hk ⟨hP, offD⟩ (fun i c h => hn i c h.1)
    (fun i v c u h tk o' E' hi hv hP off F N => turn i v c u h tk o' E' hi hv hP.1 (fun p hp => off p (List.mem_cons_of_mem _ hp)) (off _ List.mem_cons_self) hP.2 F N)
    (fun c u h tk hP F N => ret c u h tk hP.1 hP.2 F N)
/-- a for loop that changes ints of the frame alone -/
theorem for_inv0 {σ : Type} {g : Led} (ps : σ → List (Str × Value)) (stored : List Str) (P : Nat → σ → Prop) (c₀ : σ) {m₀ : Str → Option Value} {n : Nat} {IsAt : Nat → Obj → Prop} {val : Nat → Value → Prop} {need : Led → Prop} {x : Str} {px : Pos} {o : Obj}
    (S : Src prog w I n IsAt val need) (hx : env.kindOf x = some .local) (hp : (env.scope.kind == .class || (env.scope.kind == .module && env.locals != env.globals)) = false) (hh : A.handled = none)
    (F : Fr h₀ env.locals s.heap m₀) (N : News h₀ env.locals s.heap ((I, o) :: g)) (ho : IsAt 0 o) (off : ∀ p ∈ g, p.1 ≠ I) (hk : ∀ p ∈ ps c₀, m₀ p.1 = some p.2) (hP : P 0 c₀) (hn : need g)
    (turn : ∀ (i : Nat) (v : Value) (c : σ) (u : Str → Option Value) (h : Heap) (tk : Nat) (o' : Obj) (E' : Value → Shared → Prop), i < n → val i v → P i c → Fr h₀ env.locals h (fun y => if y = x then some v else kstB (fun z => if stored.contains z then u z else m₀ z) (ps c) y) →
      News h₀ env.locals h ((I, o') :: g) → wpAny (model prog w) A (execs body env) (FEnd h₀ env.locals s (fun _ => g) ps stored m₀ P Q I o' (i + 1)) E' { s with heap := h, toks := tk })
    (ret : ∀ (c : σ) (u : Str → Option Value) (h : Heap) (tk : Nat), P n c → Fr h₀ env.locals h (kstB (fun z => if stored.contains z then u z else m₀ z) (ps c)) → News h₀ env.locals h g → Q .next { s with heap := h, toks := tk }) :
    ForGo prog w A E env (.Name x px) (.ref I) body Q s :=
  for_inv (fun _ => g) ps stored P c₀ S hx hp hh F N ho off hk hP (fun _ _ _ => hn) (fun i v c u h tk o' E' hi hv hP _ F N => turn i v c u h tk o' E' hi hv hP F N) (fun c u h tk hP F N => ret c u h tk hP F N)
end

section
variable {prog : Program} {w : World} {A : Around} {E : Value → Shared → Prop} {s : Shared} {h₀ : Heap} {L I C D : Addr} {m : Str → Option Value} {env : Env} {R : Result → Shared → Prop}
/-- what an element of a comprehension leaves -/
noncomputable def CEnd (h₀ : Heap) (L : Addr) (s : Shared) (m : Str → Option Value) (old : Led) (g : Led) (front : Led) (Rel : Led → Nat → Value → Prop) (i : Nat) (y : Value) (s₂ : Shared) : Prop :=
  ∃ (new : Led) (h' : Heap) (tk : Nat), s₂ = { s with heap := h', toks := tk } ∧ Fr h₀ L h' m ∧ News h₀ L h' (front ++ (new ++ g)) ∧ Abv old new ∧ Rel (new ++ g) i y
theorem comp_map {x : Str} {px : Pos} {elt iter : Expr} {scope : Scope} {cl : List (Str × Addr)} {pos : Pos} {n : Nat} {IsAt : Nat → Obj → Prop} {val : Nat → Value → Prop} {need : Led → Prop} {o oC : Obj} {g : Led}
    (Rel : Led → Nat → Value → Prop) (mono : ∀ g g' i v, (∀ p ∈ g, p ∈ g') → Rel g i v → Rel g' i v)
    (S : Src prog w I n IsAt val need) (hx : (compEnvC scope cl C env).kindOf x = some .local) (hp : ((compEnvC scope cl C env).scope.kind == .class || ((compEnvC scope cl C env).scope.kind == .module && (compEnvC scope cl C env).locals != (compEnvC scope cl C env).globals)) = false) (hh : A.handled = none) (hz : n ≤ 1000)
    (F : Fr h₀ L s.heap m) (N : News h₀ L s.heap ((I, o) :: (C, oC) :: (D, lst []) :: g)) (ho : IsAt 0 o) (hC : NsObj oC zeroFr) (hCI : C ≠ I) (hDI : D ≠ I) (hDC : D ≠ C) (oI : ∀ p ∈ g, p.1 ≠ I) (oCg : ∀ p ∈ g, p.1 ≠ C) (oD : ∀ p ∈ g, p.1 ≠ D) (hn : ∀ (g' : Led), (∀ p ∈ g, p ∈ g') → need g')
    (turn : ∀ (i : Nat) (v : Value) (vs : List Value) (new : Led) (k : Nat) (h : Heap) (tk : Nat) (oC' o' : Obj) (E' : Value → Shared → Prop), i < n → val i v → (∀ p ∈ new ++ g, p.1 ≠ I) → (∀ p ∈ new ++ g, p.1 ≠ C) → (∀ p ∈ new ++ g, p.1 ≠ D) → Fr h₀ L h m →
      News h₀ L h ((C, oC') :: (I, o') :: (D, listOf vs.toArray k) :: (new ++ g)) → NsObj oC' (fun y => if y = x then some v else zeroFr y) →
      wpAny (model prog w) A (eval elt (compEnvC scope cl C env)) (CEnd h₀ L s m ((C, oC') :: (I, o') :: (D, listOf vs.toArray k) :: (new ++ g)) (new ++ g) [(C, oC'), (I, o'), (D, listOf vs.toArray k)] Rel i) E' { s with heap := h, toks := tk })
    (ret : ∀ (vs : List Value) (new : Led) (k : Nat) (oC' : Obj) (mC : Str → Option Value) (h : Heap) (tk : Nat), vs.length = n → (∀ i v, vs[i]? = some v → Rel (new ++ g) i v) → Fr h₀ L h m → News h₀ L h ((C, oC') :: (D, listOf vs.toArray k) :: (new ++ g)) → NsObj oC' mC →
      (∀ p ∈ new ++ g, p.1 ≠ C) → (∀ p ∈ new ++ g, p.1 ≠ D) → Abv ((I, o) :: (C, oC) :: (D, lst []) :: g) new → R (.ok .next) { s with heap := h, toks := tk }) :
    CompGo prog w A (.ListComp elt [⟨.Name x px, iter, [], 0⟩] scope pos) 0 (.ref I) (.ref D) (compEnvC scope cl C env) R s := by
  have key : ∀ (j i : Nat) (vs : List Value) (new : Led) (k : Nat) (h : Heap) (tk : Nat) (oC' o' : Obj) (mC : Str → Option Value), i + j = n → vs.length = i → (∀ i v, vs[i]? = some v → Rel (new ++ g) i v) → Fr h₀ L h m → News h₀ L h ((I, o') :: (C, oC') :: (D, listOf vs.toArray k) :: (new ++ g)) → IsAt i o' → NsObj oC' mC → (∀ y, y ≠ x → mC y = zeroFr y) →
      Abv ((I, o) :: (C, oC) :: (D, lst []) :: g) new →
      CompGo prog w A (.ListComp elt [⟨.Name x px, iter, [], 0⟩] scope pos) 0 (.ref I) (.ref D) (compEnvC scope cl C env) R { s with heap := h, toks := tk } := by
    intro j
    induction j with
    | zero =>
      intro i vs new k h tk oC' o' mC hi hl hv F N ho hC hm ab
      have : i = n := by omega
      subst this
      have hI : ∀ p ∈ new ++ g, p.1 ≠ I := off_app (ab.ne List.mem_cons_self) oI
      have hCo : ∀ p ∈ new ++ g, p.1 ≠ C := off_app (ab.ne (List.mem_cons_of_mem _ List.mem_cons_self)) oCg
      refine comp_step fun E' => ?_
      have hDo : ∀ p ∈ new ++ g, p.1 ≠ D := off_app (ab.ne (List.mem_cons_of_mem _ (List.mem_cons_of_mem _ List.mem_cons_self))) oD
      exact S.done hh F N (off_cons hCI (off_cons hDI hI)) ho (hn _ fun p hp => List.mem_cons_of_mem _ (List.mem_cons_of_mem _ (List.mem_append.mpr (.inr hp)))) fun h' F' N' => comp_next (ret vs new k oC' mC h' _ hl hv F' N' hC hCo hDo ab)
    | succ j ih =>
      intro i vs new k h tk oC' o' mC hi hl hv F N ho hC hm ab
      have hI : ∀ p ∈ new ++ g, p.1 ≠ I := off_app (ab.ne List.mem_cons_self) oI
      have hCo : ∀ p ∈ new ++ g, p.1 ≠ C := off_app (ab.ne (List.mem_cons_of_mem _ List.mem_cons_self)) oCg
      have hDo : ∀ p ∈ new ++ g, p.1 ≠ D := off_app (ab.ne (List.mem_cons_of_mem _ (List.mem_cons_of_mem _ List.mem_cons_self))) oD
      refine comp_step fun E' => ?_
      refine S.next (by omega) F N (off_cons hCI (off_cons hDI hI)) ho (hn _ fun p hp => List.mem_cons_of_mem _ (List.mem_cons_of_mem _ (List.mem_append.mpr (.inr hp)))) fun h₁ tk₁ o₁ v F₁ N₁ ho₁ hval => comp_name ?_
      refine comp_store (g := fun o' => (I, o₁) :: (C, o') :: (D, listOf vs.toArray k) :: (new ++ g)) hx hp F₁ N₁ (.tail (g := fun o' => (C, o') :: (D, listOf vs.toArray k) :: (new ++ g)) (Ne.symm hCI) (.head (off_cons hDC hCo))) hC fun h₂ oC₂ F₂ N₂ hC₂ => ?_
      have hC₃ : NsObj oC₂ (fun y => if y = x then some v else zeroFr y) := by
        have : (fun y => if y = x then some v else mC y) = (fun y => if y = x then some v else zeroFr y) := by
          funext y
          by_cases e : y = x
          · rw [if_pos e, if_pos e]
          · rw [if_neg e, if_neg e, hm y e]
        rw [← this]; exact hC₂
      refine wpAny_mono (turn i v vs new k h₂ _ oC₂ o₁ E' (by omega) hval hI hCo hDo F₂ (news_sub N₂ fun p hp => ?_) hC₃) (fun y s₄ h₄ => ?_) fun _ _ e => e
      · rcases List.mem_cons.mp hp with rfl | hp
        · exact List.mem_cons_of_mem _ List.mem_cons_self
        · rcases List.mem_cons.mp hp with rfl | hp
          · exact List.mem_cons_self
          · exact List.mem_cons_of_mem _ (List.mem_cons_of_mem _ hp)
      · obtain ⟨new', h', tk', rfl, F', N', ab', hR⟩ := h₄
        have aI := ab'.ne (a := I) (List.mem_cons_of_mem _ List.mem_cons_self)
        have aC := ab'.ne (a := C) List.mem_cons_self
        have aD := ab'.ne (a := D) (List.mem_cons_of_mem _ (List.mem_cons_of_mem _ List.mem_cons_self))
        have N'' : News h₀ L h' ((C, oC₂) :: (I, o₁) :: (D, listOf vs.toArray k) :: (new' ++ (new ++ g))) := N'
        refine append_K (news' := (C, oC₂) :: (I, o₁) :: (D, listOf (vs.toArray.push y) (k + 1)) :: (new' ++ (new ++ g))) F' N'' (.tail (Ne.symm hDC) (.tail (Ne.symm hDI) (.head (off_app aD hDo)))) (fun h₅ F₅ N₅ => ?_) ?_
        · have e1 : vs.toArray.push y = (vs ++ [y]).toArray := by simp
          rw [e1, ← List.append_assoc] at N₅
          refine ih (i + 1) (vs ++ [y]) (new' ++ new) (k + 1) h₅ _ oC₂ o₁ _ (by omega) (by rw [List.length_append, hl]; rfl) (fun i' v' hv' => ?_) F₅ (news_sub N₅ fun p hp => ?_) ho₁ hC₃ (fun z e => if_neg e) ?_
          · rw [List.append_assoc]
            rcases Nat.lt_trichotomy i' vs.length with q | q | q
            · rw [List.getElem?_append_left q] at hv'
              exact mono _ _ _ _ (fun p hp => List.mem_append.mpr (.inr hp)) (hv i' v' hv')
            · subst q
              rw [List.getElem?_append_right (Nat.le_refl _), Nat.sub_self] at hv'
              cases hv'
              rw [hl]; exact hR
            · rw [List.getElem?_eq_none (by rw [List.length_append, List.length_singleton]; omega)] at hv'
              cases hv'
          · rcases List.mem_cons.mp hp with rfl | hp
            · exact List.mem_cons_of_mem _ List.mem_cons_self
            · rcases List.mem_cons.mp hp with rfl | hp
              · exact List.mem_cons_self
              · exact List.mem_cons_of_mem _ (List.mem_cons_of_mem _ hp)
          · intro q hq p hp
            rcases List.mem_append.mp hp with hp | hp
            · have hq' : ∃ o', (q.1, o') ∈ (C, oC₂) :: (I, o₁) :: (D, listOf vs.toArray k) :: (new ++ g) := by
                rcases List.mem_cons.mp hq with rfl | hq
                · exact ⟨_, List.mem_cons_of_mem _ List.mem_cons_self⟩
                · rcases List.mem_cons.mp hq with rfl | hq
                  · exact ⟨_, List.mem_cons_self⟩
                  · rcases List.mem_cons.mp hq with rfl | hq
                    · exact ⟨_, List.mem_cons_of_mem _ (List.mem_cons_of_mem _ List.mem_cons_self)⟩
                    · exact ⟨q.2, List.mem_cons_of_mem _ (List.mem_cons_of_mem _ (List.mem_cons_of_mem _ (List.mem_append.mpr (.inr hq))))⟩
              obtain ⟨o', hq'⟩ := hq'
              exact ab' _ hq' p hp
            · exact ab q hq p hp
        · rw [List.size_toArray, sizeLine_eq]; omega
  exact key n 0 [] [] 0 s.heap s.toks oC o zeroFr (by omega) rfl (fun _ _ e => by simp at e) F N ho hC (fun _ _ => rfl) Abv.nil
end
end
end Inv_part
end P0
local macro_rules | `(tactic| k_room) => `(tactic| ktr_room)
local macro_rules | `(tactic| k_is) => `(tactic| first | assumption | exact rfl)
local macro_rules | `(tactic| k_enter) => `(tactic| ktr_enter)
local macro_rules | `(tactic| ktr_room) => `(tactic| first | exact room1 (by assumption) rfl | exact room0 (by assumption) rfl)
local macro_rules | `(tactic| ktr_units) => `(tactic| first | exact room3 (by assumption) rfl | exact room0 (by assumption) rfl)
local macro_rules | `(tactic| k_mem) => `(tactic| first | with_reducible assumption | exact List.mem_cons_self | (refine List.mem_cons_of_mem _ ?_; k_mem))
local macro_rules | `(tactic| k_upd) => `(tactic| first | (refine' Del.head ?a; (case a => k_all)) | (refine' Del.tail ?a ?b; (case a => k_ne); (case b => k_upd)) | (refine' Pull.head ?a; (case a => k_all)) | (refine' Pull.tail ?a ?b; (case b => k_upd); (case a => k_ne)))
local macro_rules | `(tactic| k_tabat) => `(tactic| exact TabAt.ofNews (by with_reducible assumption) (by k_mem) (by with_reducible assumption) (by with_reducible assumption) (by with_reducible assumption))
section P1
theorem words1 : True := by
  k_with_none
  k_with "own k_ne" => (first | with_reducible assumption | exact neL0 (by with_reducible assumption) | exact neG0 (by with_reducible assumption) | exact neL1 (by with_reducible assumption) | exact neG1 (by with_reducible assumption) | exact neL2 (by with_reducible assumption) | exact neG2 (by with_reducible assumption) | exact neL3 (by with_reducible assumption) | exact neG3 (by with_reducible assumption) | exact neL4 (by with_reducible assumption) | exact neG4 (by with_reducible assumption) | exact neL5 (by with_reducible assumption) | exact neG5 (by with_reducible assumption) | exact neL6 (by with_reducible assumption) | exact neG6 (by with_reducible assumption) | exact neL7 (by with_reducible assumption) | exact neG7 (by with_reducible assumption) | exact neL8 (by with_reducible assumption) | exact neG8 (by with_reducible assumption) | exact neL9 (by with_reducible assumption) | exact neG9 (by with_reducible assumption) | exact neL10 (by with_reducible assumption) | exact neG10 (by with_reducible assumption) | exact neL11 (by with_reducible assumption) | exact neG11 (by with_reducible assumption) | exact neL12 (by with_reducible assumption) | exact neG12 (by with_reducible assumption) | exact neL13 (by with_reducible assumption) | exact neG13 (by with_reducible assumption) | (refine neN ?_; (try dsimp only); omega))
  k_with "own k_all" => (first | with_reducible assumption | exact allLt_ne (by with_reducible assumption) | exact allLt_ne (And.right (by with_reducible assumption)) | exact allLt_ne (And.right (And.right (by with_reducible assumption))) | exact allLt_ne (And.right (And.right (And.right (by with_reducible assumption)))) | exact allLt_ne (And.right (And.right (And.right (And.right (by with_reducible assumption))))) | exact allLt_ne (And.right (And.right (And.right (And.right (And.right (by with_reducible assumption)))))) | exact allLt_ne (And.right (And.right (And.right (And.right (And.right (And.right (by with_reducible assumption))))))) | exact allLt_ne (And.right (And.right (And.right (And.right (And.right (And.right (And.right (by with_reducible assumption)))))))) | exact allLt_ne (And.right (And.right (And.right (And.right (And.right (And.right (And.right (And.right (by with_reducible assumption))))))))))
  k_with "own exec For" => ((k_here; k_dflt (refine for_start ?_)))
  k_with "own exec For Name Name cons nil" => ((k_here; k_dflt (refine for_start ?_)))
  k_with "own exec For Name Call cons nil" => ((k_here; k_dflt (refine for_start ?_)))
  k_with "own exec For Tuple Attribute cons nil" => ((k_here; k_dflt (refine for_start ?_)))
  k_with "own exec For Tuple Call cons nil" => ((k_here; k_dflt (refine for_start ?_)))
  k_with "own exec For Tuple" => ((k_here; k_dflt (refine for_start ?_)))
  k_with "own exec For Name" => ((k_here; k_dflt (refine for_start ?_)))
  k_with "own ForPost" => ((dsimp only [ForPost]))
  k_with "own ForNext" => ((k_dflt (first | with_reducible refine for_done ?_ | with_reducible refine for_name ?_)))
  k_with "own pyNext ref" => ((k_here; k_dflt (first
  | (refine' next_rng ?F_k ?N_k ?U_k ?l_k ?_; (case F_k => k_asm); (case N_k => k_asm); (case U_k => k_upd); (case l_k => decide); k_whole; intro h'k t'k tk'k F'k N'k; (try k_sweep))
  | (refine' next_rng_end ?H_k ?F_k ?N_k ?m_k ?D_k ?l_k ?_; (case H_k => exact rfl); (case F_k => k_asm); (case N_k => k_asm); (case m_k => k_mem); (case D_k => k_upd); (case l_k => decide); k_whole; intro h'k F'k N'k; (try k_sweep))
  | (refine' next_lst ?F_k ?N_k ?U_k ?o_k ?m_k ?x_k ?_; (case F_k => k_asm); (case N_k => k_asm); (case U_k => k_updF); (case o_k => with_reducible assumption); (case m_k => k_mem); (case x_k => first | (simp only [List.getElem?_toArray, List.getElem?_cons_zero, List.getElem?_cons_succ]; done) | (simp only [List.getElem?_toArray, List.getElem?_cons_zero, List.getElem?_cons_succ]; exact rfl)); k_whole; intro h'k o'k F'k N'k ho'k; (try k_sweep))
  | (refine' next_lst_end ?H_k ?F_k ?N_k ?I_k ?D_k ?o_k ?m_k ?x_k ?_; (case H_k => exact rfl); (case F_k => k_asm); (case N_k => k_asm); (case I_k => k_mem); (case D_k => k_upd); (case o_k => with_reducible assumption); (case m_k => k_mem); (case x_k => rfl); k_whole; intro h'k F'k N'k; (try k_sweep))
  | (refine' next_tup ?F_k ?N_k ?U_k ?o_k ?m_k ?x_k ?_; (case F_k => k_asm); (case N_k => k_asm); (case U_k => k_updF); (case o_k => with_reducible assumption); (case m_k => k_mem); (case x_k => first | (simp only [List.getElem?_cons_zero, List.getElem?_cons_succ]; done) | (simp only [List.getElem?_cons_zero, List.getElem?_cons_succ]; exact rfl)); k_whole; intro h'k o'k F'k N'k ho'k; (try k_sweep))
  | (refine' next_tup_end ?H_k ?F_k ?N_k ?I_k ?D_k ?o_k ?m_k ?x_k ?_; (case H_k => exact rfl); (case F_k => k_asm); (case N_k => k_asm); (case I_k => k_mem); (case D_k => k_upd); (case o_k => with_reducible assumption); (case m_k => k_mem); (case x_k => rfl); k_whole; intro h'k F'k N'k; (try k_sweep)))))
  k_with "own pyIter ref" => ((k_here; k_dflt (first
  | (refine' iter_rit ?N_k ?m_k ?_; (case N_k => k_asm); (case m_k => k_mem); k_whole)
  | (refine' iter_lst ?F_k ?N_k ?m_k ?_; (case F_k => k_asm); (case N_k => k_asm); (case m_k => k_mem); k_whole; intro I'k h'k o'k F'k N'k ho'k l1k; (try k_lt l1k); (try k_sweep))
  | (refine' iter_tup ?F_k ?N_k ?m_k ?_; (case F_k => k_asm); (case N_k => k_asm); (case m_k => k_mem); k_whole; intro I'k h'k o'k F'k N'k ho'k l1k; (try k_lt l1k); (try k_sweep))
  | (refine' iter_rng ?r_k ?s_k ?n_k ?F_k ?N_k ?_; (case r_k => with_reducible assumption); (case s_k => decide); (case n_k => exact Eq.refl _); (case F_k => k_asm); (case N_k => k_asm); k_whole; intro I'k h'k F'k N'k l1k; (try k_lt l1k); (try k_sweep)))))
  k_with "own call type:reversed" => ((k_here; k_dflt (refine' rev_rng ?F_k ?N_k ?r_k ?n_k ?s_k ?_; (case F_k => k_asm); (case N_k => k_asm); (case r_k => with_reducible assumption); (case n_k => exact Eq.refl _); (case s_k => decide); k_whole; intro I'k h'k F'k N'k l1k; (try k_lt l1k); (try k_sweep))))
  k_with "own call builtin:dict.items" => ((k_here; k_dflt (refine' items_call ?F_k ?N_k ?m_k ?d_k ?l_k ?_; (case F_k => k_asm); (case N_k => k_asm); (case m_k => k_mem); (case d_k => with_reducible assumption); (case l_k => with_reducible assumption); k_whole; intro V'k h'k F'k N'k l1k; (try k_lt l1k); (try k_sweep))))
  k_with "own getMethod ref" => ((k_here; (with_reducible show wpAny _ _ (getMethod (Value.ref _) (PySem.Str.ofString "items") _) _ _ _); k_dflt (refine' getMethod_tab_any (knd := PySem.strKind _ _) (enc := PyData.str) ?k1_k ?k2_k ?_; (case k1_k => exact rfl); (case k2_k => k_tabat); k_whole)))
  k_with "own call builtin:len" => ((k_here; (with_reducible show wpAny _ _ (call (Value.builtin "len") [Value.ref _]) _ _ _); k_dflt (refine' kst_len ?N_k ?m_k ?e_k ?f_k ?_; (case N_k => k_asm); (case m_k => k_mem); (case e_k => first | exact IntsAre.length (by with_reducible assumption) | with_reducible assumption); (case f_k => omega); k_whole)))
  k_with "own eval ListComp" => ((k_here; k_dflt (refine comp_eval (by with_unfolding_all rfl) (by decide) (by rfl) (by decide) ?_)))
  k_with "own exec Assign cons ListComp" => ((k_here; k_dflt (refine comp_assign (by with_unfolding_all rfl) (by with_unfolding_all rfl) (by decide) (by rfl) (by decide) ?_)))
  k_with "own Exists" => ((k_here; k_dflt (refine' ⟨_, _, _, _, _, _, rfl, ?F_k, ?N_k, ?m_k, ?s_k, ?_⟩; (case F_k => k_asm); (case N_k => k_asm); (case m_k => k_mem); (case s_k => first | exact .inl ⟨_, _, by with_reducible assumption⟩ | exact .inr (.inl ⟨_, _, by with_reducible assumption⟩) | exact .inr (.inr (.inl ⟨_, _, _, rfl⟩)) | exact .inr (.inr (.inr ⟨_, _, _, rfl⟩))); k_whole); intro C'k D'k oC'k h'k tk'k F'k N'k hC'k l1k l2k; (try k_lt l1k); (try k_lt l2k); (try k_sweep)))
  k_with "own CompNext" => ((k_dflt (first | with_reducible refine comp_next ?_ | with_reducible refine comp_name ?_)))
  k_with "own storeName" => ((k_here; k_dflt (refine' comp_store ?a_k ?b_k ?F_k ?N_k ?U_k ?n_k ?_; (case a_k => exact rfl); (case b_k => exact rfl); (case F_k => k_asm); (case N_k => k_asm); (case U_k => k_updF); (case n_k => with_reducible assumption); k_whole; intro h'k oC'k F'k N'k hC'k; (try k_sweep))))
  k_with "own eval Name" => ((k_here; (with_reducible show wpAny _ _ (eval (Expr.Name _ _) (compEnvC _ _ _ _)) _ _ _); k_dflt (first
  | (refine' comp_local ?N_k ?m_k ?n_k ?x_k ?_ ?a_k ?b_k ?c_k; (case a_k => exact rfl); (case b_k => exact rfl); (case c_k => decide); (case N_k => k_asm); (case m_k => k_mem); (case n_k => with_reducible assumption); (case x_k => exact rfl); k_whole)
  | (refine' comp_cell ?N_k ?l_k ?m_k ?d_k ?_ ?a_k ?b_k ?c_k; (case a_k => exact rfl); (case b_k => exact rfl); (case c_k => decide); (case l_k => exact rfl); (case N_k => k_asm); (case m_k => k_mem); (case d_k => with_reducible assumption); k_whole)
  | (refine' comp_free ?N_k ?l_k ?m_k ?d_k ?_ ?a_k ?b_k ?c_k ?e_k; (case a_k => exact rfl); (case b_k => exact rfl); (case c_k => decide); (case e_k => decide); (case l_k => exact rfl); (case N_k => k_asm); (case m_k => k_mem); (case d_k => with_reducible assumption); k_whole))))
  k_with "own compPost" => ((k_here; k_dflt (first
  | (refine' comp_done ?F_k ?N_k ?C_k ?n_k ?D_k ?_; (case F_k => k_asm); (case N_k => k_asm); (case C_k => k_mem); (case n_k => with_reducible assumption); (case D_k => k_upd); k_whole; intro h'k F'k N'k; (try k_sweep))
  | (refine' comp_doneA ?a_k ?b_k ?F_k ?N_k ?C_k ?n_k ?D_k ?_; (case a_k => exact rfl); (case b_k => exact rfl); (case F_k => k_asm); (case N_k => k_asm); (case C_k => k_mem); (case n_k => with_reducible assumption); (case D_k => k_upd); k_whole; intro h'k tk'k F'k N'k; (try k_sweep)))))
  trivial
open PySem PySem.W PyProof.Rows
local macro_rules | `(tactic| k_is) => `(tactic| assumption)
set_option maxHeartbeats 4000000 in
theorem weight_spec {prog : Program} {w : World} {K : Frag} {p : Program} {loose : List Str} {mean : ExcName → Option Value} {mg mb : Str → Option Value} {f : Addr} (hf : FunAt K 16 f .none .none)
   {e u : Addr} {e0 e1 e2 e3 u0 u1 u2 : Int} {t0 t1 t2 t3 q0 q1 q2 : Tok} {d : Value} {ne nu : Nat} {news : Led}
   (he : (e, tupOf [.int e0 t0, .int e1 t1, .int e2 t2, .int e3 t3, d] ne) ∈ news) (hu : (u, tupOf [.int u0 q0, .int u1 q1, .int u2 q2] nu) ∈ news)
   (b0 : 0 ≤ e0 ∧ e0 ≤ 10) (b1 : 0 ≤ e1 ∧ e1 ≤ 10) (b2 : 0 ≤ e2 ∧ e2 ≤ 10) (c0 : 0 ≤ u0 ∧ u0 ≤ 100) (c1 : 0 ≤ u1 ∧ u1 ≤ 100) (c2 : 0 ≤ u2 ∧ u2 ≤ 100) :
   Spec prog w K p loose mean mg mb f [.ref e, .ref u] news 2 20 (fun r news' => news' = news ∧ ∃ t, r = .int (e0 * u0 + e1 * u1 + e2 * u2) t) := by
  w_on
  obtain ⟨⟨oc, od, osl, pm, doc, cdv, ct, an, hK, hcode⟩, hkeep, hname⟩ := hf
  dsimp only [top, sN, sA, sB, sS, nth, PySem.Challenge.pw_pg0194_01] at hK hcode hname
  unfold Spec
  intro dp un gd cn cs a ccd cl outer A₀ base h₀ L m s Q E B F X N T hk hdp hun hret
  refine wpAny_call ?_
  ktr_enter
  k_steps
  exact hret _ _ _ _ (by k_asm) (by k_asm) ⟨rfl, _, rfl⟩
local macro_rules | `(tactic| k_is) => `(tactic| first | assumption | exact rfl)
theorem words2 : True := by
  k_with "own ForGo" => ((refine for_step ?_; intro E9'k))
  k_with "own compareOp Lt ref ref" => ((k_here; (with_reducible show wpAny _ _ (compareOp CmpOp.Lt (Value.ref _) (Value.ref _)) _ _ _); k_dflt (refine' hi_lt ?h0_k ?h1_k ?h2_k ?h3_k ?_; (case h0_k => k_asm); (case h1_k => first | assumption | exact HI.cons (by assumption)); (case h2_k => first | assumption | exact HI.cons (by assumption)); (case h3_k => ktr_units); k_whole)))
  trivial

variable {prog : Program} {w : World} {K : Frag} {p : Program} {loose : List Str} {mean : ExcName → Option Value} {mg mb : Str → Option Value}
set_option maxHeartbeats 8000000 in
theorem sd10 {f : Addr} (hf : FunAt K 8 f .none .none)
   {hp a1 : Addr} {k : Addr → Key} {n : Nat} {rest : Led} {i j : Int} {tz tp : Tok} (hi : i = 0) (hj : j = 0) (off : ∀ p ∈ rest, p.1 ≠ hp) (ha1 : HI rest a1 (k a1)) :
   Spec prog w K p loose mean mg mb f [.ref hp, .int i tz, .int j tp] ((hp, listOf #[.ref a1] n) :: rest) 2 20
     (fun r news' => r = .none ∧ news' = (hp, listOf (#[.ref a1]) n) :: rest) := by
  w_on
  obtain ⟨⟨oc8, od8, osl8, pm8, doc8, cdv8, ct8, an8, hK8, hcode8⟩, hkeep8, hname8⟩ := hf
  dsimp only [top, sN, sA, sB, sS, nth, PySem.Challenge.pw_pg0194_01] at hK8 hcode8 hname8
  subst hi hj
  unfold Spec
  intro dp un gd cn cs ca9 ccd cl outer A₀ base h₀ L m s Q E B F X N T hk hdp hun hret
  refine wpAny_call ?_
  refine' code_def (binds := [(Str.ofString "heap", .ref hp), (Str.ofString "startpos", .int 0 tz), (Str.ofString "pos", .int 0 tp)]) B F X N T rfl rfl hk hK8 hcode8 ?k8 (BindsTo.of_eq rfl) (locs rfl) ?_ rfl rfl rfl (by decide)
  (case k8 => ktr_room)
  clear hK8 hcode8 hkeep8 hname8
  intro g' L' h' FG' F' N' B' X' T'
  try dsimp only
  try k_fold
  k_steps
  all_goals first | exact hret _ _ _ _ (by k_asm) (by k_asm) ⟨rfl, rfl⟩ | walk_report

set_option maxHeartbeats 8000000 in
theorem sd21 {f : Addr} (hf : FunAt K 8 f .none .none)
   {hp a1 a2 : Addr} {k : Addr → Key} {n : Nat} {rest : Led} {i j : Int} {tz tp : Tok} (hi : i = 0) (hj : j = 1) (off : ∀ p ∈ rest, p.1 ≠ hp) (ha1 : HI rest a1 (k a1)) (ha2 : HI rest a2 (k a2)) :
   Spec prog w K p loose mean mg mb f [.ref hp, .int i tz, .int j tp] ((hp, listOf #[.ref a1, .ref a2] n) :: rest) 2 20
     (fun r news' => r = .none ∧ news' = (hp, listOf (if ltT (k a2) (k a1) then #[.ref a2, .ref a1] else #[.ref a1, .ref a2]) n) :: rest) := by
  w_on
  obtain ⟨⟨oc8, od8, osl8, pm8, doc8, cdv8, ct8, an8, hK8, hcode8⟩, hkeep8, hname8⟩ := hf
  dsimp only [top, sN, sA, sB, sS, nth, PySem.Challenge.pw_pg0194_01] at hK8 hcode8 hname8
  subst hi hj
  unfold Spec
  intro dp un gd cn cs ca9 ccd cl outer A₀ base h₀ L m s Q E B F X N T hk hdp hun hret
  refine wpAny_call ?_
  refine' code_def (binds := [(Str.ofString "heap", .ref hp), (Str.ofString "startpos", .int 0 tz), (Str.ofString "pos", .int 1 tp)]) B F X N T rfl rfl hk hK8 hcode8 ?k8 (BindsTo.of_eq rfl) (locs rfl) ?_ rfl rfl rfl (by decide)
  (case k8 => ktr_room)
  clear hK8 hcode8 hkeep8 hname8
  intro g' L' h' FG' F' N' B' X' T'
  try dsimp only
  try k_fold
  k_steps
  all_goals first | exact hret _ _ _ _ (by k_asm) (by k_asm) ⟨rfl, by simp only [*, if_true, if_false, Bool.false_eq_true]⟩ | walk_report

set_option maxHeartbeats 8000000 in
theorem sd31 {f : Addr} (hf : FunAt K 8 f .none .none)
   {hp a1 a2 a3 : Addr} {k : Addr → Key} {n : Nat} {rest : Led} {i j : Int} {tz tp : Tok} (hi : i = 0) (hj : j = 1) (off : ∀ p ∈ rest, p.1 ≠ hp) (ha1 : HI rest a1 (k a1)) (ha2 : HI rest a2 (k a2)) (ha3 : HI rest a3 (k a3)) :
   Spec prog w K p loose mean mg mb f [.ref hp, .int i tz, .int j tp] ((hp, listOf #[.ref a1, .ref a2, .ref a3] n) :: rest) 2 20
     (fun r news' => r = .none ∧ news' = (hp, listOf (if ltT (k a2) (k a1) then #[.ref a2, .ref a1, .ref a3] else #[.ref a1, .ref a2, .ref a3]) n) :: rest) := by
  w_on
  obtain ⟨⟨oc8, od8, osl8, pm8, doc8, cdv8, ct8, an8, hK8, hcode8⟩, hkeep8, hname8⟩ := hf
  dsimp only [top, sN, sA, sB, sS, nth, PySem.Challenge.pw_pg0194_01] at hK8 hcode8 hname8
  subst hi hj
  unfold Spec
  intro dp un gd cn cs ca9 ccd cl outer A₀ base h₀ L m s Q E B F X N T hk hdp hun hret
  refine wpAny_call ?_
  refine' code_def (binds := [(Str.ofString "heap", .ref hp), (Str.ofString "startpos", .int 0 tz), (Str.ofString "pos", .int 1 tp)]) B F X N T rfl rfl hk hK8 hcode8 ?k8 (BindsTo.of_eq rfl) (locs rfl) ?_ rfl rfl rfl (by decide)
  (case k8 => ktr_room)
  clear hK8 hcode8 hkeep8 hname8
  intro g' L' h' FG' F' N' B' X' T'
  try dsimp only
  try k_fold
  k_steps
  all_goals first | exact hret _ _ _ _ (by k_asm) (by k_asm) ⟨rfl, by simp only [*, if_true, if_false, Bool.false_eq_true]⟩ | walk_report

set_option maxHeartbeats 8000000 in
theorem sd32 {f : Addr} (hf : FunAt K 8 f .none .none)
   {hp a1 a2 a3 : Addr} {k : Addr → Key} {n : Nat} {rest : Led} {i j : Int} {tz tp : Tok} (hi : i = 0) (hj : j = 2) (off : ∀ p ∈ rest, p.1 ≠ hp) (ha1 : HI rest a1 (k a1)) (ha2 : HI rest a2 (k a2)) (ha3 : HI rest a3 (k a3)) :
   Spec prog w K p loose mean mg mb f [.ref hp, .int i tz, .int j tp] ((hp, listOf #[.ref a1, .ref a2, .ref a3] n) :: rest) 2 20
     (fun r news' => r = .none ∧ news' = (hp, listOf (if ltT (k a3) (k a1) then #[.ref a3, .ref a2, .ref a1] else #[.ref a1, .ref a2, .ref a3]) n) :: rest) := by
  w_on
  obtain ⟨⟨oc8, od8, osl8, pm8, doc8, cdv8, ct8, an8, hK8, hcode8⟩, hkeep8, hname8⟩ := hf
  dsimp only [top, sN, sA, sB, sS, nth, PySem.Challenge.pw_pg0194_01] at hK8 hcode8 hname8
  subst hi hj
  unfold Spec
  intro dp un gd cn cs ca9 ccd cl outer A₀ base h₀ L m s Q E B F X N T hk hdp hun hret
  refine wpAny_call ?_
  refine' code_def (binds := [(Str.ofString "heap", .ref hp), (Str.ofString "startpos", .int 0 tz), (Str.ofString "pos", .int 2 tp)]) B F X N T rfl rfl hk hK8 hcode8 ?k8 (BindsTo.of_eq rfl) (locs rfl) ?_ rfl rfl rfl (by decide)
  (case k8 => ktr_room)
  clear hK8 hcode8 hkeep8 hname8
  intro g' L' h' FG' F' N' B' X' T'
  try dsimp only
  try k_fold
  k_steps
  all_goals first | exact hret _ _ _ _ (by k_asm) (by k_asm) ⟨rfl, by simp only [*, if_true, if_false, Bool.false_eq_true]⟩ | walk_report

theorem words3 : True := by
  k_with "own call ref" => ((k_here; k_dflt (refine' Spec.use (sd10 ?x0_k ?x1_k ?x2_k ?x3_k ?x4_k) ?kB_k ?kF_k ?kX_k ?kN_k ?kT_k ?kk_k ?kd_k ?ku_k ?_; (case kB_k => k_asm); (case kF_k => k_asm); (case kX_k => k_asm); (case kN_k => exact Pull.news (by k_asm) (by k_upd)); (case kT_k => k_asm); (case kk_k => first | exact rfl | assumption); (case kd_k => ktr_room); (case ku_k => ktr_units); (case x0_k => assumption); (case x1_k => exact rfl); (case x2_k => exact rfl); (case x3_k => k_all); (case x4_k => first | assumption | exact HI.cons (by assumption)); k_whole); intro r9k news9k h9k tk9k F9k N9k P9k; (obtain ⟨e9k, f9k⟩ := P9k; subst e9k; subst f9k); (try dsimp only); (try k_fold)))
  trivial

set_option maxHeartbeats 8000000 in
theorem su1 {f : Addr} (hf : FunAt K 9 f .none .none)
   (b_len : nsIn K mainGlobals (Str.ofString "len") = some none) {fd : Addr} (hfd : FunAt K 8 fd .none .none) {hp a1 : Addr} {k : Addr → Key} {n : Nat} {rest : Led} {i : Int} {tz : Tok} (hi : i = 0) (off : ∀ p ∈ rest, p.1 ≠ hp) (ha1 : HI rest a1 (k a1)) :
   Spec prog w K p loose mean mg mb f [.ref hp, .int i tz] ((hp, listOf #[.ref a1] n) :: rest) 4 40
     (fun r news' => r = .none ∧ news' = (hp, listOf (refs (sift k [a1])) n) :: rest) := by
  w_on
  obtain ⟨⟨oc9, od9, osl9, pm9, doc9, cdv9, ct9, an9, hK9, hcode9⟩, hkeep9, hname9⟩ := hf
  dsimp only [top, sN, sA, sB, sS, nth, PySem.Challenge.pw_pg0194_01] at hK9 hcode9 hname9
  have hkeep8 := FunAt.keep hfd
  have hname8 := FunAt.name hfd
  dsimp only [top, sN, nth, PySem.Challenge.pw_pg0194_01] at hname8
  subst hi
  unfold Spec
  intro dp un gd cn cs ca9 ccd cl outer A₀ base h₀ L m s Q E B F X N T hk hdp hun hret
  refine wpAny_call ?_
  refine' code_def (binds := [(Str.ofString "heap", .ref hp), (Str.ofString "pos", .int 0 tz)]) B F X N T rfl rfl hk hK9 hcode9 ?k8 (BindsTo.of_eq rfl) (locs rfl) ?_ rfl rfl rfl (by decide)
  (case k8 => ktr_room)
  clear hK9 hcode9 hkeep9 hname9
  intro g' L' h' FG' F' N' B' X' T'
  try dsimp only
  try k_fold
  k_steps
  all_goals first | exact hret _ _ _ _ (by k_asm) (by k_asm) ⟨rfl, by simp only [sift, refs, *, if_true, if_false, Bool.false_eq_true, List.map_cons, List.map_nil]; try (split <;> rfl)⟩ | walk_report

theorem words4 : True := by
  k_with "own call ref" => ((k_here; k_dflt (refine' Spec.use (sd21 ?x0_k ?x1_k ?x2_k ?x3_k ?x4_k ?x5_k) ?kB_k ?kF_k ?kX_k ?kN_k ?kT_k ?kk_k ?kd_k ?ku_k ?_; (case kB_k => k_asm); (case kF_k => k_asm); (case kX_k => k_asm); (case kN_k => exact Pull.news (by k_asm) (by k_upd)); (case kT_k => k_asm); (case kk_k => first | exact rfl | assumption); (case kd_k => ktr_room); (case ku_k => ktr_units); (case x0_k => assumption); (case x1_k => exact rfl); (case x2_k => exact rfl); (case x3_k => k_all); (case x4_k => first | assumption | exact HI.cons (by assumption)); (case x5_k => first | assumption | exact HI.cons (by assumption)); k_whole); intro r9k news9k h9k tk9k F9k N9k P9k; (obtain ⟨e9k, f9k⟩ := P9k; subst e9k; subst f9k); (try dsimp only); (try k_fold)))
  trivial

set_option maxHeartbeats 8000000 in
theorem su2 {f : Addr} (hf : FunAt K 9 f .none .none)
   (b_len : nsIn K mainGlobals (Str.ofString "len") = some none) {fd : Addr} (hfd : FunAt K 8 fd .none .none) {hp a1 a2 : Addr} {k : Addr → Key} {n : Nat} {rest : Led} {i : Int} {tz : Tok} (hi : i = 0) (off : ∀ p ∈ rest, p.1 ≠ hp) (ha1 : HI rest a1 (k a1)) (ha2 : HI rest a2 (k a2)) :
   Spec prog w K p loose mean mg mb f [.ref hp, .int i tz] ((hp, listOf #[.ref a1, .ref a2] n) :: rest) 4 40
     (fun r news' => r = .none ∧ news' = (hp, listOf (refs (sift k [a1, a2])) n) :: rest) := by
  w_on
  obtain ⟨⟨oc9, od9, osl9, pm9, doc9, cdv9, ct9, an9, hK9, hcode9⟩, hkeep9, hname9⟩ := hf
  dsimp only [top, sN, sA, sB, sS, nth, PySem.Challenge.pw_pg0194_01] at hK9 hcode9 hname9
  have hkeep8 := FunAt.keep hfd
  have hname8 := FunAt.name hfd
  dsimp only [top, sN, nth, PySem.Challenge.pw_pg0194_01] at hname8
  subst hi
  unfold Spec
  intro dp un gd cn cs ca9 ccd cl outer A₀ base h₀ L m s Q E B F X N T hk hdp hun hret
  refine wpAny_call ?_
  refine' code_def (binds := [(Str.ofString "heap", .ref hp), (Str.ofString "pos", .int 0 tz)]) B F X N T rfl rfl hk hK9 hcode9 ?k8 (BindsTo.of_eq rfl) (locs rfl) ?_ rfl rfl rfl (by decide)
  (case k8 => ktr_room)
  clear hK9 hcode9 hkeep9 hname9
  intro g' L' h' FG' F' N' B' X' T'
  try dsimp only
  try k_fold
  k_steps
  all_goals first | exact hret _ _ _ _ (by k_asm) (by k_asm) ⟨rfl, by simp only [sift, refs, *, if_true, if_false, Bool.false_eq_true, List.map_cons, List.map_nil]; try (split <;> rfl)⟩ | walk_report

theorem words5 : True := by
  k_with "own call ref" => ((k_here; k_dflt (refine' Spec.use (sd31 ?x0_k ?x1_k ?x2_k ?x3_k ?x4_k ?x5_k ?x6_k) ?kB_k ?kF_k ?kX_k ?kN_k ?kT_k ?kk_k ?kd_k ?ku_k ?_; (case kB_k => k_asm); (case kF_k => k_asm); (case kX_k => k_asm); (case kN_k => exact Pull.news (by k_asm) (by k_upd)); (case kT_k => k_asm); (case kk_k => first | exact rfl | assumption); (case kd_k => ktr_room); (case ku_k => ktr_units); (case x0_k => assumption); (case x1_k => exact rfl); (case x2_k => exact rfl); (case x3_k => k_all); (case x4_k => first | assumption | exact HI.cons (by assumption)); (case x5_k => first | assumption | exact HI.cons (by assumption)); (case x6_k => first | assumption | exact HI.cons (by assumption)); k_whole); intro r9k news9k h9k tk9k F9k N9k P9k; (obtain ⟨e9k, f9k⟩ := P9k; subst e9k; subst f9k); (try dsimp only); (try k_fold)))
  k_with "own call ref" => ((k_here; k_dflt (refine' Spec.use (sd32 ?x0_k ?x1_k ?x2_k ?x3_k ?x4_k ?x5_k ?x6_k) ?kB_k ?kF_k ?kX_k ?kN_k ?kT_k ?kk_k ?kd_k ?ku_k ?_; (case kB_k => k_asm); (case kF_k => k_asm); (case kX_k => k_asm); (case kN_k => exact Pull.news (by k_asm) (by k_upd)); (case kT_k => k_asm); (case kk_k => first | exact rfl | assumption); (case kd_k => ktr_room); (case ku_k => ktr_units); (case x0_k => assumption); (case x1_k => exact rfl); (case x2_k => exact rfl); (case x3_k => k_all); (case x4_k => first | assumption | exact HI.cons (by assumption)); (case x5_k => first | assumption | exact HI.cons (by assumption)); (case x6_k => first | assumption | exact HI.cons (by assumption)); k_whole); intro r9k news9k h9k tk9k F9k N9k P9k; (obtain ⟨e9k, f9k⟩ := P9k; subst e9k; subst f9k); (try dsimp only); (try k_fold)))
  trivial

set_option maxHeartbeats 8000000 in
theorem su3 {f : Addr} (hf : FunAt K 9 f .none .none)
   (b_len : nsIn K mainGlobals (Str.ofString "len") = some none) {fd : Addr} (hfd : FunAt K 8 fd .none .none) {hp a1 a2 a3 : Addr} {k : Addr → Key} {n : Nat} {rest : Led} {i : Int} {tz : Tok} (hi : i = 0) (off : ∀ p ∈ rest, p.1 ≠ hp) (ha1 : HI rest a1 (k a1)) (ha2 : HI rest a2 (k a2)) (ha3 : HI rest a3 (k a3)) :
   Spec prog w K p loose mean mg mb f [.ref hp, .int i tz] ((hp, listOf #[.ref a1, .ref a2, .ref a3] n) :: rest) 4 40
     (fun r news' => r = .none ∧ news' = (hp, listOf (refs (sift k [a1, a2, a3])) n) :: rest) := by
  w_on
  obtain ⟨⟨oc9, od9, osl9, pm9, doc9, cdv9, ct9, an9, hK9, hcode9⟩, hkeep9, hname9⟩ := hf
  dsimp only [top, sN, sA, sB, sS, nth, PySem.Challenge.pw_pg0194_01] at hK9 hcode9 hname9
  have hkeep8 := FunAt.keep hfd
  have hname8 := FunAt.name hfd
  dsimp only [top, sN, nth, PySem.Challenge.pw_pg0194_01] at hname8
  subst hi
  unfold Spec
  intro dp un gd cn cs ca9 ccd cl outer A₀ base h₀ L m s Q E B F X N T hk hdp hun hret
  refine wpAny_call ?_
  refine' code_def (binds := [(Str.ofString "heap", .ref hp), (Str.ofString "pos", .int 0 tz)]) B F X N T rfl rfl hk hK9 hcode9 ?k8 (BindsTo.of_eq rfl) (locs rfl) ?_ rfl rfl rfl (by decide)
  (case k8 => ktr_room)
  clear hK9 hcode9 hkeep9 hname9
  intro g' L' h' FG' F' N' B' X' T'
  try dsimp only
  try k_fold
  k_steps
  all_goals first | exact hret _ _ _ _ (by k_asm) (by k_asm) ⟨rfl, by simp only [sift, refs, *, if_true, if_false, Bool.false_eq_true, List.map_cons, List.map_nil]; try (split <;> rfl)⟩ | walk_report

theorem words6 : True := by
  k_with "own call ref" => ((k_here; k_dflt (refine' Spec.use (su1 ?x0_k ?x1_k ?x2_k ?x3_k ?x4_k ?x5_k) ?kB_k ?kF_k ?kX_k ?kN_k ?kT_k ?kk_k ?kd_k ?ku_k ?_; (case kB_k => k_asm); (case kF_k => k_asm); (case kX_k => k_asm); (case kN_k => exact Pull.news (by k_asm) (by k_upd)); (case kT_k => k_asm); (case kk_k => first | exact rfl | assumption); (case kd_k => ktr_room); (case ku_k => ktr_units); (case x0_k => assumption); (case x1_k => assumption); (case x2_k => assumption); (case x3_k => exact rfl); (case x4_k => k_all); (case x5_k => first | assumption | exact HI.cons (by assumption)); k_whole); intro r9k news9k h9k tk9k F9k N9k P9k; (obtain ⟨e9k, f9k⟩ := P9k; subst e9k; subst f9k); (try dsimp only); (try k_fold)))
  k_with "own call ref" => ((k_here; k_dflt (refine' Spec.use (su2 ?x0_k ?x1_k ?x2_k ?x3_k ?x4_k ?x5_k ?x6_k) ?kB_k ?kF_k ?kX_k ?kN_k ?kT_k ?kk_k ?kd_k ?ku_k ?_; (case kB_k => k_asm); (case kF_k => k_asm); (case kX_k => k_asm); (case kN_k => exact Pull.news (by k_asm) (by k_upd)); (case kT_k => k_asm); (case kk_k => first | exact rfl | assumption); (case kd_k => ktr_room); (case ku_k => ktr_units); (case x0_k => assumption); (case x1_k => assumption); (case x2_k => assumption); (case x3_k => exact rfl); (case x4_k => k_all); (case x5_k => first | assumption | exact HI.cons (by assumption)); (case x6_k => first | assumption | exact HI.cons (by assumption)); k_whole); intro r9k news9k h9k tk9k F9k N9k P9k; (obtain ⟨e9k, f9k⟩ := P9k; subst e9k; subst f9k); (try dsimp only); (try k_fold)))
  k_with "own call ref" => ((k_here; k_dflt (refine' Spec.use (su3 ?x0_k ?x1_k ?x2_k ?x3_k ?x4_k ?x5_k ?x6_k ?x7_k) ?kB_k ?kF_k ?kX_k ?kN_k ?kT_k ?kk_k ?kd_k ?ku_k ?_; (case kB_k => k_asm); (case kF_k => k_asm); (case kX_k => k_asm); (case kN_k => exact Pull.news (by k_asm) (by k_upd)); (case kT_k => k_asm); (case kk_k => first | exact rfl | assumption); (case kd_k => ktr_room); (case ku_k => ktr_units); (case x0_k => assumption); (case x1_k => assumption); (case x2_k => assumption); (case x3_k => exact rfl); (case x4_k => k_all); (case x5_k => first | assumption | exact HI.cons (by assumption)); (case x6_k => first | assumption | exact HI.cons (by assumption)); (case x7_k => first | assumption | exact HI.cons (by assumption)); k_whole); intro r9k news9k h9k tk9k F9k N9k P9k; (obtain ⟨e9k, f9k⟩ := P9k; subst e9k; subst f9k); (try dsimp only); (try k_fold)))
  trivial

set_option maxHeartbeats 8000000 in
theorem hr1 {f : Addr} (hf : FunAt K 6 f .none .none)
   (b_len : nsIn K mainGlobals (Str.ofString "len") = some none) {fd : Addr} (hfd : FunAt K 8 fd .none .none) {fu : Addr} (hfu : FunAt K 9 fu .none .none) {hp a1 a4 : Addr} {k : Addr → Key} {n : Nat} {rest : Led} (off : ∀ p ∈ rest, p.1 ≠ hp) (ha4 : HI rest a4 (k a4)) :
   Spec prog w K p loose mean mg mb f [.ref hp, .ref a4] ((hp, listOf #[.ref a1] n) :: rest) 6 60
     (fun r news' => r = .ref a1 ∧ news' = (hp, listOf (refs (sift k [a4])) n) :: rest) := by
  w_on
  obtain ⟨⟨oc6, od6, osl6, pm6, doc6, cdv6, ct6, an6, hK6, hcode6⟩, hkeep6, hname6⟩ := hf
  dsimp only [top, sN, sA, sB, sS, nth, PySem.Challenge.pw_pg0194_01] at hK6 hcode6 hname6
  have hkeep9 := FunAt.keep hfu
  have hname9 := FunAt.name hfu
  dsimp only [top, sN, nth, PySem.Challenge.pw_pg0194_01] at hname9
  unfold Spec
  intro dp un gd cn cs ca9 ccd cl outer A₀ base h₀ L m s Q E B F X N T hk hdp hun hret
  refine wpAny_call ?_
  refine' code_def (binds := [(Str.ofString "heap", .ref hp), (Str.ofString "item", .ref a4)]) B F X N T rfl rfl hk hK6 hcode6 ?k8 (BindsTo.of_eq rfl) (locs rfl) ?_ rfl rfl rfl (by decide)
  (case k8 => ktr_room)
  clear hK6 hcode6 hkeep6 hname6
  intro g' L' h' FG' F' N' B' X' T'
  try dsimp only
  try k_fold
  k_steps
  all_goals first | exact hret _ _ _ _ (by k_asm) (by k_asm) ⟨rfl, rfl⟩ | walk_report

set_option maxHeartbeats 8000000 in
theorem hr2 {f : Addr} (hf : FunAt K 6 f .none .none)
   (b_len : nsIn K mainGlobals (Str.ofString "len") = some none) {fd : Addr} (hfd : FunAt K 8 fd .none .none) {fu : Addr} (hfu : FunAt K 9 fu .none .none) {hp a1 a2 a4 : Addr} {k : Addr → Key} {n : Nat} {rest : Led} (off : ∀ p ∈ rest, p.1 ≠ hp) (ha4 : HI rest a4 (k a4)) (ha2 : HI rest a2 (k a2)) :
   Spec prog w K p loose mean mg mb f [.ref hp, .ref a4] ((hp, listOf #[.ref a1, .ref a2] n) :: rest) 6 60
     (fun r news' => r = .ref a1 ∧ news' = (hp, listOf (refs (sift k [a4, a2])) n) :: rest) := by
  w_on
  obtain ⟨⟨oc6, od6, osl6, pm6, doc6, cdv6, ct6, an6, hK6, hcode6⟩, hkeep6, hname6⟩ := hf
  dsimp only [top, sN, sA, sB, sS, nth, PySem.Challenge.pw_pg0194_01] at hK6 hcode6 hname6
  have hkeep9 := FunAt.keep hfu
  have hname9 := FunAt.name hfu
  dsimp only [top, sN, nth, PySem.Challenge.pw_pg0194_01] at hname9
  unfold Spec
  intro dp un gd cn cs ca9 ccd cl outer A₀ base h₀ L m s Q E B F X N T hk hdp hun hret
  refine wpAny_call ?_
  refine' code_def (binds := [(Str.ofString "heap", .ref hp), (Str.ofString "item", .ref a4)]) B F X N T rfl rfl hk hK6 hcode6 ?k8 (BindsTo.of_eq rfl) (locs rfl) ?_ rfl rfl rfl (by decide)
  (case k8 => ktr_room)
  clear hK6 hcode6 hkeep6 hname6
  intro g' L' h' FG' F' N' B' X' T'
  try dsimp only
  try k_fold
  k_steps
  all_goals first | exact hret _ _ _ _ (by k_asm) (by k_asm) ⟨rfl, rfl⟩ | walk_report

set_option maxHeartbeats 8000000 in
theorem hr3 {f : Addr} (hf : FunAt K 6 f .none .none)
   (b_len : nsIn K mainGlobals (Str.ofString "len") = some none) {fd : Addr} (hfd : FunAt K 8 fd .none .none) {fu : Addr} (hfu : FunAt K 9 fu .none .none) {hp a1 a2 a3 a4 : Addr} {k : Addr → Key} {n : Nat} {rest : Led} (off : ∀ p ∈ rest, p.1 ≠ hp) (ha4 : HI rest a4 (k a4)) (ha2 : HI rest a2 (k a2)) (ha3 : HI rest a3 (k a3)) :
   Spec prog w K p loose mean mg mb f [.ref hp, .ref a4] ((hp, listOf #[.ref a1, .ref a2, .ref a3] n) :: rest) 6 60
     (fun r news' => r = .ref a1 ∧ news' = (hp, listOf (refs (sift k [a4, a2, a3])) n) :: rest) := by
  w_on
  obtain ⟨⟨oc6, od6, osl6, pm6, doc6, cdv6, ct6, an6, hK6, hcode6⟩, hkeep6, hname6⟩ := hf
  dsimp only [top, sN, sA, sB, sS, nth, PySem.Challenge.pw_pg0194_01] at hK6 hcode6 hname6
  have hkeep9 := FunAt.keep hfu
  have hname9 := FunAt.name hfu
  dsimp only [top, sN, nth, PySem.Challenge.pw_pg0194_01] at hname9
  unfold Spec
  intro dp un gd cn cs ca9 ccd cl outer A₀ base h₀ L m s Q E B F X N T hk hdp hun hret
  refine wpAny_call ?_
  refine' code_def (binds := [(Str.ofString "heap", .ref hp), (Str.ofString "item", .ref a4)]) B F X N T rfl rfl hk hK6 hcode6 ?k8 (BindsTo.of_eq rfl) (locs rfl) ?_ rfl rfl rfl (by decide)
  (case k8 => ktr_room)
  clear hK6 hcode6 hkeep6 hname6
  intro g' L' h' FG' F' N' B' X' T'
  try dsimp only
  try k_fold
  k_steps
  all_goals first | exact hret _ _ _ _ (by k_asm) (by k_asm) ⟨rfl, rfl⟩ | walk_report

set_option maxHeartbeats 8000000 in
theorem hq1 {f : Addr} (hf : FunAt K 5 f .none .none)
   (b_len : nsIn K mainGlobals (Str.ofString "len") = some none) {fd : Addr} (hfd : FunAt K 8 fd .none .none) {fu : Addr} (hfu : FunAt K 9 fu .none .none) {hp a1 : Addr} {k : Addr → Key} {n : Nat} {rest : Led} (off : ∀ p ∈ rest, p.1 ≠ hp) (ha1 : HI rest a1 (k a1)) :
   Spec prog w K p loose mean mg mb f [.ref hp] ((hp, listOf #[.ref a1] n) :: rest) 6 60
     (fun r news' => r = .ref a1 ∧ ∃ n', news' = (hp, listOf (refs (sift k [])) n') :: rest) := by
  w_on
  obtain ⟨⟨oc5, od5, osl5, pm5, doc5, cdv5, ct5, an5, hK5, hcode5⟩, hkeep5, hname5⟩ := hf
  dsimp only [top, sN, sA, sB, sS, nth, PySem.Challenge.pw_pg0194_01] at hK5 hcode5 hname5
  have hkeep9 := FunAt.keep hfu
  have hname9 := FunAt.name hfu
  dsimp only [top, sN, nth, PySem.Challenge.pw_pg0194_01] at hname9
  unfold Spec
  intro dp un gd cn cs ca9 ccd cl outer A₀ base h₀ L m s Q E B F X N T hk hdp hun hret
  refine wpAny_call ?_
  refine' code_def (binds := [(Str.ofString "heap", .ref hp)]) B F X N T rfl rfl hk hK5 hcode5 ?k8 (BindsTo.of_eq rfl) (locs rfl) ?_ rfl rfl rfl (by decide)
  (case k8 => ktr_room)
  clear hK5 hcode5 hkeep5 hname5
  intro g' L' h' FG' F' N' B' X' T'
  try dsimp only
  try k_fold
  k_steps
  all_goals first | exact hret _ _ _ _ (by k_asm) (by k_asm) ⟨rfl, _, rfl⟩ | walk_report

set_option maxHeartbeats 8000000 in
theorem hq2 {f : Addr} (hf : FunAt K 5 f .none .none)
   (b_len : nsIn K mainGlobals (Str.ofString "len") = some none) {fd : Addr} (hfd : FunAt K 8 fd .none .none) {fu : Addr} (hfu : FunAt K 9 fu .none .none) {hp a1 a2 : Addr} {k : Addr → Key} {n : Nat} {rest : Led} (off : ∀ p ∈ rest, p.1 ≠ hp) (ha1 : HI rest a1 (k a1)) (ha2 : HI rest a2 (k a2)) :
   Spec prog w K p loose mean mg mb f [.ref hp] ((hp, listOf #[.ref a1, .ref a2] n) :: rest) 6 60
     (fun r news' => r = .ref a1 ∧ ∃ n', news' = (hp, listOf (refs (sift k [a2])) n') :: rest) := by
  w_on
  obtain ⟨⟨oc5, od5, osl5, pm5, doc5, cdv5, ct5, an5, hK5, hcode5⟩, hkeep5, hname5⟩ := hf
  dsimp only [top, sN, sA, sB, sS, nth, PySem.Challenge.pw_pg0194_01] at hK5 hcode5 hname5
  have hkeep9 := FunAt.keep hfu
  have hname9 := FunAt.name hfu
  dsimp only [top, sN, nth, PySem.Challenge.pw_pg0194_01] at hname9
  unfold Spec
  intro dp un gd cn cs ca9 ccd cl outer A₀ base h₀ L m s Q E B F X N T hk hdp hun hret
  refine wpAny_call ?_
  refine' code_def (binds := [(Str.ofString "heap", .ref hp)]) B F X N T rfl rfl hk hK5 hcode5 ?k8 (BindsTo.of_eq rfl) (locs rfl) ?_ rfl rfl rfl (by decide)
  (case k8 => ktr_room)
  clear hK5 hcode5 hkeep5 hname5
  intro g' L' h' FG' F' N' B' X' T'
  try dsimp only
  try k_fold
  k_steps
  all_goals first | exact hret _ _ _ _ (by k_asm) (by k_asm) ⟨rfl, _, rfl⟩ | walk_report

set_option maxHeartbeats 8000000 in
theorem hq3 {f : Addr} (hf : FunAt K 5 f .none .none)
   (b_len : nsIn K mainGlobals (Str.ofString "len") = some none) {fd : Addr} (hfd : FunAt K 8 fd .none .none) {fu : Addr} (hfu : FunAt K 9 fu .none .none) {hp a1 a2 a3 : Addr} {k : Addr → Key} {n : Nat} {rest : Led} (off : ∀ p ∈ rest, p.1 ≠ hp) (ha1 : HI rest a1 (k a1)) (ha2 : HI rest a2 (k a2)) (ha3 : HI rest a3 (k a3)) :
   Spec prog w K p loose mean mg mb f [.ref hp] ((hp, listOf #[.ref a1, .ref a2, .ref a3] n) :: rest) 6 60
     (fun r news' => r = .ref a1 ∧ ∃ n', news' = (hp, listOf (refs (sift k [a3, a2])) n') :: rest) := by
  w_on
  obtain ⟨⟨oc5, od5, osl5, pm5, doc5, cdv5, ct5, an5, hK5, hcode5⟩, hkeep5, hname5⟩ := hf
  dsimp only [top, sN, sA, sB, sS, nth, PySem.Challenge.pw_pg0194_01] at hK5 hcode5 hname5
  have hkeep9 := FunAt.keep hfu
  have hname9 := FunAt.name hfu
  dsimp only [top, sN, nth, PySem.Challenge.pw_pg0194_01] at hname9
  unfold Spec
  intro dp un gd cn cs ca9 ccd cl outer A₀ base h₀ L m s Q E B F X N T hk hdp hun hret
  refine wpAny_call ?_
  refine' code_def (binds := [(Str.ofString "heap", .ref hp)]) B F X N T rfl rfl hk hK5 hcode5 ?k8 (BindsTo.of_eq rfl) (locs rfl) ?_ rfl rfl rfl (by decide)
  (case k8 => ktr_room)
  clear hK5 hcode5 hkeep5 hname5
  intro g' L' h' FG' F' N' B' X' T'
  try dsimp only
  try k_fold
  k_steps
  all_goals first | exact hret _ _ _ _ (by k_asm) (by k_asm) ⟨rfl, _, rfl⟩ | walk_report

set_option maxHeartbeats 8000000 in
theorem hy3 {f : Addr} (hf : FunAt K 7 f .none .none)
   (b_len : nsIn K mainGlobals (Str.ofString "len") = some none) (b_range : nsIn K mainGlobals (Str.ofString "range") = some none) (b_reversed : nsIn K mainGlobals (Str.ofString "reversed") = some none) {fd : Addr} (hfd : FunAt K 8 fd .none .none) {fu : Addr} (hfu : FunAt K 9 fu .none .none) {hp a1 a2 a3 : Addr} {k : Addr → Key} {n : Nat} {rest : Led} (off : ∀ p ∈ rest, p.1 ≠ hp) (ha1 : HI rest a1 (k a1)) (ha2 : HI rest a2 (k a2)) (ha3 : HI rest a3 (k a3)) :
   Spec prog w K p loose mean mg mb f [.ref hp] ((hp, listOf #[.ref a1, .ref a2, .ref a3] n) :: rest) 6 60
     (fun r news' => r = .none ∧ ∃ n', news' = (hp, listOf (refs (sift k [a1, a2, a3])) n') :: rest) := by
  w_on
  obtain ⟨⟨oc7, od7, osl7, pm7, doc7, cdv7, ct7, an7, hK7, hcode7⟩, hkeep7, hname7⟩ := hf
  dsimp only [top, sN, sA, sB, sS, nth, PySem.Challenge.pw_pg0194_01] at hK7 hcode7 hname7
  have hkeep9 := FunAt.keep hfu
  have hname9 := FunAt.name hfu
  dsimp only [top, sN, nth, PySem.Challenge.pw_pg0194_01] at hname9
  unfold Spec
  intro dp un gd cn cs ca9 ccd cl outer A₀ base h₀ L m s Q E B F X N T hk hdp hun hret
  refine wpAny_call ?_
  refine' code_def (binds := [(Str.ofString "x", .ref hp)]) B F X N T rfl rfl hk hK7 hcode7 ?k8 (BindsTo.of_eq rfl) (locs rfl) ?_ rfl rfl rfl (by decide)
  (case k8 => ktr_room)
  clear hK7 hcode7 hkeep7 hname7
  intro g' L' h' FG' F' N' B' X' T'
  try dsimp only
  try k_fold
  k_steps
  all_goals first | exact hret _ _ _ _ (by k_asm) (by k_asm) ⟨rfl, _, rfl⟩ | walk_report
theorem words7 : True := by
  k_with "own ForNext" => ((k_dflt (first | with_reducible refine for_done ?_ | with_reducible refine for_name ?_)))
  k_with "own ForNext" => ((k_dflt (with_reducible refine for_tup ?_)))
  k_with "own letOwnedTupleGo" => ((k_here; k_dflt (refine' let_lit ?N_k ?m_k ?o_k ?_; (case N_k => k_asm); (case m_k => k_mem); (case o_k => assumption); k_whole)))
  k_with "own subscriptTail Name Name ref int" => ((k_here; (with_reducible show wpAny _ _ (subscriptTail _ _ (Value.ref _) (Value.int _ _)) _ _ _); k_dflt (refine' tup_at ?N_k ?m_k ?a_k ?b_k ?x_k ?_ ?z_k; (case z_k => with_unfolding_all rfl); (case N_k => k_asm); (case m_k => k_mem); (case x_k => assumption); (case a_k => omega); (case b_k => omega); k_whole)))
  trivial

set_option maxHeartbeats 8000000 in
theorem cmp_spec {C fi fc : Addr} (hC : ClsAt K C fi fc)
   {x dx l q0 q1 q2 a b : Addr} {i0 i1 i2 x0 x1 x2 y0 y1 y2 : Int} {hh : Int} {tl ti0 ti1 ti2 td0 td1 td2 tx0 tx1 tx2 ty0 ty1 ty2 : Tok} {nd nl n0 n1 n2 na nb : Nat} {ia ib : List Value} {news : Led}
   (hx : (x, instObj C dx) ∈ news) (hd : (dx, dictOf [⟨hh, .str (Str.ofString "comp_select_list") tl, .ref l⟩] nd) ∈ news) (hl : (l, listOf #[.ref q0, .ref q1, .ref q2] nl) ∈ news)
   (h0 : (q0, tupOf [.int i0 ti0, .int (-1) td0] n0) ∈ news) (h1 : (q1, tupOf [.int i1 ti1, .int (-1) td1] n1) ∈ news) (h2 : (q2, tupOf [.int i2 ti2, .int (-1) td2] n2) ∈ news)
   (ha : (a, tupOf ia na) ∈ news) (hb : (b, tupOf ib nb) ∈ news)
   (bi0 : 0 ≤ i0 ∧ i0 < 3) (bi1 : 0 ≤ i1 ∧ i1 < 3) (bi2 : 0 ≤ i2 ∧ i2 < 3)
   (ga0 : ia[i0.toNat]? = some (.int x0 tx0)) (ga1 : ia[i1.toNat]? = some (.int x1 tx1)) (ga2 : ia[i2.toNat]? = some (.int x2 tx2))
   (gb0 : ib[i0.toNat]? = some (.int y0 ty0)) (gb1 : ib[i1.toNat]? = some (.int y1 ty1)) (gb2 : ib[i2.toNat]? = some (.int y2 ty2)) :
   Spec prog w K p loose mean mg mb fc [.ref x, .ref a, .ref b] news 2 40
     (fun r news' => news' = news ∧ ∃ c t, r = .int c t ∧ (c = 0 ↔ (x0 = y0 ∧ x1 = y1 ∧ x2 = y2))) := by
  w_on
  obtain ⟨cName, cKeep, cMakes, cInit, cInitFn, cInitIs, cCmp, cCmpFn, cCmpKeep, ⟨oc, od, osl, pm, doc, cdv, ct, an, hK, hcode⟩, cPlainC, cPlainL, cHasD, cOver, cTaker, cSetter, cOwn⟩ := hC
  clear cInitIs
  dsimp only [top, sN, sA, sB, sS, nth, PySem.Challenge.pw_pg0194_01] at hK
  unfold Spec
  intro dp un gd cn cs ca9 ccd cl outer A₀ base h₀ L m s Q E B F X N T hk hdp hun hret
  refine wpAny_call ?_
  refine' code_def (binds := [(Str.ofString "self", .ref x), (Str.ofString "left", .ref a), (Str.ofString "right", .ref b)]) B F X N T rfl rfl hk hK hcode ?k8 (BindsTo.of_eq rfl) (locs rfl) ?_ rfl rfl rfl (by decide)
  (case k8 => ktr_room)
  clear hK hcode
  intro g' L' h' FG' F' N' B' X' T'
  try dsimp only
  try k_fold
  k_steps
  all_goals first | exact hret _ _ _ _ (by k_asm) (by first | k_asm | exact news_tail (by k_asm)) ⟨rfl, _, _, rfl, by (simp only [decide_eq_true_eq, decide_eq_false_iff_not] at *; first | omega | (simp only [true_iff]; omega))⟩ | walk_report
theorem words8 : True := by
  k_with "own pyNext ref" => ((k_here; k_dflt (first
  | (refine' next_rng ?F_k ?N_k ?U_k ?l_k ?_; (case F_k => k_asm); (case N_k => k_asm); (case U_k => k_upd); (case l_k => decide); k_whole; intro h'k t'k tk'k F'k N'k; (try k_sweep))
  | (refine' next_rng_end ?H_k ?F_k ?N_k ?m_k ?D_k ?l_k ?_; (case H_k => exact rfl); (case F_k => k_asm); (case N_k => k_asm); (case m_k => k_mem); (case D_k => k_upd); (case l_k => decide); k_whole; intro h'k F'k N'k; (try k_sweep))
  | (refine' next_lst ?F_k ?N_k ?U_k ?o_k ?m_k ?x_k ?_; (case F_k => k_asm); (case N_k => k_asm); (case U_k => k_updF); (case o_k => with_reducible assumption); (case m_k => k_mem); (case x_k => first | (simp only [List.getElem?_toArray, List.getElem?_cons_zero, List.getElem?_cons_succ]; done) | (simp only [List.getElem?_toArray, List.getElem?_cons_zero, List.getElem?_cons_succ]; exact rfl)); k_whole; intro h'k o'k F'k N'k ho'k; (try k_sweep))
  | (refine' next_lst_end ?H_k ?F_k ?N_k ?I_k ?D_k ?o_k ?m_k ?x_k ?_; (case H_k => exact rfl); (case F_k => k_asm); (case N_k => k_asm); (case I_k => k_mem); (case D_k => k_upd); (case o_k => with_reducible assumption); (case m_k => k_mem); (case x_k => rfl); k_whole; intro h'k F'k N'k; (try k_sweep))
  | (refine' next_tup ?F_k ?N_k ?U_k ?o_k ?m_k ?x_k ?_; (case F_k => k_asm); (case N_k => k_asm); (case U_k => k_updF); (case o_k => with_reducible assumption); (case m_k => k_mem); (case x_k => first | (simp only [List.getElem?_cons_zero, List.getElem?_cons_succ]; done) | (simp only [List.getElem?_cons_zero, List.getElem?_cons_succ]; exact rfl)); k_whole; intro h'k o'k F'k N'k ho'k; (try k_sweep))
  | (refine' next_tup_end ?H_k ?F_k ?N_k ?I_k ?D_k ?o_k ?m_k ?x_k ?_; (case H_k => exact rfl); (case F_k => k_asm); (case N_k => k_asm); (case I_k => k_mem); (case D_k => k_upd); (case o_k => with_reducible assumption); (case m_k => k_mem); (case x_k => rfl); k_whole; intro h'k F'k N'k; (try k_sweep)))))
  k_with "own pyIter ref" => ((k_here; k_dflt (first
  | (refine' iter_rit ?N_k ?m_k ?_; (case N_k => k_asm); (case m_k => k_mem); k_whole)
  | (refine' iter_lst ?F_k ?N_k ?m_k ?_; (case F_k => k_asm); (case N_k => k_asm); (case m_k => k_mem); k_whole; intro I'k h'k o'k F'k N'k ho'k l1k; (try k_lt l1k); (try k_sweep))
  | (refine' iter_tup ?F_k ?N_k ?m_k ?_; (case F_k => k_asm); (case N_k => k_asm); (case m_k => k_mem); k_whole; intro I'k h'k o'k F'k N'k ho'k l1k; (try k_lt l1k); (try k_sweep))
  | (refine' iter_rng ?r_k ?s_k ?n_k ?F_k ?N_k ?_; (case r_k => with_reducible assumption); (case s_k => decide); (case n_k => exact Eq.refl _); (case F_k => k_asm); (case N_k => k_asm); k_whole; intro I'k h'k F'k N'k l1k; (try k_lt l1k); (try k_sweep)))))
  k_with "own pyIter ref" => ((k_here; k_dflt (refine' iter_items ?F_k ?N_k ?v_k ?m_k ?d_k ?_; (case F_k => k_asm); (case N_k => k_asm); (case v_k => k_mem); (case m_k => k_mem); (case d_k => with_reducible assumption); k_whole; intro I'k h'k ep'k F'k N'k a'k l1k; (try k_lt l1k); (try k_sweep))))
  k_with "own pyNext ref" => ((k_here; k_dflt (first
  | (refine' next_items ?F_k ?N_k ?U_k ?m_k ?a_k ?n_k ?x_k ?_; (case F_k => k_asm); (case N_k => k_asm); (case U_k => k_updF); (case m_k => k_mem); (case a_k => with_reducible assumption); (case n_k => exact rfl); (case x_k => first | (simp only [List.getElem?_cons_zero, List.getElem?_cons_succ]; done) | (simp only [List.getElem?_cons_zero, List.getElem?_cons_succ]; exact rfl)); k_whole; intro T'k h'k t'k F'k N'k l1k; (try dsimp only at N'k); (try k_lt l1k); (try k_sweep))
  | (refine' next_items_end ?H_k ?F_k ?N_k ?I_k ?D_k ?m_k ?a_k ?n_k ?x_k ?_; (case H_k => exact rfl); (case F_k => k_asm); (case N_k => k_asm); (case I_k => k_mem); (case D_k => k_upd); (case m_k => k_mem); (case a_k => with_reducible assumption); (case n_k => exact rfl); (case x_k => exact rfl); k_whole; intro h'k F'k N'k; (try k_sweep)))))
  k_with "own letOwnedTupleGo" => ((k_here; k_dflt (refine' let_items ?F_k ?N_k ?U_k ?_; (case F_k => k_asm); (case N_k => k_asm); (case U_k => k_upd); k_whole; intro h'k F'k N'k; (try k_sweep))))
  k_with "own compareOp In str ref" => ((k_here; k_dflt (refine in_strTab (by k_tabat) ?_)))
  k_with "own setItem ref str" => ((k_here; k_dflt (refine' setItem_K PyProof.V.same_str (strKind_is _ _ _ _) ?v_k ?F_k ?N_k ?U_k ?d_k ?f_k ?_ ?z_k; (case F_k => k_asm); (case N_k => k_asm); (case U_k => k_updF); (case d_k => with_reducible assumption); (case f_k => with_reducible assumption); (case z_k => exact line_of_lenLe (by dict_lenle) (by dict_fit)); (case v_k => k_flat)); intro h'k o'k F'k N'k hd'k hf'k; (try dsimp only at N'k); (try k_sweep)))
  trivial

set_option maxHeartbeats 8000000 in
theorem ac_x {f : Addr} (hf : FunAt K 13 f .none .none)
   (b_isinstance : nsIn K mainGlobals (Str.ofString "isinstance") = some none) (b_tuple : nsIn K mainGlobals (Str.ofString "tuple") = some none) (b_zip : nsIn K mainGlobals (Str.ofString "zip") = some none) {d1 d2 : Addr} {tx : Tok} {news : Led} (h1 : DI prog w news d1 []) (h2 : DI prog w news d2 [(Str.ofString "x", .int 1 tx)]) :
   Spec prog w K p loose mean mg mb f [.ref d1, .ref d2] (news) 3 60
     (fun r news' => ∃ new, news' = new ++ news ∧ (∀ q ∈ news, ∀ p ∈ new, q.1 < p.1) ∧ ∃ d, r = .ref d ∧ DI prog w new d [(Str.ofString "x", .int 1 tx)]) := by
  w_on
  obtain ⟨⟨oc13, od13, osl13, pm13, doc13, cdv13, ct13, an13, hK13, hcode13⟩, hkeep13, hname13⟩ := hf
  dsimp only [top, sN, sA, sB, sS, nth, PySem.Challenge.pw_pg0194_01] at hK13 hcode13 hname13
  obtain ⟨o1, D1, m1, i1, f1, lo1⟩ := h1
  obtain ⟨o2, D2, m2, i2, f2, lo2⟩ := h2
  unfold Spec
  intro dp un gd cn cs ca9 ccd cl outer A₀ base h₀ L m s Q E B F X N T hk hdp hun hret
  refine wpAny_call ?_
  refine' code_def (binds := [(Str.ofString "target", .ref d1), (Str.ofString "source", .ref d2)]) B F X N T rfl rfl hk hK13 hcode13 ?k8 (BindsTo.of_eq rfl) (locs rfl) ?_ rfl rfl rfl (by decide)
  (case k8 => ktr_room)
  clear hK13 hcode13 hkeep13 hname13
  intro g' L' h' FG' F' N' B' X' T'
  try dsimp only
  try k_fold
  k_steps
  · refine new_dict (news := news) hret (by k_asm) (by k_asm) (by k_mem) (by intro p hp; repeat (first | exact hp | refine List.mem_cons_of_mem _ ?_)) ?_ (by assumption) (by assumption) (by assumption) (fun new hlt hD => ⟨new, rfl, hlt, _, rfl, hD⟩)
    first | assumption | exact ktn_ltOf (by assumption)

set_option maxHeartbeats 8000000 in
theorem ac_y {f : Addr} (hf : FunAt K 13 f .none .none)
   (b_isinstance : nsIn K mainGlobals (Str.ofString "isinstance") = some none) (b_tuple : nsIn K mainGlobals (Str.ofString "tuple") = some none) (b_zip : nsIn K mainGlobals (Str.ofString "zip") = some none) {d1 d2 : Addr} {ty : Tok} {news : Led} (h1 : DI prog w news d1 []) (h2 : DI prog w news d2 [(Str.ofString "y", .int 1 ty)]) :
   Spec prog w K p loose mean mg mb f [.ref d1, .ref d2] (news) 3 60
     (fun r news' => ∃ new, news' = new ++ news ∧ (∀ q ∈ news, ∀ p ∈ new, q.1 < p.1) ∧ ∃ d, r = .ref d ∧ DI prog w new d [(Str.ofString "y", .int 1 ty)]) := by
  w_on
  obtain ⟨⟨oc13, od13, osl13, pm13, doc13, cdv13, ct13, an13, hK13, hcode13⟩, hkeep13, hname13⟩ := hf
  dsimp only [top, sN, sA, sB, sS, nth, PySem.Challenge.pw_pg0194_01] at hK13 hcode13 hname13
  obtain ⟨o1, D1, m1, i1, f1, lo1⟩ := h1
  obtain ⟨o2, D2, m2, i2, f2, lo2⟩ := h2
  unfold Spec
  intro dp un gd cn cs ca9 ccd cl outer A₀ base h₀ L m s Q E B F X N T hk hdp hun hret
  refine wpAny_call ?_
  refine' code_def (binds := [(Str.ofString "target", .ref d1), (Str.ofString "source", .ref d2)]) B F X N T rfl rfl hk hK13 hcode13 ?k8 (BindsTo.of_eq rfl) (locs rfl) ?_ rfl rfl rfl (by decide)
  (case k8 => ktr_room)
  clear hK13 hcode13 hkeep13 hname13
  intro g' L' h' FG' F' N' B' X' T'
  try dsimp only
  try k_fold
  k_steps
  · refine new_dict (news := news) hret (by k_asm) (by k_asm) (by k_mem) (by intro p hp; repeat (first | exact hp | refine List.mem_cons_of_mem _ ?_)) ?_ (by assumption) (by assumption) (by assumption) (fun new hlt hD => ⟨new, rfl, hlt, _, rfl, hD⟩)
    first | assumption | exact ktn_ltOf (by assumption)

set_option maxHeartbeats 8000000 in
theorem ac_z {f : Addr} (hf : FunAt K 13 f .none .none)
   (b_isinstance : nsIn K mainGlobals (Str.ofString "isinstance") = some none) (b_tuple : nsIn K mainGlobals (Str.ofString "tuple") = some none) (b_zip : nsIn K mainGlobals (Str.ofString "zip") = some none) {d1 d2 : Addr} {tz : Tok} {news : Led} (h1 : DI prog w news d1 []) (h2 : DI prog w news d2 [(Str.ofString "z", .int 1 tz)]) :
   Spec prog w K p loose mean mg mb f [.ref d1, .ref d2] (news) 3 60
     (fun r news' => ∃ new, news' = new ++ news ∧ (∀ q ∈ news, ∀ p ∈ new, q.1 < p.1) ∧ ∃ d, r = .ref d ∧ DI prog w new d [(Str.ofString "z", .int 1 tz)]) := by
  w_on
  obtain ⟨⟨oc13, od13, osl13, pm13, doc13, cdv13, ct13, an13, hK13, hcode13⟩, hkeep13, hname13⟩ := hf
  dsimp only [top, sN, sA, sB, sS, nth, PySem.Challenge.pw_pg0194_01] at hK13 hcode13 hname13
  obtain ⟨o1, D1, m1, i1, f1, lo1⟩ := h1
  obtain ⟨o2, D2, m2, i2, f2, lo2⟩ := h2
  unfold Spec
  intro dp un gd cn cs ca9 ccd cl outer A₀ base h₀ L m s Q E B F X N T hk hdp hun hret
  refine wpAny_call ?_
  refine' code_def (binds := [(Str.ofString "target", .ref d1), (Str.ofString "source", .ref d2)]) B F X N T rfl rfl hk hK13 hcode13 ?k8 (BindsTo.of_eq rfl) (locs rfl) ?_ rfl rfl rfl (by decide)
  (case k8 => ktr_room)
  clear hK13 hcode13 hkeep13 hname13
  intro g' L' h' FG' F' N' B' X' T'
  try dsimp only
  try k_fold
  k_steps
  · refine new_dict (news := news) hret (by k_asm) (by k_asm) (by k_mem) (by intro p hp; repeat (first | exact hp | refine List.mem_cons_of_mem _ ?_)) ?_ (by assumption) (by assumption) (by assumption) (fun new hlt hD => ⟨new, rfl, hlt, _, rfl, hD⟩)
    first | assumption | exact ktn_ltOf (by assumption)

set_option maxHeartbeats 8000000 in
theorem ac_xy {f : Addr} (hf : FunAt K 13 f .none .none)
   (b_isinstance : nsIn K mainGlobals (Str.ofString "isinstance") = some none) (b_tuple : nsIn K mainGlobals (Str.ofString "tuple") = some none) (b_zip : nsIn K mainGlobals (Str.ofString "zip") = some none) {d1 d2 : Addr} {tx ty : Tok} {news : Led} (h1 : DI prog w news d1 [(Str.ofString "x", .int 1 tx)]) (h2 : DI prog w news d2 [(Str.ofString "y", .int 1 ty)]) :
   Spec prog w K p loose mean mg mb f [.ref d1, .ref d2] (news) 3 60
     (fun r news' => ∃ new, news' = new ++ news ∧ (∀ q ∈ news, ∀ p ∈ new, q.1 < p.1) ∧ ∃ d, r = .ref d ∧ DI prog w new d [(Str.ofString "x", .int 1 tx), (Str.ofString "y", .int 1 ty)]) := by
  w_on
  obtain ⟨⟨oc13, od13, osl13, pm13, doc13, cdv13, ct13, an13, hK13, hcode13⟩, hkeep13, hname13⟩ := hf
  dsimp only [top, sN, sA, sB, sS, nth, PySem.Challenge.pw_pg0194_01] at hK13 hcode13 hname13
  obtain ⟨o1, D1, m1, i1, f1, lo1⟩ := h1
  obtain ⟨o2, D2, m2, i2, f2, lo2⟩ := h2
  unfold Spec
  intro dp un gd cn cs ca9 ccd cl outer A₀ base h₀ L m s Q E B F X N T hk hdp hun hret
  refine wpAny_call ?_
  refine' code_def (binds := [(Str.ofString "target", .ref d1), (Str.ofString "source", .ref d2)]) B F X N T rfl rfl hk hK13 hcode13 ?k8 (BindsTo.of_eq rfl) (locs rfl) ?_ rfl rfl rfl (by decide)
  (case k8 => ktr_room)
  clear hK13 hcode13 hkeep13 hname13
  intro g' L' h' FG' F' N' B' X' T'
  try dsimp only
  try k_fold
  k_steps
  · refine new_dict (news := news) hret (by k_asm) (by k_asm) (by k_mem) (by intro p hp; repeat (first | exact hp | refine List.mem_cons_of_mem _ ?_)) ?_ (by assumption) (by assumption) (by assumption) (fun new hlt hD => ⟨new, rfl, hlt, _, rfl, hD⟩)
    first | assumption | exact ktn_ltOf (by assumption)

set_option maxHeartbeats 8000000 in
theorem ac_xz {f : Addr} (hf : FunAt K 13 f .none .none)
   (b_isinstance : nsIn K mainGlobals (Str.ofString "isinstance") = some none) (b_tuple : nsIn K mainGlobals (Str.ofString "tuple") = some none) (b_zip : nsIn K mainGlobals (Str.ofString "zip") = some none) {d1 d2 : Addr} {tx tz : Tok} {news : Led} (h1 : DI prog w news d1 [(Str.ofString "x", .int 1 tx)]) (h2 : DI prog w news d2 [(Str.ofString "z", .int 1 tz)]) :
   Spec prog w K p loose mean mg mb f [.ref d1, .ref d2] (news) 3 60
     (fun r news' => ∃ new, news' = new ++ news ∧ (∀ q ∈ news, ∀ p ∈ new, q.1 < p.1) ∧ ∃ d, r = .ref d ∧ DI prog w new d [(Str.ofString "x", .int 1 tx), (Str.ofString "z", .int 1 tz)]) := by
  w_on
  obtain ⟨⟨oc13, od13, osl13, pm13, doc13, cdv13, ct13, an13, hK13, hcode13⟩, hkeep13, hname13⟩ := hf
  dsimp only [top, sN, sA, sB, sS, nth, PySem.Challenge.pw_pg0194_01] at hK13 hcode13 hname13
  obtain ⟨o1, D1, m1, i1, f1, lo1⟩ := h1
  obtain ⟨o2, D2, m2, i2, f2, lo2⟩ := h2
  unfold Spec
  intro dp un gd cn cs ca9 ccd cl outer A₀ base h₀ L m s Q E B F X N T hk hdp hun hret
  refine wpAny_call ?_
  refine' code_def (binds := [(Str.ofString "target", .ref d1), (Str.ofString "source", .ref d2)]) B F X N T rfl rfl hk hK13 hcode13 ?k8 (BindsTo.of_eq rfl) (locs rfl) ?_ rfl rfl rfl (by decide)
  (case k8 => ktr_room)
  clear hK13 hcode13 hkeep13 hname13
  intro g' L' h' FG' F' N' B' X' T'
  try dsimp only
  try k_fold
  k_steps
  · refine new_dict (news := news) hret (by k_asm) (by k_asm) (by k_mem) (by intro p hp; repeat (first | exact hp | refine List.mem_cons_of_mem _ ?_)) ?_ (by assumption) (by assumption) (by assumption) (fun new hlt hD => ⟨new, rfl, hlt, _, rfl, hD⟩)
    first | assumption | exact ktn_ltOf (by assumption)

set_option maxHeartbeats 8000000 in
theorem ac_yz {f : Addr} (hf : FunAt K 13 f .none .none)
   (b_isinstance : nsIn K mainGlobals (Str.ofString "isinstance") = some none) (b_tuple : nsIn K mainGlobals (Str.ofString "tuple") = some none) (b_zip : nsIn K mainGlobals (Str.ofString "zip") = some none) {d1 d2 : Addr} {ty tz : Tok} {news : Led} (h1 : DI prog w news d1 [(Str.ofString "y", .int 1 ty)]) (h2 : DI prog w news d2 [(Str.ofString "z", .int 1 tz)]) :
   Spec prog w K p loose mean mg mb f [.ref d1, .ref d2] (news) 3 60
     (fun r news' => ∃ new, news' = new ++ news ∧ (∀ q ∈ news, ∀ p ∈ new, q.1 < p.1) ∧ ∃ d, r = .ref d ∧ DI prog w new d [(Str.ofString "y", .int 1 ty), (Str.ofString "z", .int 1 tz)]) := by
  w_on
  obtain ⟨⟨oc13, od13, osl13, pm13, doc13, cdv13, ct13, an13, hK13, hcode13⟩, hkeep13, hname13⟩ := hf
  dsimp only [top, sN, sA, sB, sS, nth, PySem.Challenge.pw_pg0194_01] at hK13 hcode13 hname13
  obtain ⟨o1, D1, m1, i1, f1, lo1⟩ := h1
  obtain ⟨o2, D2, m2, i2, f2, lo2⟩ := h2
  unfold Spec
  intro dp un gd cn cs ca9 ccd cl outer A₀ base h₀ L m s Q E B F X N T hk hdp hun hret
  refine wpAny_call ?_
  refine' code_def (binds := [(Str.ofString "target", .ref d1), (Str.ofString "source", .ref d2)]) B F X N T rfl rfl hk hK13 hcode13 ?k8 (BindsTo.of_eq rfl) (locs rfl) ?_ rfl rfl rfl (by decide)
  (case k8 => ktr_room)
  clear hK13 hcode13 hkeep13 hname13
  intro g' L' h' FG' F' N' B' X' T'
  try dsimp only
  try k_fold
  k_steps
  · refine new_dict (news := news) hret (by k_asm) (by k_asm) (by k_mem) (by intro p hp; repeat (first | exact hp | refine List.mem_cons_of_mem _ ?_)) ?_ (by assumption) (by assumption) (by assumption) (fun new hlt hD => ⟨new, rfl, hlt, _, rfl, hD⟩)
    first | assumption | exact ktn_ltOf (by assumption)

set_option maxHeartbeats 8000000 in
theorem ac_xyz {f : Addr} (hf : FunAt K 13 f .none .none)
   (b_isinstance : nsIn K mainGlobals (Str.ofString "isinstance") = some none) (b_tuple : nsIn K mainGlobals (Str.ofString "tuple") = some none) (b_zip : nsIn K mainGlobals (Str.ofString "zip") = some none) {d1 d2 : Addr} {tx ty tz : Tok} {news : Led} (h1 : DI prog w news d1 [(Str.ofString "x", .int 1 tx), (Str.ofString "y", .int 1 ty)]) (h2 : DI prog w news d2 [(Str.ofString "z", .int 1 tz)]) :
   Spec prog w K p loose mean mg mb f [.ref d1, .ref d2] (news) 3 60
     (fun r news' => ∃ new, news' = new ++ news ∧ (∀ q ∈ news, ∀ p ∈ new, q.1 < p.1) ∧ ∃ d, r = .ref d ∧ DI prog w new d [(Str.ofString "x", .int 1 tx), (Str.ofString "y", .int 1 ty), (Str.ofString "z", .int 1 tz)]) := by
  w_on
  obtain ⟨⟨oc13, od13, osl13, pm13, doc13, cdv13, ct13, an13, hK13, hcode13⟩, hkeep13, hname13⟩ := hf
  dsimp only [top, sN, sA, sB, sS, nth, PySem.Challenge.pw_pg0194_01] at hK13 hcode13 hname13
  obtain ⟨o1, D1, m1, i1, f1, lo1⟩ := h1
  obtain ⟨o2, D2, m2, i2, f2, lo2⟩ := h2
  unfold Spec
  intro dp un gd cn cs ca9 ccd cl outer A₀ base h₀ L m s Q E B F X N T hk hdp hun hret
  refine wpAny_call ?_
  refine' code_def (binds := [(Str.ofString "target", .ref d1), (Str.ofString "source", .ref d2)]) B F X N T rfl rfl hk hK13 hcode13 ?k8 (BindsTo.of_eq rfl) (locs rfl) ?_ rfl rfl rfl (by decide)
  (case k8 => ktr_room)
  clear hK13 hcode13 hkeep13 hname13
  intro g' L' h' FG' F' N' B' X' T'
  try dsimp only
  try k_fold
  k_steps
  · refine new_dict (news := news) hret (by k_asm) (by k_asm) (by k_mem) (by intro p hp; repeat (first | exact hp | refine List.mem_cons_of_mem _ ?_)) ?_ (by assumption) (by assumption) (by assumption) (fun new hlt hD => ⟨new, rfl, hlt, _, rfl, hD⟩)
    first | assumption | exact ktn_ltOf (by assumption)
theorem words9 : True := by
  k_with "own call ref" => ((k_here; k_dflt (refine' Spec.use (ac_x ?x0_k ?x1_k ?x2_k ?x3_k ?x4_k ?x5_k) ?kB_k ?kF_k ?kX_k ?kN_k ?kT_k ?kk_k ?kd_k ?ku_k ?_; (case kB_k => k_asm); (case kF_k => k_asm); (case kX_k => k_asm); (case kN_k => k_asm); (case kT_k => k_asm); (case kk_k => first | exact rfl | assumption); (case kd_k => ktr_room); (case ku_k => ktr_units); (case x0_k => assumption); (case x1_k => assumption); (case x2_k => assumption); (case x3_k => assumption); (case x4_k => assumption); (case x5_k => assumption); k_whole); intro r9k news9k h9k tk9k F9k N9k P9k; (obtain ⟨new9k, e9k, lt9k, d9k, f9k, D9k⟩ := P9k; subst e9k; subst f9k); (try dsimp only); (try k_fold)))
  k_with "own call ref" => ((k_here; k_dflt (refine' Spec.use (ac_y ?x0_k ?x1_k ?x2_k ?x3_k ?x4_k ?x5_k) ?kB_k ?kF_k ?kX_k ?kN_k ?kT_k ?kk_k ?kd_k ?ku_k ?_; (case kB_k => k_asm); (case kF_k => k_asm); (case kX_k => k_asm); (case kN_k => k_asm); (case kT_k => k_asm); (case kk_k => first | exact rfl | assumption); (case kd_k => ktr_room); (case ku_k => ktr_units); (case x0_k => assumption); (case x1_k => assumption); (case x2_k => assumption); (case x3_k => assumption); (case x4_k => assumption); (case x5_k => assumption); k_whole); intro r9k news9k h9k tk9k F9k N9k P9k; (obtain ⟨new9k, e9k, lt9k, d9k, f9k, D9k⟩ := P9k; subst e9k; subst f9k); (try dsimp only); (try k_fold)))
  k_with "own call ref" => ((k_here; k_dflt (refine' Spec.use (ac_z ?x0_k ?x1_k ?x2_k ?x3_k ?x4_k ?x5_k) ?kB_k ?kF_k ?kX_k ?kN_k ?kT_k ?kk_k ?kd_k ?ku_k ?_; (case kB_k => k_asm); (case kF_k => k_asm); (case kX_k => k_asm); (case kN_k => k_asm); (case kT_k => k_asm); (case kk_k => first | exact rfl | assumption); (case kd_k => ktr_room); (case ku_k => ktr_units); (case x0_k => assumption); (case x1_k => assumption); (case x2_k => assumption); (case x3_k => assumption); (case x4_k => assumption); (case x5_k => assumption); k_whole); intro r9k news9k h9k tk9k F9k N9k P9k; (obtain ⟨new9k, e9k, lt9k, d9k, f9k, D9k⟩ := P9k; subst e9k; subst f9k); (try dsimp only); (try k_fold)))
  trivial

set_option maxHeartbeats 8000000 in
theorem st_x {f : Addr} (hf : FunAt K 12 f .none .none)
   (b_isinstance : nsIn K mainGlobals (Str.ofString "isinstance") = some none) (b_tuple : nsIn K mainGlobals (Str.ofString "tuple") = some none) (b_zip : nsIn K mainGlobals (Str.ofString "zip") = some none) {fa : Addr} (hfa : FunAt K 13 fa .none .none) {e u d1 d2 : Addr} {e0 e1 e2 e3 u0 u1 u2 u3 : Int} {c0 c1 c2 c3 q0 q1 q2 q3 tx : Tok} {ne nu : Nat} {news : Led} (he : (e, tupOf [.int e0 c0, .int e1 c1, .int e2 c2, .int e3 c3, .ref d1] ne) ∈ news) (hu : (u, tupOf [.int u0 q0, .int u1 q1, .int u2 q2, .int u3 q3, .ref d2] nu) ∈ news) (h1 : DI prog w news d1 []) (h2 : DI prog w news d2 [(Str.ofString "x", .int 1 tx)]) :
   Spec prog w K p loose mean mg mb f [.ref e, .ref u] (news) 5 90
     (fun r news' => ∃ new, news' = new ++ news ∧ (∀ q ∈ news, ∀ p ∈ new, q.1 < p.1) ∧ ∃ a d k0 k1 k2 k3 n, r = .ref a ∧ (a, tupOf [.int (u0 + e0) k0, .int (u1 + e1) k1, .int (u2 + e2) k2, .int (u3 + e3) k3, .ref d] n) ∈ new ∧ DI prog w new d [(Str.ofString "x", .int 1 tx)]) := by
  w_on
  obtain ⟨⟨oc12, od12, osl12, pm12, doc12, cdv12, ct12, an12, hK12, hcode12⟩, hkeep12, hname12⟩ := hf
  dsimp only [top, sN, sA, sB, sS, nth, PySem.Challenge.pw_pg0194_01] at hK12 hcode12 hname12
  have hkeep13 := FunAt.keep hfa
  have hname13 := FunAt.name hfa
  dsimp only [top, sN, nth, PySem.Challenge.pw_pg0194_01] at hname13
  unfold Spec
  intro dp un gd cn cs ca9 ccd cl outer A₀ base h₀ L m s Q E B F X N T hk hdp hun hret
  refine wpAny_call ?_
  refine' code_def (binds := [(Str.ofString "target", .ref e), (Str.ofString "source", .ref u)]) B F X N T rfl rfl hk hK12 hcode12 ?k8 (BindsTo.of_eq rfl) (locs rfl) ?_ rfl rfl rfl (by decide)
  (case k8 => ktr_room)
  clear hK12 hcode12 hkeep12 hname12
  intro g' L' h' FG' F' N' B' X' T'
  try dsimp only
  try k_fold
  k_steps
  all_goals first | exact hret _ _ _ _ (by k_asm) (by k_asm) ⟨_ :: _, rfl, above_cons (by assumption) (by assumption), _, _, _, _, _, _, _, rfl, List.mem_cons_self, DI.cons (by assumption)⟩ | walk_report

set_option maxHeartbeats 8000000 in
theorem st_y {f : Addr} (hf : FunAt K 12 f .none .none)
   (b_isinstance : nsIn K mainGlobals (Str.ofString "isinstance") = some none) (b_tuple : nsIn K mainGlobals (Str.ofString "tuple") = some none) (b_zip : nsIn K mainGlobals (Str.ofString "zip") = some none) {fa : Addr} (hfa : FunAt K 13 fa .none .none) {e u d1 d2 : Addr} {e0 e1 e2 e3 u0 u1 u2 u3 : Int} {c0 c1 c2 c3 q0 q1 q2 q3 ty : Tok} {ne nu : Nat} {news : Led} (he : (e, tupOf [.int e0 c0, .int e1 c1, .int e2 c2, .int e3 c3, .ref d1] ne) ∈ news) (hu : (u, tupOf [.int u0 q0, .int u1 q1, .int u2 q2, .int u3 q3, .ref d2] nu) ∈ news) (h1 : DI prog w news d1 []) (h2 : DI prog w news d2 [(Str.ofString "y", .int 1 ty)]) :
   Spec prog w K p loose mean mg mb f [.ref e, .ref u] (news) 5 90
     (fun r news' => ∃ new, news' = new ++ news ∧ (∀ q ∈ news, ∀ p ∈ new, q.1 < p.1) ∧ ∃ a d k0 k1 k2 k3 n, r = .ref a ∧ (a, tupOf [.int (u0 + e0) k0, .int (u1 + e1) k1, .int (u2 + e2) k2, .int (u3 + e3) k3, .ref d] n) ∈ new ∧ DI prog w new d [(Str.ofString "y", .int 1 ty)]) := by
  w_on
  obtain ⟨⟨oc12, od12, osl12, pm12, doc12, cdv12, ct12, an12, hK12, hcode12⟩, hkeep12, hname12⟩ := hf
  dsimp only [top, sN, sA, sB, sS, nth, PySem.Challenge.pw_pg0194_01] at hK12 hcode12 hname12
  have hkeep13 := FunAt.keep hfa
  have hname13 := FunAt.name hfa
  dsimp only [top, sN, nth, PySem.Challenge.pw_pg0194_01] at hname13
  unfold Spec
  intro dp un gd cn cs ca9 ccd cl outer A₀ base h₀ L m s Q E B F X N T hk hdp hun hret
  refine wpAny_call ?_
  refine' code_def (binds := [(Str.ofString "target", .ref e), (Str.ofString "source", .ref u)]) B F X N T rfl rfl hk hK12 hcode12 ?k8 (BindsTo.of_eq rfl) (locs rfl) ?_ rfl rfl rfl (by decide)
  (case k8 => ktr_room)
  clear hK12 hcode12 hkeep12 hname12
  intro g' L' h' FG' F' N' B' X' T'
  try dsimp only
  try k_fold
  k_steps
  all_goals first | exact hret _ _ _ _ (by k_asm) (by k_asm) ⟨_ :: _, rfl, above_cons (by assumption) (by assumption), _, _, _, _, _, _, _, rfl, List.mem_cons_self, DI.cons (by assumption)⟩ | walk_report

set_option maxHeartbeats 8000000 in
theorem st_z {f : Addr} (hf : FunAt K 12 f .none .none)
   (b_isinstance : nsIn K mainGlobals (Str.ofString "isinstance") = some none) (b_tuple : nsIn K mainGlobals (Str.ofString "tuple") = some none) (b_zip : nsIn K mainGlobals (Str.ofString "zip") = some none) {fa : Addr} (hfa : FunAt K 13 fa .none .none) {e u d1 d2 : Addr} {e0 e1 e2 e3 u0 u1 u2 u3 : Int} {c0 c1 c2 c3 q0 q1 q2 q3 tz : Tok} {ne nu : Nat} {news : Led} (he : (e, tupOf [.int e0 c0, .int e1 c1, .int e2 c2, .int e3 c3, .ref d1] ne) ∈ news) (hu : (u, tupOf [.int u0 q0, .int u1 q1, .int u2 q2, .int u3 q3, .ref d2] nu) ∈ news) (h1 : DI prog w news d1 []) (h2 : DI prog w news d2 [(Str.ofString "z", .int 1 tz)]) :
   Spec prog w K p loose mean mg mb f [.ref e, .ref u] (news) 5 90
     (fun r news' => ∃ new, news' = new ++ news ∧ (∀ q ∈ news, ∀ p ∈ new, q.1 < p.1) ∧ ∃ a d k0 k1 k2 k3 n, r = .ref a ∧ (a, tupOf [.int (u0 + e0) k0, .int (u1 + e1) k1, .int (u2 + e2) k2, .int (u3 + e3) k3, .ref d] n) ∈ new ∧ DI prog w new d [(Str.ofString "z", .int 1 tz)]) := by
  w_on
  obtain ⟨⟨oc12, od12, osl12, pm12, doc12, cdv12, ct12, an12, hK12, hcode12⟩, hkeep12, hname12⟩ := hf
  dsimp only [top, sN, sA, sB, sS, nth, PySem.Challenge.pw_pg0194_01] at hK12 hcode12 hname12
  have hkeep13 := FunAt.keep hfa
  have hname13 := FunAt.name hfa
  dsimp only [top, sN, nth, PySem.Challenge.pw_pg0194_01] at hname13
  unfold Spec
  intro dp un gd cn cs ca9 ccd cl outer A₀ base h₀ L m s Q E B F X N T hk hdp hun hret
  refine wpAny_call ?_
  refine' code_def (binds := [(Str.ofString "target", .ref e), (Str.ofString "source", .ref u)]) B F X N T rfl rfl hk hK12 hcode12 ?k8 (BindsTo.of_eq rfl) (locs rfl) ?_ rfl rfl rfl (by decide)
  (case k8 => ktr_room)
  clear hK12 hcode12 hkeep12 hname12
  intro g' L' h' FG' F' N' B' X' T'
  try dsimp only
  try k_fold
  k_steps
  all_goals first | exact hret _ _ _ _ (by k_asm) (by k_asm) ⟨_ :: _, rfl, above_cons (by assumption) (by assumption), _, _, _, _, _, _, _, rfl, List.mem_cons_self, DI.cons (by assumption)⟩ | walk_report
theorem words10 : True := by
  k_with "own subscriptTail Name Name ref int" => ((k_here; (with_reducible show wpAny _ _ (subscriptTail _ _ (Value.ref _) (Value.int _ _)) _ _ _); k_dflt (refine' int_at ?N_k ?m_k ?i_k ?k_k ?l_k ?_ ?z_k; (case z_k => with_unfolding_all rfl); (case N_k => k_asm); (case m_k => k_mem); (case i_k => with_reducible assumption); (case k_k => exact mid_in (by with_reducible assumption) (by first | with_reducible assumption | exact of_decide_eq_true (by with_reducible assumption))); (case l_k => with_reducible assumption); k_whole); intro _))
  k_with "own exec While Compare cons nil" => ((k_here; k_dflt (refine' while2 ?W_k ?F_k ?N_k ?a_k ?b_k ?_ ?_; (case W_k => with_reducible assumption); (case F_k => k_asm); (case N_k => k_asm); (case a_k => exact rfl); (case b_k => exact rfl); rotate_left; intro a9k b9k ta9k tb9k u9k h9k tk9k hP9k F9k N9k; (try k_sweep); (try k_fold))))
  k_with "own W2Post" => ((dsimp only [W2Post]))
  k_with "own W2End" => ((k_dflt (refine' w2_end ?F_k ?N_k ?a_k ?b_k ?r_k ?_ ?_; (case F_k => k_asm); (case N_k => k_asm); (case a_k => exact rfl); (case b_k => exact rfl); (case r_k => (intro zk q1k q2k q3k; (simp only [List.contains_cons, List.contains_nil, Bool.or_false, Bool.or_eq_false_iff, beq_eq_false_iff_ne, ne_eq] at q3k); (simp [q1k, q2k, q3k]))))))
  trivial

set_option maxHeartbeats 8000000 in
theorem br2 {f : Addr} (hf : FunBAt K 2 f) (b_len : nsIn K mainGlobals (Str.ofString "len") = some none) {l : Addr} {n : Nat} {vs : List Value} {ns : List Int} {x c : Int} {tx  : Tok} {news : Led}
   (hl : (l, listOf vs.toArray n) ∈ news) (hi : IntsAre vs ns) (hlen : ns.length < 2 ^ 62) (hc : 0 ≤ c ∧ c ≤ ns.length) (hcnt : ∀ k : Int, 0 ≤ k → k < ns.length → (ns.getD k.toNat 0 ≤ x ↔ k < c)) :
   Spec prog w K p loose mean mg mb f [.ref l, .int x tx] news 2 40 (fun r news' => news' = news ∧ ∃ t, r = .int c t) := by
  w_on
  obtain ⟨⟨oc, od, osl, pm, doc, cdv, ct, dV, kV, an, z, hK, hcode, hb2, hb4⟩, hkeep, hname⟩ := hf
  dsimp only [top, sN, sA, sB, sS, nth, PySem.Challenge.pw_pg0194_01] at hK hcode hb2 hb4
  have hW : WW2 (Str.ofString "lo") (Str.ofString "hi") [Str.ofString "mid"] news (fun a b => 0 ≤ a ∧ a ≤ c ∧ c ≤ b ∧ b ≤ ns.length) (fun a b => (b - a).toNat) := trivial
  unfold Spec
  intro dp un gd cn cs ca9 ccd cl outer A₀ base h₀ L m s Q E B F X N T hk hdp hun hret
  refine wpAny_call ?_
  refine' code_def (binds := [(Str.ofString "a", .ref l), (Str.ofString "x", .int x tx), (Str.ofString "lo", .int 0 z), (Str.ofString "hi", .none), (Str.ofString "key", .none)]) B F X N T rfl rfl hk hK hcode ?k8 (kp_binds (X.keeps F.keep) fun S => hb2 S _ _) (locs rfl) ?_ rfl rfl rfl (by decide)
  (case k8 => ktr_room)
  clear hK hcode hkeep hname hb2 hb4
  intro g' L' h' FG' F' N' B' X' T'
  try dsimp only
  try k_fold
  k_steps
  all_goals first
    | exact hret _ _ _ _ (by k_asm) (by k_asm) ⟨rfl, _, congrArg (fun q => Value.int q _) (by omega)⟩
    | omega
    | exact br_hi hcnt (mid_in (by with_reducible assumption) (by with_reducible assumption)) (by with_reducible assumption)
    | exact br_lo hcnt (mid_in (by with_reducible assumption) (by with_reducible assumption)) (by with_reducible assumption)
    | exact bl_hi hcnt (mid_in (by with_reducible assumption) (by with_reducible assumption)) (by with_reducible assumption)
    | exact bl_lo hcnt (mid_in (by with_reducible assumption) (by with_reducible assumption)) (by with_reducible assumption)
    | walk_report
set_option maxHeartbeats 8000000 in
theorem br4 {f : Addr} (hf : FunBAt K 2 f) (b_len : nsIn K mainGlobals (Str.ofString "len") = some none) {l : Addr} {n : Nat} {vs : List Value} {ns : List Int} {x c : Int} {tx t0 : Tok} {news : Led}
   (hl : (l, listOf vs.toArray n) ∈ news) (hi : IntsAre vs ns) (hlen : ns.length < 2 ^ 62) (hc : 0 ≤ c ∧ c ≤ ns.length) (hcnt : ∀ k : Int, 0 ≤ k → k < ns.length → (ns.getD k.toNat 0 ≤ x ↔ k < c)) :
   Spec prog w K p loose mean mg mb f [.ref l, .int x tx, .int 0 t0, .none] news 2 40 (fun r news' => news' = news ∧ ∃ t, r = .int c t) := by
  w_on
  obtain ⟨⟨oc, od, osl, pm, doc, cdv, ct, dV, kV, an, z, hK, hcode, hb2, hb4⟩, hkeep, hname⟩ := hf
  dsimp only [top, sN, sA, sB, sS, nth, PySem.Challenge.pw_pg0194_01] at hK hcode hb2 hb4
  have hW : WW2 (Str.ofString "lo") (Str.ofString "hi") [Str.ofString "mid"] news (fun a b => 0 ≤ a ∧ a ≤ c ∧ c ≤ b ∧ b ≤ ns.length) (fun a b => (b - a).toNat) := trivial
  unfold Spec
  intro dp un gd cn cs ca9 ccd cl outer A₀ base h₀ L m s Q E B F X N T hk hdp hun hret
  refine wpAny_call ?_
  refine' code_def (binds := [(Str.ofString "a", .ref l), (Str.ofString "x", .int x tx), (Str.ofString "lo", .int 0 t0), (Str.ofString "hi", .none), (Str.ofString "key", .none)]) B F X N T rfl rfl hk hK hcode ?k8 (kp_binds (X.keeps F.keep) fun S => hb4 S _ _ _ _) (locs rfl) ?_ rfl rfl rfl (by decide)
  (case k8 => ktr_room)
  clear hK hcode hkeep hname hb2 hb4
  intro g' L' h' FG' F' N' B' X' T'
  try dsimp only
  try k_fold
  k_steps
  all_goals first
    | exact hret _ _ _ _ (by k_asm) (by k_asm) ⟨rfl, _, congrArg (fun q => Value.int q _) (by omega)⟩
    | omega
    | exact br_hi hcnt (mid_in (by with_reducible assumption) (by with_reducible assumption)) (by with_reducible assumption)
    | exact br_lo hcnt (mid_in (by with_reducible assumption) (by with_reducible assumption)) (by with_reducible assumption)
    | exact bl_hi hcnt (mid_in (by with_reducible assumption) (by with_reducible assumption)) (by with_reducible assumption)
    | exact bl_lo hcnt (mid_in (by with_reducible assumption) (by with_reducible assumption)) (by with_reducible assumption)
    | walk_report
set_option maxHeartbeats 8000000 in
theorem bl2 {f : Addr} (hf : FunBAt K 3 f) (b_len : nsIn K mainGlobals (Str.ofString "len") = some none) {l : Addr} {n : Nat} {vs : List Value} {ns : List Int} {x c : Int} {tx  : Tok} {news : Led}
   (hl : (l, listOf vs.toArray n) ∈ news) (hi : IntsAre vs ns) (hlen : ns.length < 2 ^ 62) (hc : 0 ≤ c ∧ c ≤ ns.length) (hcnt : ∀ k : Int, 0 ≤ k → k < ns.length → (ns.getD k.toNat 0 < x ↔ k < c)) :
   Spec prog w K p loose mean mg mb f [.ref l, .int x tx] news 2 40 (fun r news' => news' = news ∧ ∃ t, r = .int c t) := by
  w_on
  obtain ⟨⟨oc, od, osl, pm, doc, cdv, ct, dV, kV, an, z, hK, hcode, hb2, hb4⟩, hkeep, hname⟩ := hf
  dsimp only [top, sN, sA, sB, sS, nth, PySem.Challenge.pw_pg0194_01] at hK hcode hb2 hb4
  have hW : WW2 (Str.ofString "lo") (Str.ofString "hi") [Str.ofString "mid"] news (fun a b => 0 ≤ a ∧ a ≤ c ∧ c ≤ b ∧ b ≤ ns.length) (fun a b => (b - a).toNat) := trivial
  unfold Spec
  intro dp un gd cn cs ca9 ccd cl outer A₀ base h₀ L m s Q E B F X N T hk hdp hun hret
  refine wpAny_call ?_
  refine' code_def (binds := [(Str.ofString "a", .ref l), (Str.ofString "x", .int x tx), (Str.ofString "lo", .int 0 z), (Str.ofString "hi", .none), (Str.ofString "key", .none)]) B F X N T rfl rfl hk hK hcode ?k8 (kp_binds (X.keeps F.keep) fun S => hb2 S _ _) (locs rfl) ?_ rfl rfl rfl (by decide)
  (case k8 => ktr_room)
  clear hK hcode hkeep hname hb2 hb4
  intro g' L' h' FG' F' N' B' X' T'
  try dsimp only
  try k_fold
  k_steps
  all_goals first
    | exact hret _ _ _ _ (by k_asm) (by k_asm) ⟨rfl, _, congrArg (fun q => Value.int q _) (by omega)⟩
    | omega
    | exact br_hi hcnt (mid_in (by with_reducible assumption) (by with_reducible assumption)) (by with_reducible assumption)
    | exact br_lo hcnt (mid_in (by with_reducible assumption) (by with_reducible assumption)) (by with_reducible assumption)
    | exact bl_hi hcnt (mid_in (by with_reducible assumption) (by with_reducible assumption)) (by with_reducible assumption)
    | exact bl_lo hcnt (mid_in (by with_reducible assumption) (by with_reducible assumption)) (by with_reducible assumption)
    | walk_report
theorem words11 : True := by
  k_with "own call builtin:list.insert" => ((k_here; k_dflt (refine' ins_K ?F_k ?N_k ?o_k ?i_k ?k_k ?z_k ?_; (case F_k => k_asm); (case N_k => k_asm); (case o_k => with_reducible assumption); (case i_k => with_reducible assumption); (case k_k => with_reducible assumption); (case z_k => with_reducible assumption); k_whole); intro h'k vs'k F'k N'k hI'k))
  k_with "own call ref" => ((k_here; k_dflt (refine' Spec.use (br4 ?x0_k ?x1_k ?x2_k ?x3_k ?x4_k ?x5_k ?x6_k) ?kB_k ?kF_k ?kX_k ?kN_k ?kT_k ?kk_k ?kd_k ?ku_k ?_; (case kB_k => k_asm); (case kF_k => k_asm); (case kX_k => k_asm); (case kN_k => k_asm); (case kT_k => k_asm); (case kk_k => first | exact rfl | assumption); (case kd_k => ktr_room); (case ku_k => ktr_units); (case x0_k => assumption); (case x1_k => with_reducible assumption); (case x2_k => k_mem); (case x3_k => with_reducible assumption); (case x4_k => omega); (case x5_k => with_reducible assumption); (case x6_k => with_reducible assumption); k_whole); intro r9k news9k h9k tk9k F9k N9k P9k; (obtain ⟨e9k, t9k, f9k⟩ := P9k; subst e9k; subst f9k); (try dsimp only); (try k_fold)))
  trivial

set_option maxHeartbeats 8000000 in
theorem in_spec {f fb : Addr} (hf : FunBAt K 1 f) (hfb : FunBAt K 2 fb) (b_len : nsIn K mainGlobals (Str.ofString "len") = some none) {l : Addr} {n : Nat} {vs : List Value} {ns : List Int} {x c : Int} {tx : Tok} {rest : Led} (off : ∀ p ∈ rest, p.1 ≠ l)
   (hi : IntsAre vs ns) (hlen : ns.length < 1000000) (hc : 0 ≤ c ∧ c ≤ ns.length) (hcnt : ∀ k : Int, 0 ≤ k → k < ns.length → (ns.getD k.toNat 0 ≤ x ↔ k < c)) :
   Spec prog w K p loose mean mg mb f [.ref l, .int x tx] ((l, listOf vs.toArray n) :: rest) 4 60 (fun r news' => r = .none ∧ ∃ vs' n', news' = (l, listOf vs'.toArray n') :: rest ∧ IntsAre vs' (ns.take c.toNat ++ x :: ns.drop c.toNat)) := by
  w_on
  obtain ⟨⟨oc, od, osl, pm, doc, cdv, ct, dV, kV, an, z, hK, hcode, hb2, hb4⟩, hkeep, hname⟩ := hf
  dsimp only [top, sN, sA, sB, sS, nth, PySem.Challenge.pw_pg0194_01] at hK hcode hb2 hb4
  have hkeepB := FunBAt.keep hfb
  have hnameB := FunBAt.name hfb
  dsimp only [top, sN, nth, PySem.Challenge.pw_pg0194_01] at hnameB
  unfold Spec
  intro dp un gd cn cs ca9 ccd cl outer A₀ base h₀ L m s Q E B F X N T hk hdp hun hret
  refine wpAny_call ?_
  refine' code_def (binds := [(Str.ofString "a", .ref l), (Str.ofString "x", .int x tx), (Str.ofString "lo", .int 0 z), (Str.ofString "hi", .none), (Str.ofString "key", .none)]) B F X N T rfl rfl hk hK hcode ?k8 (kp_binds (X.keeps F.keep) fun S => hb2 S _ _) (locs rfl) ?_ rfl rfl rfl (by decide)
  (case k8 => ktr_room)
  clear hK hcode hkeep hname hb2 hb4
  intro g' L' h' FG' F' N' B' X' T'
  try dsimp only
  try k_fold
  k_steps
  all_goals first
    | exact hret _ _ _ _ (by k_asm) (by k_asm) ⟨rfl, _, _, rfl, by with_reducible assumption⟩
    | walk_report
theorem words12 : True := by
  k_with "own ForNext" => ((k_dflt (first | with_reducible refine for_done ?_ | with_reducible refine for_name ?_)))
  k_with "own pyNext ref" => ((k_here; k_dflt (first
  | (refine' next_rng ?F_k ?N_k ?U_k ?l_k ?_; (case F_k => k_asm); (case N_k => k_asm); (case U_k => k_upd); (case l_k => decide); k_whole; intro h'k t'k tk'k F'k N'k; (try k_sweep))
  | (refine' next_rng_end ?H_k ?F_k ?N_k ?m_k ?D_k ?l_k ?_; (case H_k => exact rfl); (case F_k => k_asm); (case N_k => k_asm); (case m_k => k_mem); (case D_k => k_upd); (case l_k => decide); k_whole; intro h'k F'k N'k; (try k_sweep))
  | (refine' next_lst ?F_k ?N_k ?U_k ?o_k ?m_k ?x_k ?_; (case F_k => k_asm); (case N_k => k_asm); (case U_k => k_updF); (case o_k => with_reducible assumption); (case m_k => k_mem); (case x_k => first | (simp only [List.getElem?_toArray, List.getElem?_cons_zero, List.getElem?_cons_succ]; done) | (simp only [List.getElem?_toArray, List.getElem?_cons_zero, List.getElem?_cons_succ]; exact rfl)); k_whole; intro h'k o'k F'k N'k ho'k; (try k_sweep))
  | (refine' next_lst_end ?H_k ?F_k ?N_k ?I_k ?D_k ?o_k ?m_k ?x_k ?_; (case H_k => exact rfl); (case F_k => k_asm); (case N_k => k_asm); (case I_k => k_mem); (case D_k => k_upd); (case o_k => with_reducible assumption); (case m_k => k_mem); (case x_k => rfl); k_whole; intro h'k F'k N'k; (try k_sweep))
  | (refine' next_tup ?F_k ?N_k ?U_k ?o_k ?m_k ?x_k ?_; (case F_k => k_asm); (case N_k => k_asm); (case U_k => k_updF); (case o_k => with_reducible assumption); (case m_k => k_mem); (case x_k => first | (simp only [List.getElem?_cons_zero, List.getElem?_cons_succ]; done) | (simp only [List.getElem?_cons_zero, List.getElem?_cons_succ]; exact rfl)); k_whole; intro h'k o'k F'k N'k ho'k; (try k_sweep))
  | (refine' next_tup_end ?H_k ?F_k ?N_k ?I_k ?D_k ?o_k ?m_k ?x_k ?_; (case H_k => exact rfl); (case F_k => k_asm); (case N_k => k_asm); (case I_k => k_mem); (case D_k => k_upd); (case o_k => with_reducible assumption); (case m_k => k_mem); (case x_k => rfl); k_whole; intro h'k F'k N'k; (try k_sweep)))))
  k_with "own pyIter ref" => ((k_here; k_dflt (first
  | (refine' iter_rit ?N_k ?m_k ?_; (case N_k => k_asm); (case m_k => k_mem); k_whole)
  | (refine' iter_lst ?F_k ?N_k ?m_k ?_; (case F_k => k_asm); (case N_k => k_asm); (case m_k => k_mem); k_whole; intro I'k h'k o'k F'k N'k ho'k l1k; (try k_lt l1k); (try k_sweep))
  | (refine' iter_tup ?F_k ?N_k ?m_k ?_; (case F_k => k_asm); (case N_k => k_asm); (case m_k => k_mem); k_whole; intro I'k h'k o'k F'k N'k ho'k l1k; (try k_lt l1k); (try k_sweep))
  | (refine' iter_rng ?r_k ?s_k ?n_k ?F_k ?N_k ?_; (case r_k => with_reducible assumption); (case s_k => decide); (case n_k => exact Eq.refl _); (case F_k => k_asm); (case N_k => k_asm); k_whole; intro I'k h'k F'k N'k l1k; (try k_lt l1k); (try k_sweep)))))
  k_with "own CompGo" => ((refine comp_step ?_; intro E9'k))
  trivial

set_option maxHeartbeats 8000000 in
theorem en_spec {f : Addr} (hf : FunAt K 17 f .none .none)
   (b_sum : nsIn K mainGlobals (Str.ofString "sum") = some none) {u : Addr} {wt u0 u1 u2 e0 e1 e2 e3 : Int} {tw q0 q1 q2 : Tok} {nu : Nat} {news : Led} (hu : (u, tupOf [.int u0 q0, .int u1 q1, .int u2 q2] nu) ∈ news) (b : 0 ≤ wt ∧ wt ≤ 1000) (c0 : 1 ≤ u0 ∧ u0 ≤ 100) (c1 : 1 ≤ u1 ∧ u1 ≤ 100) (c2 : 1 ≤ u2 ∧ u2 ≤ 100) (he0 : e0 = (wt.fdiv u0).fmod 8) (he1 : e1 = (wt.fdiv u1).fmod 8) (he2 : e2 = (wt.fdiv u2).fmod 8) (he3 : e3 = e0 + (e1 + (e2 + 0))) :
   Spec prog w K p loose mean mg mb f [.int wt tw, .ref u] (news) 3 60
     (fun r news' => ∃ new, news' = new ++ news ∧ (∀ q ∈ news, ∀ p ∈ new, q.1 < p.1) ∧ ∃ a d k0 k1 k2 k3 n, r = .ref a ∧ (a, tupOf [.int e0 k0, .int e1 k1, .int e2 k2, .int e3 k3, .ref d] n) ∈ new ∧ DI prog w new d []) := by
  w_on
  obtain ⟨⟨oc17, od17, osl17, pm17, doc17, cdv17, ct17, an17, hK17, hcode17⟩, hkeep17, hname17⟩ := hf
  dsimp only [top, sN, sA, sB, sS, nth, PySem.Challenge.pw_pg0194_01] at hK17 hcode17 hname17
  subst he0 he1 he2 he3
  unfold Spec
  intro dp un gd cn cs ca9 ccd cl outer A₀ base h₀ L m s Q E B F X N T hk hdp hun hret
  refine wpAny_call ?_
  refine' code_defC (binds := [(Str.ofString "weight", .int wt tw), (Str.ofString "units", .ref u)]) B F X N T rfl rfl hk hK17 hcode17 ?k8 (BindsTo.of_eq rfl) rfl (by decide +kernel) ?_ rfl rfl rfl
  (case k8 => ktr_room)
  clear hK17 hcode17 hkeep17 hname17
  intro g' L' h' tk' cells' FG' F' N' Y' B' X' T' l1
  try k_lt l1
  k_cells Y'
  try simp only [List.cons_append, List.nil_append] at N'
  try dsimp only
  try k_fold
  k_steps
  refine' close_new hret ?F ?N ⟨[(_, _), (_, _)], rfl, ?lt, _, _, _, _, _, _, _, rfl, List.mem_cons_self, _, _, List.mem_cons_of_mem _ List.mem_cons_self, ?i, ?f, ?lo⟩ ?hn ?hs
  (case F => k_asm)
  (case N => k_asm)
  (case hn => exact List.forall_mem_cons.mpr ⟨by k_mem, List.forall_mem_cons.mpr ⟨by k_mem, List.forall_mem_nil _⟩⟩)
  (case i => with_reducible assumption)
  (case f => with_reducible assumption)
  (case lo => with_reducible assumption)
  (case hs => exact (by intro p hp; repeat (first | exact hp | refine List.mem_cons_of_mem _ ?_)))
  (case lt => exact above2 (by first | with_reducible assumption | (refine ktn_ltOf ?_; first | with_reducible assumption | exact And.right (by with_reducible assumption) | exact And.right (And.right (by with_reducible assumption)) | exact And.right (And.right (And.right (by with_reducible assumption))))) (above1 (by first | with_reducible assumption | (refine ktn_ltOf ?_; first | with_reducible assumption | exact And.right (by with_reducible assumption) | exact And.right (And.right (by with_reducible assumption)) | exact And.right (And.right (And.right (by with_reducible assumption)))))))
theorem words13 : True := by
  k_with "own pyIter ref" => ((k_here; k_dflt (first
  | (refine' iter_rit ?N_k ?m_k ?_; (case N_k => k_asm); (case m_k => k_mem); k_whole)
  | (refine' iter_lst ?F_k ?N_k ?m_k ?_; (case F_k => k_asm); (case N_k => k_asm); (case m_k => k_mem); k_whole; intro I'k h'k o'k F'k N'k ho'k l1k; (try k_lt l1k); (try k_sweep))
  | (refine' iter_tup ?F_k ?N_k ?m_k ?_; (case F_k => k_asm); (case N_k => k_asm); (case m_k => k_mem); k_whole; intro I'k h'k o'k F'k N'k ho'k l1k; (try k_lt l1k); (try k_sweep))
  | (refine' iter_rng ?r_k ?s_k ?n_k ?F_k ?N_k ?_; (case r_k => with_reducible assumption); (case s_k => decide); (case n_k => exact Eq.refl _); (case F_k => k_asm); (case N_k => k_asm); k_whole; intro I'k h'k F'k N'k l1k; (try k_lt l1k); (try k_sweep)))))
  k_with "own pyIter ref" => ((k_here; k_dflt (refine' iter_dn ?r_k ?b_k ?F_k ?N_k ?_; (case r_k => with_reducible assumption); (case b_k => first | with_reducible assumption | exact ⟨by omega, by omega⟩); (case F_k => k_asm); (case N_k => k_asm); k_whole); intro I'k h'k F'k N'k l1k; (try k_lt l1k); (try k_sweep)))
  k_with "own Start3" => ((k_here; k_dflt (refine' start3 ?N_k ?m_k ?s_k ?_; (case N_k => k_asm); (case m_k => k_mem); (case s_k => exact .inr (.inr (.inl ⟨_, _, _, rfl⟩))); k_whole)))
  k_with "own InNext" => ((k_dflt (first | with_reducible refine in_next ?_ | with_reducible refine in_name ?_)))
  trivial

noncomputable def allP : Nat → List Int
  | 2 => [128, 72, 65, 16, 9, 2]
  | 3 => [192, 136, 129, 80, 73, 66, 24, 17, 10, 3]
  | 4 => [256, 200, 193, 144, 137, 130, 88, 81, 74, 67, 32, 25, 18, 11, 4]
  | 5 => [320, 264, 257, 208, 201, 194, 152, 145, 138, 131, 96, 89, 82, 75, 68, 40, 33, 26, 19, 12, 5]
  | _ => []
theorem outs_all {dn : Nat} (h : 2 ≤ dn ∧ dn ≤ 5) : outs (innerF dn) (dn + 1) = allP dn := by
  have : dn = 2 ∨ dn = 3 ∨ dn = 4 ∨ dn = 5 := by omega
  rcases this with rfl | rfl | rfl | rfl <;> decide +kernel
set_option maxHeartbeats 8000000 in
theorem al_gen {f : Addr} (hf : FunAt K 15 f .none .none)
   (b_range : nsIn K mainGlobals (Str.ofString "range") = some none) {d : Int} {dn : Nat} {td : Tok} (hd : d = dn) (hdn : 2 ≤ dn ∧ dn ≤ 5) {news : Led} :
   Spec prog w K p loose mean mg mb f [.int d td] (news) 3 60
     (fun r news' => ∃ vs n a, r = .ref a ∧ news' = (a, listOf vs.toArray n) :: news ∧ (∀ q ∈ news, q.1 < a) ∧ IntsAre vs (allP dn)) := by
  w_on
  obtain ⟨⟨oc15, od15, osl15, pm15, doc15, cdv15, ct15, an15, hK15, hcode15⟩, hkeep15, hname15⟩ := hf
  dsimp only [top, sN, sA, sB, sS, nth, PySem.Challenge.pw_pg0194_01] at hK15 hcode15 hname15
  subst hd
  unfold Spec
  intro dp un gd cn cs ca9 ccd cl outer A₀ base h₀ L m s Q E B F X N T hk hdp hun hret
  refine wpAny_call ?_
  refine' code_defC (binds := [(Str.ofString "degree", .int (dn : Int) td)]) B F X N T rfl rfl hk hK15 hcode15 ?k8 (BindsTo.of_eq rfl) rfl (by decide +kernel) ?_ rfl rfl rfl
  (case k8 => ktr_room)
  clear hK15 hcode15 hkeep15 hname15
  intro g' L' h' tk' cells' FG' F' N' Y' B' X' T' l1
  try k_lt l1
  k_cells Y'
  try simp only [List.cons_append, List.nil_append] at N'
  try dsimp only
  try k_fold
  k_steps
  refine' out_rng (innerF dn) ?g_hh ?g_hf ?g_hx ?g_hp ?g_IC ?g_ID ?g_CD ?g_I ?g_C ?g_D (dn + 1) ?g_turn ?g_in ?g_K (dn + 1) _ [] _ _ zeroFr (Nat.le_refl _) (Nat.zero_le _) ?g_F ?g_N ?g_O ?_
  (case g_hh => exact rfl)
  (case g_hf => exact fun _ => rfl)
  (case g_hx => exact rfl)
  (case g_hp => exact rfl)
  (case g_N => exact all_led (by k_asm))
  (case g_F => k_asm)
  (case g_O => with_reducible assumption)
  (case g_IC => k_ne)
  (case g_ID => k_ne)
  (case g_CD => k_ne)
  (case g_I => k_all)
  (case g_C => k_all)
  (case g_D => k_all)
  (case g_in => exact fun i hi => innerF_len ⟨Int.natCast_nonneg i, Int.ofNat_le.mpr (Nat.le_of_lt_succ hi), Int.ofNat_le.mpr hdn.2⟩)
  (case g_K => exact Nat.le_trans (Nat.succ_le_succ hdn.2) (by decide))
  (case g_turn =>
    intro i t s' vs n oC' oI' mC' E' R' hi hvl F9 N9 hO9 ret9
    replace N9 := all_rot N9
    have hb9 : -1 ≤ (dn : Int) - i ∧ (dn : Int) - i ≤ 10 := by omega
    have hv9 : vs.length ≤ 900 := by omega
    have hp9 : 0 < (dn : Int) - i + 1 := by omega
    k_steps
    refine' in_rngL (f := fun M j => 64 * iOf M + 8 * j + (dn : Int) - iOf M - j) ?r_H ?r_X ?r_P ?r_F ?r_N ?r_O ?r_ic ?r_id ?r_cd ?r_i ?r_c ?r_d ?r_e1 ?r_e2 ?r_z ?r_b ?_
    (case r_H => exact rfl)
    (case r_X => exact rfl)
    (case r_P => exact rfl)
    (case r_F => k_asm)
    (case r_N => k_asm)
    (case r_O => with_reducible assumption)
    (case r_ic => k_ne)
    (case r_id => k_ne)
    (case r_cd => k_ne)
    (case r_i => k_all)
    (case r_c => k_all)
    (case r_d => k_all)
    (case r_e1 => exact rfl)
    (case r_e2 => exact hp9)
    (case r_z => exact ⟨by omega, hv9⟩)
    (case r_b =>
      intro j9 t9 s9 o9 E9 F7 N7 h7
      with_reducible k_steps
      exact ⟨_, _, rfl, rfl⟩)
    intro ws9 n9 o9 v9 h9 tk9 F6 N6 h6 i6 _
    exact ret9 ws9 n9 o9 _ h9 _ F6 N6 h6 i6)
  intro ws n' oC' mC' h' tk' F8 N8 hO8 hw8
  rw [outs_all hdn] at hw8
  try k_fold
  k_steps
  refine' close_new (new := [(_, _)]) hret ?g9F ?g9N ⟨_, _, _, rfl, rfl, ?g9lt, ?g9i⟩ ?g9hn ?g9hs
  (case g9F => k_asm)
  (case g9N => k_asm)
  (case g9hn => exact List.forall_mem_cons.mpr ⟨by k_mem, List.forall_mem_nil _⟩)
  (case g9hs => exact (by intro p hp; repeat (first | exact hp | refine List.mem_cons_of_mem _ ?_)))
  (case g9lt => exact (by first | with_reducible assumption | (refine ktn_ltOf ?_; first | with_reducible assumption | exact And.right (by with_reducible assumption) | exact And.right (And.right (by with_reducible assumption)) | exact And.right (And.right (And.right (by with_reducible assumption))))))
  (case g9i => exact hw8)
end P1
section P2
section Cas_part
open PySem PySem.W PyProof.Rows PyProof.Rows.LCg
section
noncomputable def pcol (prev : List Int) : Nat → List Int
  | 0 => [0]
  | k + 1 => pcol prev k ++ [(pcol prev k).getD k 0 + prev.getD k 0]
theorem pcol_len (prev : List Int) : ∀ k, (pcol prev k).length = k + 1
  | 0 => rfl
  | k + 1 => by rw [pcol, List.length_append, pcol_len prev k]; rfl
noncomputable def cntLe : List Int → Int → Int
  | [], _ => 0
  | a :: l, x => if a ≤ x then 1 + cntLe l x else 0
noncomputable def upTo : List Int → Bool
  | [] => true
  | [_] => true
  | a :: b :: l => decide (a ≤ b) && upTo (b :: l)
theorem cntLe_range : ∀ (l : List Int) (x : Int), 0 ≤ cntLe l x ∧ cntLe l x ≤ l.length
  | [], _ => ⟨Int.le_refl _, Int.le_refl _⟩
  | a :: l, x => by
    have h := cntLe_range l x
    rw [cntLe]
    split
    · simp only [List.length_cons]; omega
    · simp only [List.length_cons]; omega
theorem upTo_le : ∀ (l : List Int) (a : Int), upTo (a :: l) = true → ∀ i : Nat, i < l.length → a ≤ l.getD i 0
  | [], _, _, i, h => absurd h (Nat.not_lt_zero i)
  | b :: l, a, h, i, hi => by
    rw [upTo, Bool.and_eq_true, decide_eq_true_eq] at h
    cases i with
    | zero => exact h.1
    | succ i => exact Int.le_trans h.1 (upTo_le l b h.2 i (Nat.lt_of_succ_lt_succ hi))
theorem upTo_tail : ∀ {l : List Int} {a : Int}, upTo (a :: l) = true → upTo l = true
  | [], _, _ => rfl
  | _ :: _, _, h => by rw [upTo, Bool.and_eq_true] at h; exact h.2
theorem cnt_iffN : ∀ (l : List Int) (x : Int), upTo l = true → ∀ i : Nat, i < l.length → (l.getD i 0 ≤ x ↔ (i : Int) < cntLe l x)
  | [], _, _, i, h => absurd h (Nat.not_lt_zero i)
  | a :: l, x, h, i, hi => by
    rw [cntLe]
    cases i with
    | zero =>
      have r := cntLe_range l x
      split
      · rename_i q; exact ⟨fun _ => by omega, fun _ => q⟩
      · rename_i q; exact ⟨fun q' => absurd q' q, fun z => absurd z (by omega)⟩
    | succ i =>
      have hi' := Nat.lt_of_succ_lt_succ hi
      have e := cnt_iffN l x (upTo_tail h) i hi'
      have g : (a :: l).getD (i + 1) 0 = l.getD i 0 := rfl
      rw [g]
      split
      · rw [e]; constructor <;> intro z <;> omega
      · rename_i q
        exact ⟨fun z => absurd (Int.le_trans (upTo_le l a h i hi') z) q, fun z => absurd z (by omega)⟩
theorem cnt_iff {l : List Int} {x : Int} (h : upTo l = true) : ∀ k : Int, 0 ≤ k → k < l.length → (l.getD k.toNat 0 ≤ x ↔ k < cntLe l x) := fun k h0 h1 => by
  have := cnt_iffN l x h k.toNat (by omega)
  rw [this, Int.toNat_of_nonneg h0]
section
variable {prog : Program} {w : World} {A : Around} {E : Value → Shared → Prop} {s : Shared} {env : Env} {body : List Stmt} {Q : Flow → Shared → Prop} {h₀ : Heap} {I D : Addr} {m : Str → Option Value} {rest : Led}
/-- what the body of the inner loop leaves -/
noncomputable def ColEnd (h₀ : Heap) (L : Addr) (s' : Shared) (m : Str → Option Value) (N9 : List Value → Nat → Led) (want : List Int) (f : Flow) (s4 : Shared) : Prop :=
  f = .next ∧ ∃ vs' n' h' tk', s4 = { s' with heap := h', toks := tk' } ∧ Fr h₀ L h' m ∧ News h₀ L h' (N9 vs' n') ∧ IntsAre vs' want
theorem for_col {x : Str} {px : Pos} {prev : List Int} {K : Nat} (hx : env.kindOf x = some .local) (hp : (env.scope.kind == .class || (env.scope.kind == .module && env.locals != env.globals)) = false)
    (hh : A.handled = none) (hID : D ≠ I) (hI : ∀ p ∈ rest, p.1 ≠ I) (hD : ∀ p ∈ rest, p.1 ≠ D)
    (body1 : ∀ (j : Int) (t : Tok) (s' : Shared) (vs : List Value) (n : Nat) (i9 : Int) (E' : Value → Shared → Prop), 0 ≤ j → j < 7 → Fr h₀ env.locals s'.heap (fun y => if y = x then some (.int j t) else m y) →
      News h₀ env.locals s'.heap ((I, ritO (j + 1) i9 1) :: (D, listOf vs.toArray n) :: rest) → IntsAre vs (pcol prev j.toNat) → (pcol prev j.toNat).length = j.toNat + 1 → vs.length ≤ 8 →
      wpAny (model prog w) A (execs body env) (ColEnd h₀ env.locals s' (fun y => if y = x then some (.int j t) else m y) (fun vs' n' => (I, ritO (j + 1) i9 1) :: (D, listOf vs'.toArray n') :: rest) (pcol prev (j.toNat + 1))) E' s') :
    ∀ (k : Nat) (j : Nat) (s : Shared) (vs : List Value) (n : Nat) (m' : Str → Option Value), j + k = 7 → (∀ y, y ≠ x → m' y = m y) → (k = 0 → ∃ t, m' = fun y => if y = x then some (.int 6 t) else m y) → Fr h₀ env.locals s.heap m' → News h₀ env.locals s.heap ((I, ritO j k 1) :: (D, listOf vs.toArray n) :: rest) → IntsAre vs (pcol prev j) →
    (∀ vs' n' t h' tk', Fr h₀ env.locals h' (fun y => if y = x then some (.int 6 t) else m y) → News h₀ env.locals h' ((D, listOf vs'.toArray n') :: rest) → IntsAre vs' (pcol prev 7) → Q .next { s with heap := h', toks := tk' }) →
    ForGo prog w A E env (.Name x px) (.ref I) body Q s := by
  intro k
  induction k with
  | zero =>
    intro j s vs n m' hj hm hm0 F N hv ret
    obtain ⟨t, rfl⟩ := hm0 rfl
    have : j = 7 := by omega
    subst this
    refine for_step fun E' => ?_
    refine next_rng_end hh F N List.mem_cons_self (.head ?_) (by omega) fun h' F' N' => for_done ?_
    · intro p hp
      rcases List.mem_cons.mp hp with rfl | hp
      · exact hID
      · exact hI p hp
    · exact ret vs n t h' _ F' N' hv
  | succ k ih =>
    intro j s vs n m' hj hm hm0 F N hv ret
    refine for_step fun E' => ?_
    refine next_rng (news' := (I, ritO ((j : Int) + 1) (((k + 1 : Nat) : Int) - 1) 1) :: (D, listOf vs.toArray n) :: rest) F N (.head ?_) (by omega) fun h₁ t tk₁ F₁ N₁ => for_name ?_
    · intro p hp
      rcases List.mem_cons.mp hp with rfl | hp
      · exact hID
      · exact hI p hp
    refine wpAny_storeName_local hx F₁.ns (fun h₂ hn₂ hs₂ => ?_) hp
    have F₂ := F₁.set hn₂ hs₂
    have N₂ := N₁.set hs₂
    have em : (fun z => if z = x then some (Value.int (j : Int) t) else m' z) = (fun y => if y = x then some (.int (j : Int) t) else m y) := by
      funext y
      by_cases e : y = x
      · rw [if_pos e, if_pos e]
      · rw [if_neg e, if_neg e, hm y e]
    have hl := hv.length
    rw [pcol_len] at hl
    refine wpAny_mono (body1 j t _ vs n _ E' (by omega) (by omega) (by rw [← em]; exact F₂) N₂ (by rw [Int.toNat_natCast]; exact hv) (by rw [Int.toNat_natCast, pcol_len]) (by omega)) (fun f s₄ h₄ => ?_) fun _ _ e => e
    obtain ⟨rfl, vs', n', h', tk', rfl, F', N', hv'⟩ := h₄
    rw [Int.toNat_natCast] at hv'
    have e1 : (j : Int) + 1 = ((j + 1 : Nat) : Int) := by omega
    have e2 : ((k + 1 : Nat) : Int) - 1 = (k : Int) := by omega
    rw [e1, e2] at N'
    refine ih (j + 1) _ vs' n' _ (by omega) (fun y e => if_neg e) (fun e => ⟨t, ?_⟩) F' N' hv' fun vs'' n'' t'' h'' tk'' F'' N'' hv'' => ret vs'' n'' t'' h'' tk'' F'' N'' hv''
    have : (j : Int) = 6 := by omega
    rw [this]
theorem for_colL {x : Str} {px : Pos} {prev : List Int} {n : Nat} {left x0 : Int} {v0 : Value} {vsp : List Value} (hip : IntsAre vsp prev) (hx : env.kindOf x = some .local) (hp : (env.scope.kind == .class || (env.scope.kind == .module && env.locals != env.globals)) = false)
    (hh : A.handled = none) (F : Fr h₀ env.locals s.heap m) (N : News h₀ env.locals s.heap ((I, ritO x0 left 1) :: (D, listOf #[v0] n) :: rest)) (hl : left = 7) (h0 : x0 = 0) (hv : ∃ t, v0 = .int 0 t)
    (hID : D ≠ I) (hI : ∀ p ∈ rest, p.1 ≠ I) (hD : ∀ p ∈ rest, p.1 ≠ D)
    (body1 : ∀ (j : Int) (t : Tok) (s' : Shared) (vs : List Value) (n : Nat) (i9 : Int) (E' : Value → Shared → Prop), 0 ≤ j → j < 7 → Fr h₀ env.locals s'.heap (fun y => if y = x then some (.int j t) else m y) →
      News h₀ env.locals s'.heap ((I, ritO (j + 1) i9 1) :: (D, listOf vs.toArray n) :: rest) → IntsAre vs (pcol prev j.toNat) → (pcol prev j.toNat).length = j.toNat + 1 → vs.length ≤ 8 →
      wpAny (model prog w) A (execs body env) (ColEnd h₀ env.locals s' (fun y => if y = x then some (.int j t) else m y) (fun vs' n' => (I, ritO (j + 1) i9 1) :: (D, listOf vs'.toArray n') :: rest) (pcol prev (j.toNat + 1))) E' s')
    (ret : ∀ vs' n' t h' tk', Fr h₀ env.locals h' (fun y => if y = x then some (.int 6 t) else m y) → News h₀ env.locals h' ((D, listOf vs'.toArray n') :: rest) → IntsAre vs' (pcol prev 7) → Q .next { s with heap := h', toks := tk' }) :
    ForGo prog w A E env (.Name x px) (.ref I) body Q s := by
  subst hl h0
  obtain ⟨t0, rfl⟩ := hv
  exact for_col (K := 0) hx hp hh hID hI hD body1 7 0 s [.int 0 t0] n m rfl (fun _ _ => rfl) (fun e => absurd e (by decide)) F N (.cons 0 t0 .nil) ret
theorem col_push {vs : List Value} {prev : List Int} {k : Nat} {t : Tok} (h : IntsAre vs (pcol prev k)) : IntsAre (vs ++ [.int ((pcol prev k).getD k 0 + prev.getD k 0) t]) (pcol prev (k + 1)) :=
  ints_app h (.cons _ t .nil)
theorem br_cnt {prog : Program} {w : World} {K : Frag} {p : Program} {loose : List Str} {mean : ExcName → Option Value} {mg mb : Str → Option Value}
   {f : Addr} (hf : FunBAt K 2 f) (b_len : nsIn K mainGlobals (Str.ofString "len") = some none) {l : Addr} {n : Nat} {vs : List Value} {ns : List Int} {x : Int} {tx : Tok} {news : Led}
   (hl : (l, listOf vs.toArray n) ∈ news) (hi : IntsAre vs ns) (hu : upTo ns = true) (hlen : ns.length < 2 ^ 62) :
   Spec prog w K p loose mean mg mb f [.ref l, .int x tx] news 2 40 (fun r news' => news' = news ∧ ∃ t, r = .int (cntLe ns x) t) :=
  br2 hf b_len hl hi hlen (cntLe_range ns x) (cnt_iff hu)
theorem col_end {h₀ : Heap} {L : Addr} {s' : Shared} {m : Str → Option Value} {N9 : List Value → Nat → Led} {vs : List Value} {prev : List Int} {k n' : Nat} {t : Tok} {v : Int} {h' : Heap} {tk' : Nat} (F : Fr h₀ L h' m) (h : IntsAre vs (pcol prev k))
    (N : News h₀ L h' (N9 (vs ++ [.int v t]) n')) (e : v = (pcol prev k).getD k 0 + prev.getD k 0) :
    ColEnd h₀ L s' m N9 (pcol prev (k + 1)) .next { s' with heap := h', toks := tk' } := ⟨rfl, _, _, _, _, rfl, F, N, e ▸ col_push h⟩
theorem ones_at {c j : Int} (h : 0 ≤ j) (h' : j < 7) : c + 1 = c + (List.replicate (Int.toNat 8) [(1 : Int)]).flatten.getD j.toNat 0 := by
  have : ∀ i : Nat, i < 7 → (List.replicate (Int.toNat 8) [(1 : Int)]).flatten.getD i 0 = 1 := by decide
  rw [this j.toNat (by omega)]
theorem rep_len : (List.replicate (Int.toNat 8) [(1 : Int)]).flatten.length = 8 := rfl
theorem ones_are (t : Tok) : IntsAre (List.replicate (Int.toNat 8) [Value.int 1 t]).flatten [1, 1, 1, 1, 1, 1, 1, 1] :=
  .cons _ _ (.cons _ _ (.cons _ _ (.cons _ _ (.cons _ _ (.cons _ _ (.cons _ _ (.cons _ _ .nil)))))))
noncomputable def pcols : Nat → List Int
  | 0 => (List.replicate (Int.toNat 8) [(1 : Int)]).flatten
  | i + 1 => pcol (pcols i) 7
theorem pcols_len : ∀ i, (pcols i).length = 8
  | 0 => rfl
  | i + 1 => by rw [pcols, pcol_len]
noncomputable def cascRun : Nat → Int → Int → Option Int
  | 0, _, tot => some tot
  | i + 1, c, tot =>
    let n := cntLe (pcols (i + 1)) c - 1
    if (decide (0 ≤ n ∧ n + 1 ≤ 7) && upTo (pcols (i + 1))) = true then cascRun i (c - (pcols (i + 1)).getD n.toNat 0) (tot + (pcols (i + 2)).getD (n + 1).toNat 0) else none
theorem casc_step {i : Nat} {c tot out : Int} (h : cascRun (i + 1) c tot = some out) : (0 ≤ cntLe (pcols (i + 1)) c - 1 ∧ cntLe (pcols (i + 1)) c - 1 + 1 ≤ 7) ∧ upTo (pcols (i + 1)) = true ∧
    cascRun i (c - (pcols (i + 1)).getD (cntLe (pcols (i + 1)) c - 1).toNat 0) (tot + (pcols (i + 2)).getD (cntLe (pcols (i + 1)) c - 1 + 1).toNat 0) = some out := by
  rw [cascRun] at h
  split at h
  · rename_i q
    rw [Bool.and_eq_true, decide_eq_true_eq] at q
    exact ⟨q.1, q.2, h⟩
  · cases h
theorem rng_up {b : Int} (h : 0 ≤ b ∧ b ≤ 40) : Builtin.Range.small 0 b 1 = true ∧ Builtin.Range.rangeSize 0 b 1 = b := by
  have : ∀ k : Nat, k < 41 → Builtin.Range.small 0 (k : Int) 1 = true ∧ Builtin.Range.rangeSize 0 (k : Int) 1 = k := by decide +kernel
  have q := this b.toNat (by omega)
  rwa [Int.toNat_of_nonneg h.1] at q
theorem rng_down {b : Int} (h : 0 ≤ b ∧ b ≤ 40) : Builtin.Range.small b 0 (-1) = true ∧ Builtin.Range.rangeSize b 0 (-1) = b := by
  have : ∀ k : Nat, k < 41 → Builtin.Range.small (k : Int) 0 (-1) = true ∧ Builtin.Range.rangeSize (k : Int) 0 (-1) = k := by decide +kernel
  have q := this b.toNat (by omega)
  rwa [Int.toNat_of_nonneg h.1] at q
section
variable {prog : Program} {w : World} {A : Around} {E : Value → Shared → Prop} {s : Shared} {h₀ : Heap} {L : Addr} {m : Str → Option Value} {news : Led} {Q : Value → Shared → Prop}
theorem iter_up {r : Addr} {b : Int} {t u v : Tok} (hr : IsRange s.heap r 0 b 1 t u v) (hb : 0 ≤ b ∧ b ≤ 40) (F : Fr h₀ L s.heap m) (N : News h₀ L s.heap news)
    (h : ∀ I h', Fr h₀ L h' m → News h₀ L h' ((I, ritO 0 b 1) :: news) → (∀ p ∈ news, p.1 < I) → Q (.ref I) { s with heap := h' }) : wpAny (model prog w) A (pyIter (.ref r)) Q E s :=
  iter_rng hr (rng_up hb).1 (rng_up hb).2 F N h
theorem iter_down {r : Addr} {b : Int} {t u v : Tok} (hr : IsRange s.heap r b 0 (-1) t u v) (hb : 0 ≤ b ∧ b ≤ 40) (F : Fr h₀ L s.heap m) (N : News h₀ L s.heap news)
    (h : ∀ I h', Fr h₀ L h' m → News h₀ L h' ((I, ritO b b (-1)) :: news) → (∀ p ∈ news, p.1 < I) → Q (.ref I) { s with heap := h' }) : wpAny (model prog w) A (pyIter (.ref r)) Q E s :=
  iter_rng hr (rng_down hb).1 (rng_down hb).2 F N h
end
/-- a list of columns -/
noncomputable def Cols (g : Led) (vs : List Value) : Prop := ∀ i : Nat, i < vs.length → ∃ a ws n, vs[i]? = some (.ref a) ∧ (a, listOf ws.toArray n) ∈ g ∧ IntsAre ws (pcols i)
theorem Cols.push {g g' : Led} {vs ws : List Value} {a : Addr} {n : Nat} (h : Cols g vs) (hs : ∀ p ∈ g, p ∈ g') (hm : (a, listOf ws.toArray n) ∈ g') (hw : IntsAre ws (pcols vs.length)) : Cols g' (vs ++ [.ref a]) := by
  intro i hi
  rw [List.length_append, List.length_singleton] at hi
  by_cases e : i < vs.length
  · obtain ⟨b, us, k, h1, h2, h3⟩ := h i e
    exact ⟨b, us, k, by rw [List.getElem?_append_left e]; exact h1, hs _ h2, h3⟩
  · have : i = vs.length := by omega
    subst this
    exact ⟨a, ws, n, by rw [List.getElem?_append_right (Nat.le_refl _), Nat.sub_self]; rfl, hm, hw⟩
end
end
end Cas_part
section Ents_part
open PySem PySem.W PyProof.Rows PyProof.Rows.LCg
section
noncomputable def nmL : Nat → Str
  | 0 => Str.ofString "x"
  | 1 => Str.ofString "y"
  | _ => Str.ofString "z"
/-- the pairs of a dict of callers -/
inductive KVs : List Nat → List (Str × Value) → Prop
  | nil : KVs [] []
  | cons (v : Nat) (t : Tok) {l : List Nat} {r : List (Str × Value)} : KVs l r → KVs (v :: l) ((nmL v, .int 1 t) :: r)
noncomputable def mergeL : List Nat → Nat → Option (List Nat)
  | [], 0 => some [0]
  | [], 1 => some [1]
  | [], 2 => some [2]
  | [0], 1 => some [0, 1]
  | [0], 2 => some [0, 2]
  | [1], 2 => some [1, 2]
  | [0, 1], 2 => some [0, 1, 2]
  | _, _ => none
abbrev Ent := Int × Int × Int × Int × List Nat
/-- the letters' places: position of 64, 8, 1 -/
noncomputable def Perm3 (i0 i1 i2 : Int) : Prop := (i0 = 0 ∧ i1 = 1 ∧ i2 = 2) ∨ (i0 = 0 ∧ i1 = 2 ∧ i2 = 1) ∨ (i0 = 1 ∧ i1 = 0 ∧ i2 = 2) ∨ (i0 = 1 ∧ i1 = 2 ∧ i2 = 0) ∨ (i0 = 2 ∧ i1 = 0 ∧ i2 = 1) ∨ (i0 = 2 ∧ i1 = 1 ∧ i2 = 0)
section
variable {prog : Program} {w : World} {K : Frag} {p : Program} {loose : List Str} {mean : ExcName → Option Value} {mg mb : Str → Option Value}
noncomputable def DIL (prog : Program) (w : World) (g : Led) (d : Addr) (l : List Nat) : Prop := ∃ kvs, KVs l kvs ∧ DI prog w g d kvs
theorem DIL.mono {g g' : Led} {d : Addr} {l : List Nat} (h : DIL prog w g d l) (hs : ∀ p ∈ g, p ∈ g') : DIL prog w g' d l := let ⟨k, a, b⟩ := h; ⟨k, a, b.mono hs⟩
noncomputable def EntIs (prog : Program) (w : World) (g : Led) (x : Addr) (e : Ent) : Prop :=
  ∃ d k0 k1 k2 k3 n, (x, tupOf [.int e.1 k0, .int e.2.1 k1, .int e.2.2.1 k2, .int e.2.2.2.1 k3, .ref d] n) ∈ g ∧ DIL prog w g d e.2.2.2.2
theorem EntIs.mono {g g' : Led} {x : Addr} {e : Ent} (h : EntIs prog w g x e) (hs : ∀ p ∈ g, p ∈ g') : EntIs prog w g' x e :=
  let ⟨d, k0, k1, k2, k3, n, a, b⟩ := h; ⟨d, k0, k1, k2, k3, n, hs _ a, b.mono hs⟩
inductive EntsAre (prog : Program) (w : World) (g : Led) : List Addr → List Ent → Prop
  | nil : EntsAre prog w g [] []
  | cons {x : Addr} {e : Ent} {xs : List Addr} {es : List Ent} : EntIs prog w g x e → EntsAre prog w g xs es → EntsAre prog w g (x :: xs) (e :: es)
theorem EntsAre.mono {g g' : Led} (hs : ∀ p ∈ g, p ∈ g') : ∀ {xs : List Addr} {es : List Ent}, EntsAre prog w g xs es → EntsAre prog w g' xs es
  | _, _, .nil => .nil
  | _, _, .cons h r => .cons (h.mono hs) (r.mono hs)
theorem EntsAre.length {g : Led} : ∀ {xs : List Addr} {es : List Ent}, EntsAre prog w g xs es → xs.length = es.length
  | _, _, .nil => rfl
  | _, _, .cons _ r => congrArg Nat.succ r.length
theorem EntsAre.app {g : Led} {xs' : List Addr} {es' : List Ent} : ∀ {xs : List Addr} {es : List Ent}, EntsAre prog w g xs es → EntsAre prog w g xs' es' → EntsAre prog w g (xs ++ xs') (es ++ es')
  | _, _, .nil, h' => h'
  | _, _, .cons h r, h' => .cons h (r.app h')
theorem EntsAre.rev {g : Led} : ∀ {xs : List Addr} {es : List Ent}, EntsAre prog w g xs es → EntsAre prog w g xs.reverse es.reverse
  | _, _, .nil => .nil
  | _, _, .cons h r => by rw [List.reverse_cons, List.reverse_cons]; exact r.rev.app (.cons h .nil)
theorem EntsAre.get {g : Led} : ∀ {xs : List Addr} {es : List Ent}, EntsAre prog w g xs es → ∀ {i : Nat}, i < es.length → ∃ x e, xs[i]? = some x ∧ es[i]? = some e ∧ EntIs prog w g x e
  | _, _, .nil, _, h => absurd h (Nat.not_lt_zero _)
  | _, _, .cons h r, 0, _ => ⟨_, _, rfl, rfl, h⟩
  | _, _, .cons _ r, i + 1, h => r.get (i := i) (Nat.lt_of_succ_lt_succ h)

theorem Spec.mono {f : Addr} {vs : List Value} {news : Led} {D U : Nat} {Post Post' : Value → Led → Prop} (S : Spec prog w K p loose mean mg mb f vs news D U Post) (k : ∀ r n, Post r n → Post' r n) : Spec prog w K p loose mean mg mb f vs news D U Post' := by
  unfold Spec
  intro dp un gd cn cs a ccd cl outer A₀ base h₀ L m s Q E B F X N T hk hd hu hret
  exact S.use B F X N T hk hd hu fun r n h t F' N' P => hret r n h t F' N' (k r n P)

/-- add_callers, whatever letters -/
theorem ac_gen {f : Addr} (hf : FunAt K 13 f .none .none)
   (b_isinstance : nsIn K mainGlobals (Str.ofString "isinstance") = some none) (b_tuple : nsIn K mainGlobals (Str.ofString "tuple") = some none) (b_zip : nsIn K mainGlobals (Str.ofString "zip") = some none) {d1 d2 : Addr} {l l' : List Nat} {v : Nat} {news : Led}
   (hm : mergeL l v = some l') (h1 : DIL prog w news d1 l) (h2 : DIL prog w news d2 [v]) :
   Spec prog w K p loose mean mg mb f [.ref d1, .ref d2] news 3 60 (fun r news' => ∃ new, news' = new ++ news ∧ Abv news new ∧ ∃ d, r = .ref d ∧ DIL prog w new d l') := by
  obtain ⟨k1, v1, h1⟩ := h1
  obtain ⟨k2, v2, h2⟩ := h2
  have t : ∀ {kvs : List (Str × Value)}, KVs l' kvs → ∀ (r : Value) (n : Led), (∃ new, n = new ++ news ∧ (∀ q ∈ news, ∀ p ∈ new, q.1 < p.1) ∧ ∃ d, r = .ref d ∧ DI prog w new d kvs) → ∃ new, n = new ++ news ∧ Abv news new ∧ ∃ d, r = .ref d ∧ DIL prog w new d l' :=
    fun hk r n ⟨new, a, b, d, e, c⟩ => ⟨new, a, b, d, e, _, hk, c⟩
  unfold mergeL at hm
  split at hm <;> first | (cases hm; done) | skip
  all_goals
    cases hm
    rcases v2 with _ | ⟨_, t2, r2⟩
    cases r2
  · cases v1; exact (ac_x hf b_isinstance b_tuple b_zip h1 h2).mono (t (.cons 0 _ .nil))
  · cases v1; exact (ac_y hf b_isinstance b_tuple b_zip h1 h2).mono (t (.cons 1 _ .nil))
  · cases v1; exact (ac_z hf b_isinstance b_tuple b_zip h1 h2).mono (t (.cons 2 _ .nil))
  · cases v1 with | cons _ t1 r1 => cases r1; exact (ac_xy hf b_isinstance b_tuple b_zip h1 h2).mono (t (.cons 0 _ (.cons 1 _ .nil)))
  · cases v1 with | cons _ t1 r1 => cases r1; exact (ac_xz hf b_isinstance b_tuple b_zip h1 h2).mono (t (.cons 0 _ (.cons 2 _ .nil)))
  · cases v1 with | cons _ t1 r1 => cases r1; exact (ac_yz hf b_isinstance b_tuple b_zip h1 h2).mono (t (.cons 1 _ (.cons 2 _ .nil)))
  · cases v1 with | cons _ t1 r1 => cases r1 with | cons _ t3 r3 => cases r3; exact (ac_xyz hf b_isinstance b_tuple b_zip h1 h2).mono (t (.cons 0 _ (.cons 1 _ (.cons 2 _ .nil))))

noncomputable def letterE : Nat → Ent
  | 0 => (1, 0, 0, 1, [0])
  | 1 => (0, 1, 0, 1, [1])
  | _ => (0, 0, 1, 1, [2])
noncomputable def mulE (e : Ent) (v : Nat) : Ent := ((letterE v).1 + e.1, (letterE v).2.1 + e.2.1, (letterE v).2.2.1 + e.2.2.1, (letterE v).2.2.2.1 + e.2.2.2.1, (letterE v).2.2.2.2)
/-- add_func_stats of an entry without callers and a letter -/
theorem st_gen {f : Addr} (hf : FunAt K 12 f .none .none)
   (b_isinstance : nsIn K mainGlobals (Str.ofString "isinstance") = some none) (b_tuple : nsIn K mainGlobals (Str.ofString "tuple") = some none) (b_zip : nsIn K mainGlobals (Str.ofString "zip") = some none) {fa : Addr} (hfa : FunAt K 13 fa .none .none) {x u : Addr} {e : Ent} {v : Nat} {news : Led}
   (hv : v < 3) (hx : EntIs prog w news x e) (hl : e.2.2.2.2 = []) (hu : EntIs prog w news u (letterE v)) :
   Spec prog w K p loose mean mg mb f [.ref x, .ref u] news 5 90 (fun r news' => ∃ new, news' = new ++ news ∧ Abv news new ∧ ∃ a, r = .ref a ∧ EntIs prog w new a (mulE e v)) := by
  obtain ⟨d1, c0, c1, c2, c3, n1, m1, kv1, v1, h1⟩ := hx
  obtain ⟨d2, q0, q1, q2, q3, n2, m2, kv2, v2, h2⟩ := hu
  rw [hl] at v1
  cases v1
  have hvv : v = 0 ∨ v = 1 ∨ v = 2 := three_nat hv
  rcases hvv with rfl | rfl | rfl
  · cases v2 with | cons _ t2 r2 => cases r2; exact (st_x hf b_isinstance b_tuple b_zip hfa m1 m2 h1 h2).mono (by rintro r n ⟨new, a, b, x, d, k0, k1, k2, k3, n', e1, e2, e3⟩; exact ⟨new, a, b, x, e1, d, k0, k1, k2, k3, n', e2, _, .cons 0 _ .nil, e3⟩)
  · cases v2 with | cons _ t2 r2 => cases r2; exact (st_y hf b_isinstance b_tuple b_zip hfa m1 m2 h1 h2).mono (by rintro r n ⟨new, a, b, x, d, k0, k1, k2, k3, n', e1, e2, e3⟩; exact ⟨new, a, b, x, e1, d, k0, k1, k2, k3, n', e2, _, .cons 1 _ .nil, e3⟩)
  · cases v2 with | cons _ t2 r2 => cases r2; exact (st_z hf b_isinstance b_tuple b_zip hfa m1 m2 h1 h2).mono (by rintro r n ⟨new, a, b, x, d, k0, k1, k2, k3, n', e1, e2, e3⟩; exact ⟨new, a, b, x, e1, d, k0, k1, k2, k3, n', e2, _, .cons 2 _ .nil, e3⟩)

noncomputable def entP (u0 u1 u2 wt : Int) : Ent := ((wt.fdiv u0).fmod 8, (wt.fdiv u1).fmod 8, (wt.fdiv u2).fmod 8, (wt.fdiv u0).fmod 8 + ((wt.fdiv u1).fmod 8 + ((wt.fdiv u2).fmod 8 + 0)), [])
theorem en_gen {f : Addr} (hf : FunAt K 17 f .none .none) (b_sum : nsIn K mainGlobals (Str.ofString "sum") = some none) {u : Addr} {wt u0 u1 u2 : Int} {tw q0 q1 q2 : Tok} {nu : Nat} {news : Led} (hu : (u, tupOf [.int u0 q0, .int u1 q1, .int u2 q2] nu) ∈ news) (b : 0 ≤ wt ∧ wt ≤ 1000) (c0 : 1 ≤ u0 ∧ u0 ≤ 100) (c1 : 1 ≤ u1 ∧ u1 ≤ 100) (c2 : 1 ≤ u2 ∧ u2 ≤ 100) :
   Spec prog w K p loose mean mg mb f [.int wt tw, .ref u] news 3 60 (fun r news' => ∃ new, news' = new ++ news ∧ Abv news new ∧ ∃ a, r = .ref a ∧ EntIs prog w new a (entP u0 u1 u2 wt)) :=
  (en_spec hf b_sum hu b c0 c1 c2 rfl rfl rfl rfl).mono (by rintro r n ⟨new, a, b, x, d, k0, k1, k2, k3, n', e1, e2, e3⟩; exact ⟨new, a, b, x, e1, d, k0, k1, k2, k3, n', e2, _, .nil, e3⟩)
noncomputable def wtP (u0 u1 u2 : Int) (e : Ent) : Int := e.1 * u0 + e.2.1 * u1 + e.2.2.1 * u2
theorem wt_gen {f : Addr} (hf : FunAt K 16 f .none .none) {x u : Addr} {e : Ent} {u0 u1 u2 : Int} {q0 q1 q2 : Tok} {nu : Nat} {news : Led} (hx : EntIs prog w news x e) (hu : (u, tupOf [.int u0 q0, .int u1 q1, .int u2 q2] nu) ∈ news)
   (b0 : 0 ≤ e.1 ∧ e.1 ≤ 10) (b1 : 0 ≤ e.2.1 ∧ e.2.1 ≤ 10) (b2 : 0 ≤ e.2.2.1 ∧ e.2.2.1 ≤ 10) (c0 : 0 ≤ u0 ∧ u0 ≤ 100) (c1 : 0 ≤ u1 ∧ u1 ≤ 100) (c2 : 0 ≤ u2 ∧ u2 ≤ 100) :
   Spec prog w K p loose mean mg mb f [.ref x, .ref u] news 2 20 (fun r news' => news' = news ∧ ∃ t, r = .int (wtP u0 u1 u2 e) t) := by
  obtain ⟨d, k0, k1, k2, k3, n, m1, _⟩ := hx
  exact weight_spec hf m1 hu b0 b1 b2 c0 c1 c2

/-- the rule that compares two products -/
inductive RuleIs (g : Led) (C x : Addr) (i0 i1 i2 : Int) : Prop
  | mk (dx l q0 q1 q2 : Addr) (hh : Int) (tl ti0 ti1 ti2 td0 td1 td2 : Tok) (nd nl n0 n1 n2 : Nat) (h1 : (x, instObj C dx) ∈ g) (h2 : (dx, dictOf [⟨hh, .str (Str.ofString "comp_select_list") tl, .ref l⟩] nd) ∈ g) (h3 : (l, listOf #[.ref q0, .ref q1, .ref q2] nl) ∈ g)
    (h4 : (q0, tupOf [.int i0 ti0, .int (-1) td0] n0) ∈ g) (h5 : (q1, tupOf [.int i1 ti1, .int (-1) td1] n1) ∈ g) (h6 : (q2, tupOf [.int i2 ti2, .int (-1) td2] n2) ∈ g) : RuleIs g C x i0 i1 i2
theorem RuleIs.mono {g g' : Led} {C x : Addr} {i0 i1 i2 : Int} (h : RuleIs g C x i0 i1 i2) (hs : ∀ p ∈ g, p ∈ g') : RuleIs g' C x i0 i1 i2 := by
  obtain ⟨a1, a2, a3, a4, a5, a6, a7, a8, a9, a10, a11, a12, a13, a14, a15, a16, a17, a18, b1, b2, b3, b4, b5, b6⟩ := h
  exact ⟨a1, a2, a3, a4, a5, a6, a7, a8, a9, a10, a11, a12, a13, a14, a15, a16, a17, a18, hs _ b1, hs _ b2, hs _ b3, hs _ b4, hs _ b5, hs _ b6⟩
noncomputable def like3 (e e' : Ent) : Prop := e.1 = e'.1 ∧ e.2.1 = e'.2.1 ∧ e.2.2.1 = e'.2.2.1
theorem cmp_gen {C fi fc : Addr} (hC : ClsAt K C fi fc) {x a b : Addr} {i0 i1 i2 : Int} {e e' : Ent} {news : Led} (hx : RuleIs news C x i0 i1 i2) (hp : Perm3 i0 i1 i2) (ha : EntIs prog w news a e) (hb : EntIs prog w news b e') :
   Spec prog w K p loose mean mg mb fc [.ref x, .ref a, .ref b] news 2 40 (fun r news' => news' = news ∧ ∃ c t, r = .int c t ∧ (c = 0 ↔ like3 e e')) := by
  obtain ⟨a1, a2, a3, a4, a5, a6, a7, a8, a9, a10, a11, a12, a13, a14, a15, a16, a17, a18, b1, b2, b3, b4, b5, b6⟩ := hx
  obtain ⟨d, k0, k1, k2, k3, n, m1, _⟩ := ha
  obtain ⟨d', k0', k1', k2', k3', n', m2, _⟩ := hb
  unfold like3
  rcases hp with ⟨rfl, rfl, rfl⟩ | ⟨rfl, rfl, rfl⟩ | ⟨rfl, rfl, rfl⟩ | ⟨rfl, rfl, rfl⟩ | ⟨rfl, rfl, rfl⟩ | ⟨rfl, rfl, rfl⟩
  all_goals refine (cmp_spec hC b1 b2 b3 b4 b5 b6 m1 m2 (by decide) (by decide) (by decide) rfl rfl rfl rfl rfl rfl).mono ?_
  all_goals
    rintro r n ⟨h1, c, t, h2, h3⟩
    refine ⟨h1, c, t, h2, h3.trans ?_⟩
  · exact ⟨fun ⟨x, y, z⟩ => ⟨x, y, z⟩, fun ⟨x, y, z⟩ => ⟨x, y, z⟩⟩
  · exact ⟨fun ⟨x, y, z⟩ => ⟨x, z, y⟩, fun ⟨x, y, z⟩ => ⟨x, z, y⟩⟩
  · exact ⟨fun ⟨x, y, z⟩ => ⟨y, x, z⟩, fun ⟨x, y, z⟩ => ⟨y, x, z⟩⟩
  · exact ⟨fun ⟨x, y, z⟩ => ⟨z, x, y⟩, fun ⟨x, y, z⟩ => ⟨y, z, x⟩⟩
  · exact ⟨fun ⟨x, y, z⟩ => ⟨y, z, x⟩, fun ⟨x, y, z⟩ => ⟨z, x, y⟩⟩
  · exact ⟨fun ⟨x, y, z⟩ => ⟨z, y, x⟩, fun ⟨x, y, z⟩ => ⟨z, y, x⟩⟩

noncomputable def popL {α : Type} : List α → List α
  | [_, b] => [b]
  | [_, b, c] => [c, b]
  | _ => []
noncomputable def siftK : List Key → List Key
  | [a, b] => if ltT a b then [a, b] else [b, a]
  | [a, b, c] => if ltT b c then (if ltT a b then [a, b, c] else [b, a, c]) else (if ltT a c then [a, b, c] else [c, b, a])
  | l => l
theorem sift_map {k : Addr → Key} {l : List Addr} (h : l.length ≤ 3) : (sift k l).map k = siftK (l.map k) := by
  rcases l with _ | ⟨a, _ | ⟨b, _ | ⟨c, _ | ⟨d, l⟩⟩⟩⟩
  · rfl
  · rfl
  · show (if ltT (k a) (k b) then [a, b] else [b, a]).map k = if ltT (k a) (k b) then [k a, k b] else [k b, k a]
    split <;> rfl
  · show (if ltT (k b) (k c) then (if ltT (k a) (k b) then [a, b, c] else [b, a, c]) else (if ltT (k a) (k c) then [a, b, c] else [c, b, a])).map k = if ltT (k b) (k c) then (if ltT (k a) (k b) then [k a, k b, k c] else [k b, k a, k c]) else (if ltT (k a) (k c) then [k a, k b, k c] else [k c, k b, k a])
    split <;> split <;> rfl
  · simp at h
theorem sift_mem {k : Addr → Key} {l : List Addr} {x : Addr} (h : x ∈ sift k l) : x ∈ l := by
  unfold sift at h
  split at h
  · split at h <;> simp_all [or_comm]
  · split at h <;> split at h <;> simp_all [or_comm, or_left_comm]
  · exact h
theorem sift_len {k : Addr → Key} {l : List Addr} : (sift k l).length = l.length := by
  unfold sift
  split
  · split <;> rfl
  · split <;> split <;> rfl
  · rfl
theorem pop_mem {α : Type} {l : List α} {x : α} (h : x ∈ popL l) : x ∈ l := by
  unfold popL at h
  split at h <;> simp_all
  rcases h with h | h <;> simp [h]
theorem pop_map {α β : Type} {k : α → β} {l : List α} : (popL l).map k = popL (l.map k) := by
  rcases l with _ | ⟨a, _ | ⟨b, _ | ⟨c, _ | ⟨d, l⟩⟩⟩⟩ <;> rfl
theorem pop_len {α : Type} {l : List α} : (popL l).length ≤ l.length := by
  rcases l with _ | ⟨a, _ | ⟨b, _ | ⟨c, _ | ⟨d, l⟩⟩⟩⟩ <;> simp [popL]
theorem hr_gen {f : Addr} (hf : FunAt K 6 f .none .none) (b_len : nsIn K mainGlobals (Str.ofString "len") = some none) {fd : Addr} (hfd : FunAt K 8 fd .none .none) {fu : Addr} (hfu : FunAt K 9 fu .none .none) {hp a1 a4 : Addr} {as : List Addr} {k : Addr → Key} {n : Nat} {rest : Led}
   (off : ∀ p ∈ rest, p.1 ≠ hp) (hl : as.length ≤ 2) (ha : ∀ a ∈ as, HI rest a (k a)) (ha4 : HI rest a4 (k a4)) :
   Spec prog w K p loose mean mg mb f [.ref hp, .ref a4] ((hp, listOf (refs (a1 :: as)) n) :: rest) 6 60 (fun r news' => r = .ref a1 ∧ news' = (hp, listOf (refs (sift k (a4 :: as))) n) :: rest) := by
  rcases as with _ | ⟨b, _ | ⟨c, _ | ⟨d, l⟩⟩⟩
  · exact hr1 hf b_len hfd hfu off ha4
  · exact hr2 hf b_len hfd hfu off ha4 (ha b (by simp))
  · exact hr3 hf b_len hfd hfu off ha4 (ha b (by simp)) (ha c (by simp))
  · simp at hl
theorem hq_gen {f : Addr} (hf : FunAt K 5 f .none .none) (b_len : nsIn K mainGlobals (Str.ofString "len") = some none) {fd : Addr} (hfd : FunAt K 8 fd .none .none) {fu : Addr} (hfu : FunAt K 9 fu .none .none) {hp a1 : Addr} {as : List Addr} {k : Addr → Key} {n : Nat} {rest : Led}
   (off : ∀ p ∈ rest, p.1 ≠ hp) (hl : as.length ≤ 2) (ha : ∀ a ∈ a1 :: as, HI rest a (k a)) :
   Spec prog w K p loose mean mg mb f [.ref hp] ((hp, listOf (refs (a1 :: as)) n) :: rest) 6 60 (fun r news' => r = .ref a1 ∧ ∃ n', news' = (hp, listOf (refs (sift k (popL (a1 :: as)))) n') :: rest) := by
  rcases as with _ | ⟨b, _ | ⟨c, _ | ⟨d, l⟩⟩⟩
  · exact hq1 hf b_len hfd hfu off (ha a1 (by simp))
  · exact hq2 hf b_len hfd hfu off (ha a1 (by simp)) (ha b (by simp))
  · exact hq3 hf b_len hfd hfu off (ha a1 (by simp)) (ha b (by simp)) (ha c (by simp))
  · simp at hl
end
end
end Ents_part
section Zip_part
open PySem PySem.W PyProof.Rows PyProof.Rows.LCg
section
noncomputable def IsSt (o : Obj) (x : Str) (t : Tok) (i : Nat) : Prop := o.cls = .type "str_ascii_iterator" ∧ o.data = .fields #[.str x t, .int i 0]
section
variable {prog : Program} {w : World} {A : Around} {E : Value → Shared → Prop} {s : Shared} {h₀ : Heap} {L : Addr} {m : Str → Option Value} {news news' : Led}
theorem nextOf_tup {it t : Addr} {i : Nat} {items : Array Value} {x : Value} {Q : Value → Shared → Prop} (hit : s.heap.IsTupleIter it t i) (ht : s.heap.IsTuple t items) (hx : items[i]? = some x)
    (hQ : ∀ h', h'.IsTupleIter it t (i + 1) → Heap.SameBut it s.heap h' → Q x { s with heap := h' }) : wpAny (model prog w) A (Builtin.SmallTypes.nextOf (.ref it)) Q E s := by
  obtain ⟨o, ho, hc, hd⟩ := id hit
  obtain ⟨ol, hol, _, nl, hdl⟩ := ht
  unfold Builtin.SmallTypes.nextOf
  refine wpAny_bind (wpAny_callSpecial?_slot (name := Str.ofString "__next__") hit.typeIs PySem.F.slot_tuple_iterator_next (wpAny_call_entry PySem.F.slot_tuple_iterator_next hit.typeIs PySem.F.entry_tuple_iterator_next ?_ (PySem.F.args_tuple_iterator_next_1 _)))
  show wpAny _ _ (field (.ref it) 0 >>= _) _ _ s
  refine wpAny_bind (wpAny_field ho hd (x := .ref t) rfl ?_)
  show wpAny _ _ (if (Value.ref t == Value.none) = true then _ else _) _ _ s
  rw [if_neg (show ¬ ((Value.ref t == Value.none) = true) from Bool.false_ne_true)]
  show wpAny _ _ (field (.ref it) 1 >>= _) _ _ s
  refine wpAny_bind (wpAny_field ho hd (x := .int i 0) rfl ?_)
  show wpAny _ _ (seqItems? (.ref t) >>= _) _ _ s
  refine wpAny_bind (wpAny_seqItems hol hdl ?_)
  simp only [Int.toNat_natCast, hx]
  refine wpAny_bind (wpAny_setField ho hd (by simp) (wpAny_pure ⟨x, rfl, wpAny_pure (hQ _ ?_ (Heap.SameBut.update ..))⟩))
  exact ⟨_, Heap.get?_update_self _ ho (Obj.isFreed_of_fields (Obj.data_mapFields hd _)), (Obj.cls_mapFields ..).trans hc, by rw [Obj.data_mapFields hd]; simp [rawInt]⟩
/-- the parts of a zip of a text and a tuple -/
noncomputable def zipL (Z TI TO S T : Addr) (f0 a b : Value) (oS oT : Obj) (rest : Led) : Led := (Z, zipO f0 TI TO) :: (TI, tupOf [.ref S, .ref T] 0) :: (TO, tupOf [a, b] 0) :: (S, oS) :: (T, oT) :: rest
noncomputable def ZOff (Z TI TO S T : Addr) (g : Led) : Prop := ∀ p ∈ g, p.1 ≠ Z ∧ p.1 ≠ TI ∧ p.1 ≠ TO ∧ p.1 ≠ S ∧ p.1 ≠ T
noncomputable def ZOrd (Z TI TO S T : Nat) : Prop := S < T ∧ T < TI ∧ TI < TO ∧ TO < Z
theorem ZOff.cons {Z TI TO S T : Addr} {g : Led} {q : Addr × Obj} (h : q.1 ≠ Z ∧ q.1 ≠ TI ∧ q.1 ≠ TO ∧ q.1 ≠ S ∧ q.1 ≠ T) (k : ZOff Z TI TO S T g) : ZOff Z TI TO S T (q :: g) := fun p hp => by
  rcases List.mem_cons.mp hp with rfl | hp
  · exact h
  · exact k p hp
theorem zhi {Z TI TO S T a : Nat} (d : ZOrd Z TI TO S T) (h : Z < a) : a ≠ Z ∧ a ≠ TI ∧ a ≠ TO ∧ a ≠ S ∧ a ≠ T := by
  obtain ⟨d1, d2, d3, d4⟩ := d
  have e4 := Nat.lt_trans d4 h
  have e3 := Nat.lt_trans d3 e4
  have e2 := Nat.lt_trans d2 e3
  exact ⟨Nat.ne_of_gt h, Nat.ne_of_gt e3, Nat.ne_of_gt e4, Nat.ne_of_gt (Nat.lt_trans d1 e2), Nat.ne_of_gt e2⟩
theorem zlo {Z TI TO S T a : Nat} (d : ZOrd Z TI TO S T) (h : a < S) : a ≠ Z ∧ a ≠ TI ∧ a ≠ TO ∧ a ≠ S ∧ a ≠ T := by
  obtain ⟨d1, d2, d3, d4⟩ := d
  have e1 := Nat.lt_trans h d1
  have e2 := Nat.lt_trans e1 d2
  have e3 := Nat.lt_trans e2 d3
  exact ⟨Nat.ne_of_lt (Nat.lt_trans e3 d4), Nat.ne_of_lt e2, Nat.ne_of_lt e3, Nat.ne_of_lt h, Nat.ne_of_lt e1⟩
theorem zlow {Z TI TO S T a b : Nat} (d : ZOrd Z TI TO S T) (h : a < S) (k : Z < b) : a ≠ b :=
  Nat.ne_of_lt (Nat.lt_trans h (Nat.lt_trans d.1 (Nat.lt_trans d.2.1 (Nat.lt_trans d.2.2.1 (Nat.lt_trans d.2.2.2 k)))))
theorem zipL_off {Z TI TO S T X : Addr} {f0 a b : Value} {oS oT : Obj} {rest : Led} (h : X ≠ Z ∧ X ≠ TI ∧ X ≠ TO ∧ X ≠ S ∧ X ≠ T) (k : ∀ p ∈ rest, p.1 ≠ X) : ∀ p ∈ zipL Z TI TO S T f0 a b oS oT rest, p.1 ≠ X := by
  obtain ⟨h1, h2, h3, h4, h5⟩ := h
  intro p hp
  rcases List.mem_cons.mp hp with rfl | hp
  · exact Ne.symm h1
  rcases List.mem_cons.mp hp with rfl | hp
  · exact Ne.symm h2
  rcases List.mem_cons.mp hp with rfl | hp
  · exact Ne.symm h3
  rcases List.mem_cons.mp hp with rfl | hp
  · exact Ne.symm h4
  rcases List.mem_cons.mp hp with rfl | hp
  · exact Ne.symm h5
  exact k p hp
theorem updSeq {T : Addr} {a b x : Value} {k : Nat} {Q : Unit → Shared → Prop} {o' : Obj} (F : Fr h₀ L s.heap m) (N : News h₀ L s.heap news) (U : Upd T (tupOf [a, b] 0) o' news news') (e : Obj.mapSeq (fun xs => xs.setIfInBounds k x) (tupOf [a, b] 0) = o')
    (h : ∀ h', Fr h₀ L h' m → News h₀ L h' news' → Q () { s with heap := h' }) : wpAny (model prog w) A (updateSeq T (·.setIfInBounds k x)) Q E s := by
  have hT := (N _ (upd_has U)).1
  refine wpAny_updateSeq hT rfl ?_
  have z := led_change (h' := s.heap.update T (Obj.mapSeq fun xs => xs.setIfInBounds k x)) F N U (Heap.SameBut.update ..) (by rw [Heap.get?_update_self _ hT rfl, e])
  exact h _ z.1 z.2
theorem setFld {Z : Addr} {vs vs' : Array Value} {k : Nat} {x : Value} {Q : Unit → Shared → Prop} {c : Value} (F : Fr h₀ L s.heap m) (N : News h₀ L s.heap news) (U : Upd Z { cls := c, data := .fields vs } { cls := c, data := .fields vs' } news news') (hk : k < vs.size) (e : vs.setIfInBounds k x = vs')
    (h : ∀ h', Fr h₀ L h' m → News h₀ L h' news' → Q () { s with heap := h' }) : wpAny (model prog w) A (setField (.ref Z) k x) Q E s := by
  have hZ := (N _ (upd_has U)).1
  refine wpAny_setField_rec hZ hk fun h' hz' hs' => ?_
  rw [e] at hz'
  have z := led_change F N U hs' hz'
  exact h _ z.1 z.2
theorem next_zip {Z TI TO S T ul : Addr} {a b v : Value} {oS oT : Obj} {x : Str} {t : Tok} {i c n : Nat} {its : List Value} {rest : Led} {Q : Option Value → Shared → Prop}
    (F : Fr h₀ L s.heap m) (N : News h₀ L s.heap (zipL Z TI TO S T .none a b oS oT rest)) (hS : IsSt oS x t i) (hT : IsTit oT ul i) (hu : (ul, tupOf its n) ∈ rest) (hx : x.cps[i]? = some c) (hy : its[i]? = some v)
    (d : ZOrd Z TI TO S T) (off : ZOff Z TI TO S T rest)
    (h : ∀ P h' tk t' a' b' oS' oT', Fr h₀ L h' m → News h₀ L h' ((P, tupOf [.str ⟨#[c]⟩ t', v] 0) :: zipL Z TI TO S T (rawInt P) a' b' oS' oT' rest) → IsSt oS' x t (i + 1) → IsTit oT' ul (i + 1) → (∀ p ∈ zipL Z TI TO S T .none a b oS oT rest, p.1 < P) → Q (some (.ref P)) { s with heap := h', toks := tk }) :
    wpAny (model prog w) A (pyNext (.ref Z)) Q E s := by
  obtain ⟨d1, d2, d3, d4⟩ := d
  have off' := fun (p : Addr × Obj) (hp : p ∈ rest) => off p hp
  unfold zipL at N
  have hT0 : s.TypeIs (.ref Z) "zip" := ⟨_, (N _ List.mem_cons_self).1, rfl⟩
  unfold pyNext
  refine wpAny_bind (wpAny_attempt (wpAny_callSpecial?_slot (name := Str.ofString "__next__") hT0 PySem.F.slot_zip_next (wpAny_call_entry PySem.F.slot_zip_next hT0 PySem.F.entry_zip_next ?_ (PySem.F.args_zip_next_1 _))))
  have zq := (N _ List.mem_cons_self).1
  have tiq := (N _ (List.mem_cons_of_mem _ List.mem_cons_self)).1
  show wpAny _ _ (field (.ref Z) 2 >>= _) _ _ _
  refine wpAny_bind (wpAny_field zq rfl (x := .bool false) rfl ?_)
  show wpAny _ _ (field (.ref Z) 3 >>= _) _ _ _
  refine wpAny_bind (wpAny_field zq rfl (x := .ref TI) rfl ?_)
  refine wpAny_bind (wpAny_seqItems tiq rfl ?_)
  show wpAny _ _ (Builtin.SmallTypes.ownedTupleIsFree (.ref Z) >>= _) _ _ _
  refine wpAny_bind ?_
  unfold Builtin.SmallTypes.ownedTupleIsFree
  refine wpAny_bind (wpAny_field zq rfl (x := .none) rfl (wpAny_pure ?_))
  simp only [if_true]
  refine wpAny_bind (wpAny_rule ?_)
  refine wpAny_bind (wpAny_field zq rfl (x := .ref TO) rfl ?_)
  have oZ : ∀ p ∈ (TI, tupOf [.ref S, .ref T] 0) :: (TO, tupOf [a, b] 0) :: (S, oS) :: (T, oT) :: rest, p.1 ≠ Z := off_cons (by k_ne) (off_cons (by k_ne) (off_cons (by k_ne) (off_cons (by k_ne) fun p hp => (off p hp).1)))
  refine wpAny_bind (setFld (vs' := #[.ellipsis, .bool false, .bool false, .ref TI, .ref TO]) F N (Upd.head oZ) (by simp) rfl fun h₁ F₁ N₁ => ?_)
  refine wpAny_bind ?_
  simp only [List.zipIdx_cons, List.zipIdx_nil, List.forIn_cons, List.forIn_nil]
  refine wpAny_bind (wpAny_bind (wpAny_onRaise ?_))
  show wpAny _ _ (Builtin.SmallTypes.nextOf (.ref S) >>= _) _ _ _
  have sq := (N₁ _ (List.mem_cons_of_mem _ (List.mem_cons_of_mem _ (List.mem_cons_of_mem _ List.mem_cons_self)))).1
  refine wpAny_bind (wpAny_nextOf_ascii_item ⟨_, sq, hS⟩ hx fun h₂ hi₂ hs₂ => wpAny_pure ?_)
  obtain ⟨oS', eS, hS'⟩ := hi₂
  obtain ⟨F₂, N₂⟩ := led_change (o' := oS') (news' := (Z, zipO .ellipsis TI TO) :: (TI, tupOf [.ref S, .ref T] 0) :: (TO, tupOf [a, b] 0) :: (S, oS') :: (T, oT) :: rest) F₁ N₁
    (.tail (by k_ne) (.tail (by k_ne) (.tail (by k_ne) (.head (off_cons (by k_ne) fun p hp => (off p hp).2.2.2.1))))) hs₂ eS
  have toq := (N₂ _ (List.mem_cons_of_mem _ (List.mem_cons_of_mem _ List.mem_cons_self))).1
  refine wpAny_bind (wpAny_seqItems toq rfl ?_)
  refine wpAny_bind (updSeq (news' := (Z, zipO .ellipsis TI TO) :: (TI, tupOf [.ref S, .ref T] 0) :: (TO, tupOf [.str ⟨#[c]⟩ s.toks, b] 0) :: (S, oS') :: (T, oT) :: rest) F₂ N₂
    (.tail (by k_ne) (.tail (by k_ne) (.head (off_cons (by k_ne) (off_cons (by k_ne) fun p hp => (off p hp).2.2.1))))) rfl fun h₃ F₃ N₃ => ?_)
  refine wpAny_bind (wpAny_letGo (wpAny_pure ?_))
  refine wpAny_bind (wpAny_bind (wpAny_onRaise ?_))
  show wpAny _ _ (Builtin.SmallTypes.nextOf (.ref T) >>= _) _ _ _
  have tq := (N₃ _ (List.mem_cons_of_mem _ (List.mem_cons_of_mem _ (List.mem_cons_of_mem _ (List.mem_cons_of_mem _ List.mem_cons_self))))).1
  have uq := (N₃ _ (List.mem_cons_of_mem _ (List.mem_cons_of_mem _ (List.mem_cons_of_mem _ (List.mem_cons_of_mem _ (List.mem_cons_of_mem _ hu)))))).1
  refine wpAny_bind (nextOf_tup ⟨_, tq, hT⟩ ⟨_, uq, rfl, _, rfl⟩ (by simpa using hy) fun h₄ hi₄ hs₄ => wpAny_pure ?_)
  obtain ⟨oT', eT, hT'⟩ := hi₄
  obtain ⟨F₄, N₄⟩ := led_change (o' := oT') (news' := (Z, zipO .ellipsis TI TO) :: (TI, tupOf [.ref S, .ref T] 0) :: (TO, tupOf [.str ⟨#[c]⟩ s.toks, b] 0) :: (S, oS') :: (T, oT') :: rest) F₃ N₃
    (.tail (by k_ne) (.tail (by k_ne) (.tail (by k_ne) (.tail (by k_ne) (.head (fun p hp => (off p hp).2.2.2.2)))))) hs₄ eT
  have toq' := (N₄ _ (List.mem_cons_of_mem _ (List.mem_cons_of_mem _ List.mem_cons_self))).1
  refine wpAny_bind (wpAny_seqItems toq' rfl ?_)
  refine wpAny_bind (updSeq (news' := (Z, zipO .ellipsis TI TO) :: (TI, tupOf [.ref S, .ref T] 0) :: (TO, tupOf [.str ⟨#[c]⟩ s.toks, v] 0) :: (S, oS') :: (T, oT') :: rest) F₄ N₄
    (.tail (by k_ne) (.tail (by k_ne) (.head (off_cons (by k_ne) (off_cons (by k_ne) fun p hp => (off p hp).2.2.1))))) rfl fun h₅ F₅ N₅ => ?_)
  refine wpAny_bind (wpAny_letGo (wpAny_pure (wpAny_pure ?_)))
  have toq5 := (N₅ _ (List.mem_cons_of_mem _ (List.mem_cons_of_mem _ List.mem_cons_self))).1
  refine wpAny_bind (wpAny_seqItems toq5 rfl ?_)
  refine wpAny_bind (newTuple_N F₅ N₅ (fun h₆ F₆ N₆ => ?_) (by rw [sizeLine_eq]; simp))
  show wpAny _ _ (Builtin.SmallTypes.ownedTupleHandOut (.ref Z) (.ref h₅.objs.size) >>= _) _ _ _
  refine wpAny_bind ?_
  unfold Builtin.SmallTypes.ownedTupleHandOut
  have zlt : Z < h₅.objs.size := Heap.lt_size (N₅ _ List.mem_cons_self).1
  have hP : h₅.objs.size ≠ Z := Nat.ne_of_gt zlt
  have oZ6 : ∀ p ∈ (TI, tupOf [.ref S, .ref T] 0) :: (TO, tupOf [.str ⟨#[c]⟩ s.toks, v] 0) :: (S, oS') :: (T, oT') :: rest, p.1 ≠ Z := off_cons (by k_ne) (off_cons (by k_ne) (off_cons (by k_ne) (off_cons (by k_ne) fun p hp => (off p hp).1)))
  refine wpAny_bind (setFld (vs' := #[rawInt h₅.objs.size, .bool false, .bool false, .ref TI, .ref TO]) F₆ N₆ (.tail hP (.head oZ6)) (by simp) rfl fun h₇ F₇ N₇ => ?_)
  refine setFld (vs' := #[rawInt h₅.objs.size, .bool false, .bool false, .ref TI, .ref TO]) F₇ N₇ (.tail hP (.head oZ6)) (by simp) rfl fun h₈ F₈ N₈ => ?_
  refine wpAny_pure ⟨_, rfl, wpAny_pure ?_⟩
  refine h h₅.objs.size h₈ _ _ _ _ oS' oT' F₈ N₈ hS' hT' fun p hp => ?_
  have n5 := news_off N₅
  unfold zipL at hp
  rcases List.mem_cons.mp hp with rfl | hp
  · exact (n5 (Z, zipO .ellipsis TI TO) List.mem_cons_self : Z < _)
  · rcases List.mem_cons.mp hp with rfl | hp
    · exact (n5 (TI, tupOf [.ref S, .ref T] 0) (List.mem_cons_of_mem _ List.mem_cons_self) : TI < _)
    · rcases List.mem_cons.mp hp with rfl | hp
      · exact (n5 (TO, tupOf [.str ⟨#[c]⟩ s.toks, v] 0) (List.mem_cons_of_mem _ (List.mem_cons_of_mem _ List.mem_cons_self)) : TO < _)
      · rcases List.mem_cons.mp hp with rfl | hp
        · exact (n5 (S, oS') (List.mem_cons_of_mem _ (List.mem_cons_of_mem _ (List.mem_cons_of_mem _ List.mem_cons_self))) : S < _)
        · rcases List.mem_cons.mp hp with rfl | hp
          · exact (n5 (T, oT') (List.mem_cons_of_mem _ (List.mem_cons_of_mem _ (List.mem_cons_of_mem _ (List.mem_cons_of_mem _ List.mem_cons_self)))) : T < _)
          · exact n5 _ (List.mem_cons_of_mem _ (List.mem_cons_of_mem _ (List.mem_cons_of_mem _ (List.mem_cons_of_mem _ (List.mem_cons_of_mem _ hp)))))
theorem next_zip_end {Z TI TO S T : Addr} {a b : Value} {oS oT : Obj} {x : Str} {t : Tok} {i : Nat} {rest : Led} {Q : Option Value → Shared → Prop} (hh : A.handled = none)
    (F : Fr h₀ L s.heap m) (N : News h₀ L s.heap (zipL Z TI TO S T .none a b oS oT rest)) (hS : IsSt oS x t i) (hx : x.cps[i]? = none) (d : ZOrd Z TI TO S T) (off : ZOff Z TI TO S T rest)
    (h : ∀ h', Fr h₀ L h' m → News h₀ L h' rest → Q none { s with heap := h' }) :
    wpAny (model prog w) A (pyNext (.ref Z)) Q E s := by
  obtain ⟨d1, d2, d3, d4⟩ := d
  unfold zipL at N
  have hT0 : s.TypeIs (.ref Z) "zip" := ⟨_, (N _ List.mem_cons_self).1, rfl⟩
  unfold pyNext
  have zq := (N _ List.mem_cons_self).1
  have tiq := (N _ (List.mem_cons_of_mem _ List.mem_cons_self)).1
  refine wpAny_bind (wpAny_attempt (wpAny_callSpecial?_slot (name := Str.ofString "__next__") hT0 PySem.F.slot_zip_next (wpAny_call_entry PySem.F.slot_zip_next hT0 PySem.F.entry_zip_next ?_ (PySem.F.args_zip_next_1 _))))
  show wpAny _ _ (field (.ref Z) 2 >>= _) _ _ _
  refine wpAny_bind (wpAny_field zq rfl (x := .bool false) rfl ?_)
  show wpAny _ _ (field (.ref Z) 3 >>= _) _ _ _
  refine wpAny_bind (wpAny_field zq rfl (x := .ref TI) rfl ?_)
  refine wpAny_bind (wpAny_seqItems tiq rfl ?_)
  show wpAny _ _ (Builtin.SmallTypes.ownedTupleIsFree (.ref Z) >>= _) _ _ _
  refine wpAny_bind ?_
  unfold Builtin.SmallTypes.ownedTupleIsFree
  refine wpAny_bind (wpAny_field zq rfl (x := .none) rfl (wpAny_pure ?_))
  simp only [if_true]
  refine wpAny_bind (wpAny_rule ?_)
  refine wpAny_bind (wpAny_field zq rfl (x := .ref TO) rfl ?_)
  have oZ : ∀ p ∈ (TI, tupOf [.ref S, .ref T] 0) :: (TO, tupOf [a, b] 0) :: (S, oS) :: (T, oT) :: rest, p.1 ≠ Z := off_cons (by k_ne) (off_cons (by k_ne) (off_cons (by k_ne) (off_cons (by k_ne) fun p hp => (off p hp).1)))
  refine wpAny_bind (setFld (vs' := #[.ellipsis, .bool false, .bool false, .ref TI, .ref TO]) F N (Upd.head oZ) (by simp) rfl fun h₁ F₁ N₁ => ?_)
  refine wpAny_bind ?_
  simp only [List.zipIdx_cons, List.zipIdx_nil, List.forIn_cons, List.forIn_nil]
  refine wpAny_bind (wpAny_bind (wpAny_onRaise ?_))
  show wpAny _ _ (Builtin.SmallTypes.nextOf (.ref S) >>= _) _ _ _
  have sq := (N₁ _ (List.mem_cons_of_mem _ (List.mem_cons_of_mem _ (List.mem_cons_of_mem _ List.mem_cons_self)))).1
  refine wpAny_bind (wpAny_nextOf_ascii_end hh ⟨_, sq, hS⟩ hx fun h₂ e hs₂ he => ?_)
  obtain ⟨oe, hoe, hce⟩ := he
  obtain ⟨F₂, N₂⟩ := led_end (s := { s with heap := h₁ }) (news' := (Z, zipO .ellipsis TI TO) :: (TI, tupOf [.ref S, .ref T] 0) :: (TO, tupOf [a, b] 0) :: (T, oT) :: rest) F₁ N₁
    (.tail (by k_ne) (.tail (by k_ne) (.tail (by k_ne) (.head (off_cons (by k_ne) fun p hp => (off p hp).2.2.2.1))))) hs₂
  have hz₂ := (N₂ _ List.mem_cons_self).1
  have hez : e ≠ Z := fun q => by subst q; rw [hz₂] at hoe; cases hoe; simp at hce
  refine wpAny_setField_rec hz₂ (by simp) fun h₃ hz₃ hs₃ => ?_
  have z := led_end (s := { s with heap := h₂ }) (news' := (TI, tupOf [.ref S, .ref T] 0) :: (TO, tupOf [a, b] 0) :: (T, oT) :: rest) F₂ N₂ (.head (off_cons (by k_ne) (off_cons (by k_ne) (off_cons (by k_ne) fun p hp => (off p hp).1)))) hs₃.extBut
  refine wpAny_bind (wpAny_isInstance (T := "StopIteration") (b := true) ⟨oe, hs₃.extBut _ _ hez hoe, hce⟩ isSubtype_stop ?_)
  exact wpAny_pure (h _ z.1 (news_tail (news_tail (news_tail z.2))))
theorem let_zip {elts : List Expr} {kk : Nat} {pos : Pos} {Z TI TO S T P : Addr} {a b : Value} {oS oT : Obj} {q : Addr × Obj} {rest : Led} {Q : Unit → Shared → Prop} (F : Fr h₀ L s.heap m) (N : News h₀ L s.heap (q :: zipL Z TI TO S T (rawInt P) a b oS oT rest)) (hq : q.1 ≠ Z) (d : ZOrd Z TI TO S T) (off : ZOff Z TI TO S T rest)
    (h : ∀ h', Fr h₀ L h' m → News h₀ L h' (q :: zipL Z TI TO S T .none a b oS oT rest) → Q () { s with heap := h' }) : wpAny (model prog w) A (letOwnedTupleGo (.Tuple elts kk pos) (.ref Z) (.ref P)) Q E s := by
  obtain ⟨d1, d2, d3, d4⟩ := d
  unfold zipL at N
  refine wpAny_letOwnedTupleGo_zip (N _ (List.mem_cons_of_mem _ List.mem_cons_self)).1 fun h' hz' hs' => ?_
  have z := led_change F N (.tail hq (.head (off_cons (by k_ne) (off_cons (by k_ne) (off_cons (by k_ne) (off_cons (by k_ne) fun p hp => (off p hp).1)))))) hs' hz'
  exact h _ z.1 z.2
abbrev zH1 (h : Heap) (x : Str) (t : Tok) : Heap := h.push { cls := .type "str_ascii_iterator", data := .fields #[.str x t, .int 0 0] }
abbrev zH2 (h : Heap) (x : Str) (t : Tok) (l : Addr) : Heap := (zH1 h x t).push { cls := .type "tuple_iterator", data := .fields #[.ref l, .int 0 0] }
abbrev zH3 (h : Heap) (x : Str) (t : Tok) (l : Addr) : Heap := (zH2 h x t l).push { cls := .type "tuple", data := .seq #[.ref h.objs.size, .ref (zH1 h x t).objs.size] }
abbrev zH4 (h : Heap) (x : Str) (t : Tok) (l : Addr) : Heap := (zH3 h x t l).push { cls := .type "tuple", data := .seq #[.none, .none] }
abbrev zH5 (h : Heap) (x : Str) (t : Tok) (l : Addr) : Heap := (zH4 h x t l).push { cls := .type "zip", data := .fields #[.none, .bool false, .bool false, .ref (zH2 h x t l).objs.size, .ref (zH3 h x t l).objs.size] }
theorem meets_zip_st (x : Str) (t : Tok) (l : Addr) (ys : Array Value) (ha : x.cps.all (· < 128) = true) :
    Meets (Builtin.«zip.__new__» ⟨[.type "zip", .str x t, .ref l], []⟩) (fun _ R s => s.heap.IsTuple l ys ∧ R (.ok (.ret (.ref (zH4 s.heap x t l).objs.size))) { s with heap := zH5 s.heap x t l }) :=
  .of_wp fun prog w A R s h => by
    obtain ⟨hp, g, d, tk, os⟩ := s; obtain ⟨hl2, h⟩ := h
    have hsub := sub_zip
    have hL2 : Heap.IsTuple (Shared.heap ⟨hp.push { cls := .type "str_ascii_iterator", data := .fields #[.str x t, .int 0 0] }, g, d, tk, os⟩) l ys := Heap.IsTuple.push hl2 _
    have g1 : ∀ {A : Around} {E : Value → Shared → Prop} {Q : Value → Shared → Prop}, Q (.ref hp.objs.size) ⟨hp.push { cls := .type "str_ascii_iterator", data := .fields #[.str x t, .int 0 0] }, g, d, tk, os⟩ → wpAny (model prog w) A (pyIter (.str x t)) Q E ⟨hp, g, d, tk, os⟩ := fun h => wpAny_pyIter_ascii ha h
    have g2 : ∀ {A : Around} {E : Value → Shared → Prop} {Q : Value → Shared → Prop}, Q (.ref (hp.push { cls := .type "str_ascii_iterator", data := .fields #[.str x t, .int 0 0] }).objs.size) ⟨(hp.push { cls := .type "str_ascii_iterator", data := .fields #[.str x t, .int 0 0] }).push { cls := .type "tuple_iterator", data := .fields #[.ref l, .int 0 0] }, g, d, tk, os⟩ → wpAny (model prog w) A (pyIter (.ref l)) Q E ⟨hp.push { cls := .type "str_ascii_iterator", data := .fields #[.str x t, .int 0 0] }, g, d, tk, os⟩ := fun h => wpAny_pyIter_tuple hL2 h
    clear hL2 hl2
    have n1 : ∀ {A : Around} {E : Value → Shared → Prop} {Q : Value × List Value → Shared → Prop}, Q (.type "zip", [.str x t, .ref l]) ⟨hp, g, d, tk, os⟩ → wpAny (model prog w) A (Builtin.SmallTypes.newClass "zip" { pos := [Value.type "zip", Value.str x t, Value.ref l] }) Q E ⟨hp, g, d, tk, os⟩ := fun h => by
      unfold Builtin.SmallTypes.newClass
      wp_walk
      exact h
    unfold Builtin.«zip.__new__» Builtin.SmallTypes.iterAll
    refine wpAny_bind (n1 ?_)
    simp only [List.length_nil, Nat.not_lt_zero, if_false, List.forIn_cons, List.forIn_nil, gt_iff_lt]
    refine wpAny_bind (wpAny_bind (wpAny_bind (wpAny_bind (wpAny_holding (g1 (wpAny_pure (wpAny_bind (wpAny_bind (wpAny_holding (g2 (wpAny_pure (wpAny_pure (wpAny_pure ?_)))))))))))))
    clear g1 g2 n1
    wp_walk
    exact ⟨_, rfl, h⟩
theorem call_zip {x : Str} {t : Tok} {l : Addr} {its : List Value} {n : Nat} {Q : Value → Shared → Prop} (F : Fr h₀ L s.heap m) (N : News h₀ L s.heap news) (hl : (l, tupOf its n) ∈ news) (ha : x.cps.all (· < 128) = true)
    (h : ∀ Z TI TO S T oS oT h', Fr h₀ L h' m → News h₀ L h' (zipL Z TI TO S T .none .none .none oS oT news) → IsSt oS x t 0 → IsTit oT l 0 → ZOrd Z TI TO S T → (∀ p ∈ news, p.1 < S) → Q (.ref Z) { s with heap := h' }) :
    wpAny (model prog w) A (call (.type "zip") [.str x t, .ref l]) Q E s := by
  refine callType_new PySem.F.called_zip (by decide) (PySem.F.typeCall_zip_2 _ _) (PySem.F.newCall_zip_2 _ _) (fun obj => PySem.F.args_object_init_3 obj _ _) PySem.F.entry_zip_new
    (meets_zip_st x t l its.toArray ha) ⟨⟨_, (N _ hl).1, rfl, _, rfl⟩, ?_⟩
  have z1 : (zH1 s.heap x t).objs.size = s.heap.objs.size + 1 := Heap.size_push ..
  have z2 : (zH2 s.heap x t l).objs.size = s.heap.objs.size + 2 := by rw [Heap.size_push, z1]
  have z3 : (zH3 s.heap x t l).objs.size = s.heap.objs.size + 3 := by rw [Heap.size_push, z2]
  have z4 : (zH4 s.heap x t l).objs.size = s.heap.objs.size + 4 := by rw [Heap.size_push, z3]
  have F1 := F.push { cls := .type "str_ascii_iterator", data := .fields #[.str x t, .int 0 0] }
  have N1 := N.push F { cls := .type "str_ascii_iterator", data := .fields #[.str x t, .int 0 0] }
  have F2 := F1.push { cls := .type "tuple_iterator", data := .fields #[.ref l, .int 0 0] }
  have N2 := N1.push F1 { cls := .type "tuple_iterator", data := .fields #[.ref l, .int 0 0] }
  have F3 := F2.push { cls := .type "tuple", data := .seq #[.ref s.heap.objs.size, .ref (zH1 s.heap x t).objs.size] }
  have N3 := N2.push F2 { cls := .type "tuple", data := .seq #[.ref s.heap.objs.size, .ref (zH1 s.heap x t).objs.size] }
  have F4 := F3.push { cls := .type "tuple", data := .seq #[.none, .none] }
  have N4 := N3.push F3 { cls := .type "tuple", data := .seq #[.none, .none] }
  have F5 := F4.push { cls := .type "zip", data := .fields #[.none, .bool false, .bool false, .ref (zH2 s.heap x t l).objs.size, .ref (zH3 s.heap x t l).objs.size] }
  have N5 := N4.push F4 { cls := .type "zip", data := .fields #[.none, .bool false, .bool false, .ref (zH2 s.heap x t l).objs.size, .ref (zH3 s.heap x t l).objs.size] }
  have hz : Heap.get? (zH5 s.heap x t l) (zH4 s.heap x t l).objs.size = some _ := (N5 _ List.mem_cons_self).1
  refine ⟨⟨_, hz, rfl⟩, h (zH4 s.heap x t l).objs.size (zH2 s.heap x t l).objs.size (zH3 s.heap x t l).objs.size s.heap.objs.size (zH1 s.heap x t).objs.size { cls := .type "str_ascii_iterator", data := .fields #[.str x t, .int 0 0] } { cls := .type "tuple_iterator", data := .fields #[.ref l, .int 0 0] } _ F5 (news_sub N5 ?_) ⟨rfl, rfl⟩ ⟨rfl, rfl⟩ ?_ (fun p hp => Heap.lt_size (N p hp).1)⟩
  · unfold zipL
    refine List.forall_mem_cons.mpr ⟨List.mem_cons_self, List.forall_mem_cons.mpr ⟨List.mem_cons_of_mem _ (List.mem_cons_of_mem _ List.mem_cons_self), List.forall_mem_cons.mpr ⟨List.mem_cons_of_mem _ List.mem_cons_self, List.forall_mem_cons.mpr ⟨?_, List.forall_mem_cons.mpr ⟨?_, ?_⟩⟩⟩⟩⟩
    · exact List.mem_cons_of_mem _ (List.mem_cons_of_mem _ (List.mem_cons_of_mem _ (List.mem_cons_of_mem _ List.mem_cons_self)))
    · exact List.mem_cons_of_mem _ (List.mem_cons_of_mem _ (List.mem_cons_of_mem _ List.mem_cons_self))
    · exact fun p hp => List.mem_cons_of_mem _ (List.mem_cons_of_mem _ (List.mem_cons_of_mem _ (List.mem_cons_of_mem _ (List.mem_cons_of_mem _ hp))))
  · have n1 : (Heap.push s.heap { cls := .type "str_ascii_iterator", data := .fields #[.str x t, .int 0 0] }).objs.size = s.heap.objs.size + 1 := z1
    exact ⟨by rw [z1]; exact Nat.lt_succ_self _, by rw [z1, z2]; exact Nat.lt_succ_self _, by rw [z2, z3]; exact Nat.lt_succ_self _, by rw [z3, z4]; exact Nat.lt_succ_self _⟩
end
end
end Zip_part
section ZipC_part
open PySem PySem.W PyProof.Rows PyProof.Rows.LCg
section
theorem perm_front {α : Type} {front mid rest : List α} {p : α} (hp : p ∈ front ++ (mid ++ rest)) : p ∈ mid ++ (front ++ rest) := by
  rcases List.mem_append.mp hp with h | h
  · exact List.mem_append.mpr (.inr (List.mem_append.mpr (.inl h)))
  · rcases List.mem_append.mp h with h | h
    · exact List.mem_append.mpr (.inl h)
    · exact List.mem_append.mpr (.inr (List.mem_append.mpr (.inr h)))
theorem skip2 {α : Type} {a b c : α} {l : List α} {p : α} (hp : p ∈ a :: b :: l) : p ∈ a :: b :: c :: l := by
  rcases List.mem_cons.mp hp with h | h
  · exact List.mem_cons.mpr (.inl h)
  rcases List.mem_cons.mp h with h | h
  · exact List.mem_cons_of_mem _ (List.mem_cons.mpr (.inl h))
  · exact List.mem_cons_of_mem _ (List.mem_cons_of_mem _ (List.mem_cons_of_mem _ h))
theorem swap2m {α : Type} {a b : α} {l : List α} {p : α} (hp : p ∈ a :: b :: l) : p ∈ b :: a :: l := by
  rcases List.mem_cons.mp hp with h | h
  · exact List.mem_cons_of_mem _ (List.mem_cons.mpr (.inl h))
  rcases List.mem_cons.mp h with h | h
  · exact List.mem_cons.mpr (.inl h)
  · exact List.mem_cons_of_mem _ (List.mem_cons_of_mem _ h)
section
variable {prog : Program} {w : World} {A : Around} {E : Value → Shared → Prop} {s : Shared} {h₀ : Heap} {L C D : Addr} {m : Str → Option Value} {env : Env} {R : Result → Shared → Prop}
theorem comp_assign2 {x y : Str} {px py tp : Pos} {kk : Nat} {scope : Scope} {cl : List (Str × Addr)} {P : Addr} {va vb : Value} {oC : Obj} {mC : Str → Option Value} {rest : Led} {Q : Unit → Shared → Prop} (hh : A.handled = none)
    (hx : (compEnvC scope cl C env).kindOf x = some .local) (hy : (compEnvC scope cl C env).kindOf y = some .local) (hp : ((compEnvC scope cl C env).scope.kind == .class || ((compEnvC scope cl C env).scope.kind == .module && (compEnvC scope cl C env).locals != (compEnvC scope cl C env).globals)) = false)
    (F : Fr h₀ L s.heap m) (N : News h₀ L s.heap ((C, oC) :: rest)) (offC : ∀ p ∈ rest, p.1 ≠ C) (hC : NsObj oC mC) (hT : (P, tupOf [va, vb] 0) ∈ rest)
    (h : ∀ h' tk oC', Fr h₀ L h' m → News h₀ L h' ((C, oC') :: rest) → NsObj oC' (fun z => if z = y then some vb else if z = x then some va else mC z) → Q () { s with heap := h', toks := tk }) :
    wpAny (model prog w) A (assign (.Tuple [.Name x px, .Name y py] kk tp) (compEnvC scope cl C env) (.ref P)) Q E s := by
  refine wpAny_assign_Tuple hh (items := #[va, vb]) ⟨_, (N _ (List.mem_cons_of_mem _ hT)).1, rfl, _, rfl⟩ rfl rfl fun h₁ he₁ => ?_
  have up : ∀ c o, s.heap.get? c = some o → h₁.get? c = some o := fun c o e => he₁ c o (Nat.ne_of_lt (Heap.lt_size e)) e
  have F₁ := F.keeps up
  have N₁ : News h₀ L h₁ ((C, oC) :: rest) := fun p hp => ⟨up _ _ (N p hp).1, (N p hp).2⟩
  show wpAny _ _ (assignInOrder [assign (.Name x px) _, assign (.Name y py) _] [va, vb]) _ _ _
  refine assignInOrder_cons (wpAny_assign_Name ?_)
  refine comp_store (s := { s with heap := h₁ }) (g := fun o' => (C, o') :: rest) hx hp F₁ N₁ (.head offC) hC fun h₂ oC₂ F₂ N₂ hC₂ => ?_
  refine assignInOrder_cons (wpAny_assign_Name ?_)
  refine comp_store (g := fun o' => (C, o') :: rest) hy hp F₂ N₂ (.head offC) hC₂ fun h₃ oC₃ F₃ N₃ hC₃ => ?_
  exact assignInOrder_nil (h h₃ _ oC₃ F₃ N₃ hC₃)
noncomputable def ZElt (h₀ : Heap) (L : Addr) (s : Shared) (m : Str → Option Value) (front new g : Led) (P : Led → List Value → Prop) (vs : List Value) (y : Value) (s₃ : Shared) : Prop :=
  ∃ (new' : Led) (h' : Heap) (tk : Nat), s₃ = { s with heap := h', toks := tk } ∧ Fr h₀ L h' m ∧ News h₀ L h' (front ++ (new' ++ (new ++ g))) ∧ Abv (front ++ (new ++ g)) new' ∧ P (new' ++ new) (vs ++ [y])
theorem zelt_tup {h₀ : Heap} {L : Addr} {s : Shared} {m : Str → Option Value} {front new g : Led} {P : Led → List Value → Prop} {vs : List Value} {T : Addr} {o : Obj} {h' : Heap} {tk : Nat} (F : Fr h₀ L h' m) (N : News h₀ L h' ((T, o) :: (front ++ (new ++ g)))) (l : ∀ q ∈ front ++ (new ++ g), q.1 < T) (hP : P ((T, o) :: new) (vs ++ [.ref T])) :
    ZElt h₀ L s m front new g P vs (.ref T) { s with heap := h', toks := tk } :=
  ⟨[(T, o)], h', tk, rfl, F, news_sub N fun p hp => by
    simp only [List.cons_append, List.nil_append, List.mem_cons, List.mem_append] at hp ⊢
    rcases hp with hp | hp | hp | hp <;> simp [hp], Abv.one l, hP⟩
/-- what a turn of the filtering comprehension leaves -/
noncomputable def ZEnd (h₀ : Heap) (L : Addr) (s : Shared) (m : Str → Option Value) (front new g : Led) (P : Led → List Value → Prop) (vs : List Value) (prog : Program) (w : World) (A : Around) (E' : Value → Shared → Prop) (elt : Expr) (env' : Env) (ok : Bool) (s₂ : Shared) : Prop :=
  if ok = true then wpAny (model prog w) A (eval elt env') (ZElt h₀ L s m front new g P vs) E' s₂
  else ∃ (h' : Heap) (tk : Nat), s₂ = { s with heap := h', toks := tk } ∧ Fr h₀ L h' m ∧ News h₀ L h' (front ++ (new ++ g)) ∧ P new vs
theorem comp_zip {a b : Str} {pa pb tp : Pos} {kk : Nat} {elt iter test : Expr} {scope : Scope} {cl : List (Str × Addr)} {pos : Pos} {x : Str} {t : Tok} {ul : Addr} {its : List Value} {nu : Nat} {Z TI TO S T : Addr} {oS oT oC : Obj} {g : Led}
    (P : Nat → Led → List Value → Prop)
    (ha : (compEnvC scope cl C env).kindOf a = some .local) (hb : (compEnvC scope cl C env).kindOf b = some .local) (hp : ((compEnvC scope cl C env).scope.kind == .class || ((compEnvC scope cl C env).scope.kind == .module && (compEnvC scope cl C env).locals != (compEnvC scope cl C env).globals)) = false) (hh : A.handled = none)
    (hl : x.cps.size = its.length) (hz : its.length ≤ 1000)
    (F : Fr h₀ L s.heap m) (N : News h₀ L s.heap ((C, oC) :: (D, lst []) :: zipL Z TI TO S T .none .none .none oS oT g)) (hS : IsSt oS x t 0) (hT : IsTit oT ul 0) (hu : (ul, tupOf its nu) ∈ g) (hC : NsObj oC zeroFr) (d : ZOrd Z TI TO S T) (off : ∀ p ∈ g, p.1 < S) (hD : @LT.lt Nat _ Z D) (hCD : @LT.lt Nat _ D C)
    (hP : P 0 [] [])
    (turn : ∀ (i c : Nat) (v : Value) (t' : Tok) (vs : List Value) (new fz : Led) (k : Nat) (h : Heap) (tk : Nat) (oC' : Obj) (E' : Value → Shared → Prop), x.cps[i]? = some c → its[i]? = some v → P i new vs → Fr h₀ L h m →
      News h₀ L h ((C, oC') :: (D, listOf vs.toArray k) :: fz ++ (new ++ g)) → NsObj oC' (fun z => if z = b then some v else if z = a then some (.str ⟨#[c]⟩ t') else zeroFr z) →
      wpAny (model prog w) A (isTrue test (compEnvC scope cl C env) (eval test (compEnvC scope cl C env))) (ZEnd h₀ L s m ((C, oC') :: (D, listOf vs.toArray k) :: fz) new g (P (i + 1)) vs prog w A E' elt (compEnvC scope cl C env)) E' { s with heap := h, toks := tk })
    (ret : ∀ (vs : List Value) (new : Led) (k : Nat) (oC' : Obj) (mC : Str → Option Value) (h : Heap) (tk : Nat), P its.length new vs → Fr h₀ L h m → News h₀ L h ((C, oC') :: (D, listOf vs.toArray k) :: (new ++ g)) → NsObj oC' mC →
      (∀ p ∈ new, @LT.lt Nat _ C p.1) → R (.ok .next) { s with heap := h, toks := tk }) :
    CompGo prog w A (.ListComp elt [⟨.Tuple [.Name a pa, .Name b pb] kk tp, iter, [test], 0⟩] scope pos) 0 (.ref Z) (.ref D) (compEnvC scope cl C env) R s := by
  have hZC : @LT.lt Nat _ Z C := Nat.lt_trans hD hCD
  have ozA : ∀ (o o' : Obj) (new : Led), (∀ p ∈ new, @LT.lt Nat _ C p.1) → ZOff Z TI TO S T ((C, o) :: (D, o') :: (new ++ g)) := fun o o' new ab =>
    ZOff.cons (zhi d hZC) (ZOff.cons (zhi d hD) fun p hp => (List.mem_append.mp hp).elim (fun hp => zhi d (Nat.lt_trans hZC (ab p hp))) fun hp => zlo d (off p hp))
  have key : ∀ (j i : Nat) (vs : List Value) (new : Led) (k : Nat) (h : Heap) (tk : Nat) (oC' oS oT : Obj) (va vb : Value) (mC : Str → Option Value), i + j = its.length → vs.length ≤ i → P i new vs → Fr h₀ L h m → News h₀ L h ((C, oC') :: (D, listOf vs.toArray k) :: zipL Z TI TO S T .none va vb oS oT (new ++ g)) → IsSt oS x t i → IsTit oT ul i → NsObj oC' mC → (∀ y, y ≠ a → y ≠ b → mC y = zeroFr y) →
      (∀ p ∈ new, @LT.lt Nat _ C p.1) →
      CompGo prog w A (.ListComp elt [⟨.Tuple [.Name a pa, .Name b pb] kk tp, iter, [test], 0⟩] scope pos) 0 (.ref Z) (.ref D) (compEnvC scope cl C env) R { s with heap := h, toks := tk } := by
    intro j
    induction j with
    | zero =>
      intro i vs new k h tk oC' oS oT va vb mC hi hvl hP F N hS hT hC hm ab
      have : i = its.length := by omega
      subst this
      have oz : ZOff Z TI TO S T ((C, oC') :: (D, listOf vs.toArray k) :: (new ++ g)) := ozA _ _ new ab
      refine codeAny_of_tree ?_
      show wpAny _ A ((compTurn _ 0 _ _ _).onRaise (fun x => do noteFrame x (compEnvC scope cl C env); theTreesLotGoes x)) _ _ _
      refine wpAny_noted ?_
      rw [compTurn_list]
      refine wpAny_bind (wpAny_standAt (wpAny_bind ?_))
      refine next_zip_end hh F (N := (show News h₀ L h (zipL Z TI TO S T .none va vb oS oT ((C, oC') :: (D, listOf vs.toArray k) :: (new ++ g))) from news_sub N ?_)) hS (by rw [← hl]; exact Array.getElem?_eq_none (Nat.le_refl _)) d oz fun h' F' N' => ?_
      · intro p hp
        exact perm_front (front := [_, _, _, _, _]) (mid := [_, _]) hp
      · exact wpAny_pure (ret vs new k oC' mC h' _ hP F' N' hC ab)
    | succ j ih =>
      intro i vs new k h tk oC' oS oT va vb mC hi hvl hP F N hS hT hC hm ab
      have oz : ZOff Z TI TO S T ((C, oC') :: (D, listOf vs.toArray k) :: (new ++ g)) := ozA _ _ new ab
      have hil : i < its.length := by omega
      obtain ⟨c, hc⟩ : ∃ c, x.cps[i]? = some c := ⟨_, Array.getElem?_eq_getElem (by omega)⟩
      obtain ⟨v, hv⟩ : ∃ v, its[i]? = some v := ⟨_, List.getElem?_eq_getElem hil⟩
      refine codeAny_of_tree ?_
      show wpAny _ A ((compTurn _ 0 _ _ _).onRaise (fun x => do noteFrame x (compEnvC scope cl C env); theTreesLotGoes x)) _ _ _
      refine wpAny_noted ?_
      rw [compTurn_list]
      refine wpAny_bind (wpAny_standAt (wpAny_bind ?_))
      refine next_zip F (N := (show News h₀ L h (zipL Z TI TO S T .none va vb oS oT ((C, oC') :: (D, listOf vs.toArray k) :: (new ++ g))) from news_sub N ?_)) hS hT (List.mem_cons_of_mem _ (List.mem_cons_of_mem _ (List.mem_append.mpr (.inr hu)))) hc hv d oz fun Pt h₁ tk₁ t' va' vb' oS' oT' F₁ N₁ hS₁ hT₁ lP => ?_
      · intro p hp
        exact perm_front (front := [_, _, _, _, _]) (mid := [_, _]) hp
      have lPZ : @LT.lt Nat _ Z Pt := lP (Z, _) List.mem_cons_self
      have lPC : @LT.lt Nat _ C Pt := lP (C, oC') (by unfold zipL; simp)
      refine wpAny_bind (let_zip F₁ N₁ (Nat.ne_of_gt lPZ) d oz fun h₂ F₂ N₂ => ?_)
      have N₂' : News h₀ L h₂ ((C, oC') :: ((D, listOf vs.toArray k) :: (Pt, tupOf [.str ⟨#[c]⟩ t', v] 0) :: zipL Z TI TO S T .none va' vb' oS' oT' (new ++ g))) := news_sub N₂ fun p hp => by
        exact perm_front (front := [_, _]) (mid := [_, _, _, _, _, _]) hp
      have oCs : ∀ p ∈ (D, listOf vs.toArray k) :: (Pt, tupOf [.str ⟨#[c]⟩ t', v] 0) :: zipL Z TI TO S T .none va' vb' oS' oT' (new ++ g), p.1 ≠ C := by
        exact off_cons (Nat.ne_of_lt hCD) (off_cons (Nat.ne_of_gt lPC) (zipL_off (zhi d hZC) (off_app (fun p hp => Nat.ne_of_gt (ab p hp)) fun p hp => zlow d (off p hp) hZC)))
      refine wpAny_bind (comp_assign2 (s := { s with heap := h₂, toks := tk₁ }) hh ha hb hp F₂ N₂' oCs hC (List.mem_cons_of_mem _ List.mem_cons_self) fun h₃ tk₃ oC₃ F₃ N₃ hC₃ => ?_)
      have hC₄ : NsObj oC₃ (fun z => if z = b then some v else if z = a then some (.str ⟨#[c]⟩ t') else zeroFr z) := by
        have : (fun z => if z = b then some v else if z = a then some (.str ⟨#[c]⟩ t') else mC z) = (fun z => if z = b then some v else if z = a then some (.str ⟨#[c]⟩ t') else zeroFr z) := by
          funext y
          by_cases e1 : y = b
          · rw [if_pos e1, if_pos e1]
          · by_cases e2 : y = a
            · rw [if_neg e1, if_neg e1, if_pos e2, if_pos e2]
            · rw [if_neg e1, if_neg e1, if_neg e2, if_neg e2, hm y e2 e1]
        rw [← this]; exact hC₃
      refine wpAny_bind (wpAny_tests_one ?_)
      have N₄ : News h₀ L h₃ ((C, oC₃) :: (D, listOf vs.toArray k) :: zipL Z TI TO S T .none va' vb' oS' oT' [] ++ (new ++ g)) := news_sub N₃ fun p hp => by
        exact skip2 hp
      have T1 := turn i c v t' vs new (zipL Z TI TO S T .none va' vb' oS' oT' []) k h₃ tk₃ oC₃ (notedBy (model prog w) A (compEnvC scope cl C env) fun e s' => R (.error e) s') hc hv hP F₃ N₄ hC₄
      refine wpAny_mono T1 (fun ok s₄ h₄ => ?_) fun _ _ e => e
      cases ok with
      | false =>
        obtain ⟨h', tk', rfl, F', N', hP'⟩ := h₄
        simp only [Bool.false_eq_true, if_false]
        refine wpAny_bind (wpAny_pure (wpAny_pure ⟨rfl, ?_⟩))
        refine ih (i + 1) vs new k h' tk' oC₃ oS' oT' va' vb' _ (by omega) (by omega) hP' F' (news_sub N' fun p hp => ?_) hS₁ hT₁ hC₄ (fun y e1 e2 => by rw [if_neg e2, if_neg e1]) ab
        exact hp
      | true =>
        have h₄' : wpAny (model prog w) A (eval elt (compEnvC scope cl C env)) _ _ s₄ := h₄
        simp only [if_true]
        refine wpAny_bind (wpAny_bind (wpAny_mono h₄' (fun y s₅ h₅ => ?_) fun _ _ e => e))
        obtain ⟨new', h', tk', rfl, F', N', ab', hP'⟩ := h₅
        have aC : ∀ p ∈ new', @LT.lt Nat _ C p.1 := fun p hp => ltN (ab' (C, oC₃) (by simp) p hp)
        have aD : ∀ p ∈ new', p.1 ≠ D := fun p hp => Nat.ne_of_gt (Nat.lt_trans hCD (aC p hp))
        have N'' : News h₀ L h' ((D, listOf vs.toArray k) :: (C, oC₃) :: zipL Z TI TO S T .none va' vb' oS' oT' (new' ++ (new ++ g))) := news_sub N' fun p hp => by
          exact swap2m hp
        refine wpAny_bind (append_K (news' := (D, listOf (vs.toArray.push y) (k + 1)) :: (C, oC₃) :: zipL Z TI TO S T .none va' vb' oS' oT' (new' ++ (new ++ g))) F' N'' (.head ?_) (fun h₆ F₆ N₆ => ?_) ?_)
        · exact off_cons (Nat.ne_of_gt hCD) (zipL_off (zhi d hD) (off_app aD (off_app (fun p hp => Nat.ne_of_gt (Nat.lt_trans hCD (ab p hp))) fun p hp => zlow d (off p hp) hD)))
        · refine wpAny_pure (wpAny_pure ⟨rfl, ?_⟩)
          have e1 : vs.toArray.push y = (vs ++ [y]).toArray := by simp
          rw [e1, ← List.append_assoc] at N₆
          refine ih (i + 1) (vs ++ [y]) (new' ++ new) (k + 1) h₆ _ oC₃ oS' oT' va' vb' _ (by omega) (by rw [List.length_append, List.length_singleton]; omega) hP' F₆ (news_sub N₆ fun p hp => ?_) hS₁ hT₁ hC₄ (fun y e1 e2 => by rw [if_neg e2, if_neg e1]) (fun p hp => (List.mem_append.mp hp).elim (aC p) (ab p))
          exact swap2m hp
        · rw [List.size_toArray, sizeLine_eq]; omega
  exact key its.length 0 [] [] 0 s.heap s.toks oC oS oT .none .none zeroFr (by omega) (by simp) hP F N hS hT hC (fun _ _ _ => rfl) (fun _ h => nomatch h)
end
end
section
theorem sub3 {h₀ h : Heap} {L : Addr} {x y : Addr × Obj} {fz nw G : Led} (_N : News h₀ L h (x :: y :: (fz ++ (nw ++ G)))) : ∀ p ∈ G, p ∈ fz ++ (nw ++ G) := fun _ hp => List.mem_append.mpr (.inr (List.mem_append.mpr (.inr hp)))
theorem regroup {h₀ h : Heap} {L C D I W l : Addr} {oC oD oI oW ol : Obj} {new g : Led} (N : News h₀ L h ((C, oC) :: (D, oD) :: (new ++ ((I, oI) :: (W, oW) :: (l, ol) :: g)))) (lC : ∀ p ∈ new, @LT.lt Nat _ C p.1) (c : @LT.lt Nat _ I C ∧ @LT.lt Nat _ W C ∧ @LT.lt Nat _ l C) (cC : ∀ p ∈ g, p.1 ≠ C) (cI : ∀ p ∈ g, p.1 ≠ I) (cW : ∀ p ∈ g, p.1 ≠ W) (cl : ∀ p ∈ g, p.1 ≠ l) :
    ∃ gy, News h₀ L h ((C, oC) :: (D, oD) :: (I, oI) :: (W, oW) :: (l, ol) :: gy) ∧ (∀ p ∈ g, p ∈ gy) ∧ (∀ p ∈ new, p ∈ gy) ∧ (∀ p ∈ gy, p.1 ≠ C) ∧ (∀ p ∈ gy, p.1 ≠ I) ∧ (∀ p ∈ gy, p.1 ≠ W) ∧ (∀ p ∈ gy, p.1 ≠ l) := by
  obtain ⟨c1, c2, c3⟩ := c
  refine ⟨new ++ g, news_sub N fun p hp => ?_, fun p hp => List.mem_append.mpr (.inr hp), fun p hp => List.mem_append.mpr (.inl hp), off_app (fun p hp => ?_) cC, off_app (fun p hp => ?_) cI, off_app (fun p hp => ?_) cW, off_app (fun p hp => ?_) cl⟩
  · simp only [List.mem_cons, List.mem_append] at hp ⊢
    rcases hp with hp | hp | hp | hp | hp | hp | hp <;> simp [hp]
  all_goals have q := lC p hp; k_ne
end
section
theorem sub4 {h₀ h : Heap} {L : Addr} {x y z : Addr × Obj} {nw G : Led} (_N : News h₀ L h (x :: y :: z :: (nw ++ G))) : ∀ p ∈ G, p ∈ nw ++ G := fun _ hp => List.mem_append.mpr (.inr hp)
end
section
theorem sub2 {h₀ h : Heap} {L : Addr} {x y : Addr × Obj} {nw G : Led} (_N : News h₀ L h (x :: y :: (nw ++ G))) : ∀ p ∈ G, p ∈ nw ++ G := fun _ hp => List.mem_append.mpr (.inr hp)
end
end ZipC_part
section InvC_part
open PySem PySem.W PyProof.Rows PyProof.Rows.LCg
section
theorem pull3 {I W D : Addr} {o oW oD : Obj} {l l1 l2 g : Led} {h₀ h : Heap} {L : Addr} (N : News h₀ L h l) (p1 : Pull I o l l1) (p2 : Pull W oW l1 l2) (p3 : Pull D oD l2 g) : News h₀ L h ((I, o) :: (W, oW) :: (D, oD) :: g) := fun p hp => by
  rcases List.mem_cons.mp hp with rfl | hp
  · exact N _ (p1.has _ List.mem_cons_self)
  · refine N _ (p1.has _ (List.mem_cons_of_mem _ ?_))
    rcases List.mem_cons.mp hp with rfl | hp
    · exact p2.has _ List.mem_cons_self
    · exact p2.has _ (List.mem_cons_of_mem _ (p3.has _ hp))
section
variable {prog : Program} {w : World} {A : Around} {E : Value → Shared → Prop} {s : Shared} {env : Env} {body : List Stmt} {Q : Flow → Shared → Prop} {h₀ : Heap} {I W D : Addr}
/-- a for loop whose target is a cell and that grows one object -/
theorem for_cell1 {σ : Type} (Ob : σ → Obj) (G : σ → Led) (ps : σ → List (Str × Value)) (stored : List Str) (P : Nat → σ → Prop) (c₀ : σ) {m₀ : Str → Option Value} {n : Nat} {IsAt : Nat → Obj → Prop} {val : Nat → Value → Prop} {need : Led → Prop} {x : Str} {px : Pos} {o oW : Obj} {v₀ : Option Value}
    (S : Src prog w I n IsAt val need)
    (st : ∀ {s : Shared} {E : Value → Shared → Prop} {Q : Unit → Shared → Prop} {m : Str → Option Value} {g : Led} {oW : Obj} {v₀ : Option Value} {v : Value}, Fr h₀ env.locals s.heap m → News h₀ env.locals s.heap ((W, oW) :: g) → (∀ p ∈ g, p.1 ≠ W) → oW.data = .cell v₀ →
      (∀ h' o', Fr h₀ env.locals h' m → News h₀ env.locals h' ((W, o') :: g) → o'.data = .cell (some v) → Q () { s with heap := h' }) → wpAny (model prog w) A (storeName env x v) Q E s)
    (hh : A.handled = none)
    (F : Fr h₀ env.locals s.heap m₀) (N : News h₀ env.locals s.heap ((I, o) :: (W, oW) :: (D, Ob c₀) :: G c₀)) (ho : IsAt 0 o) (hW : oW.data = .cell v₀) (hWI : W ≠ I) (hDI : D ≠ I) (hDW : D ≠ W) (oI : ∀ p ∈ G c₀, p.1 ≠ I) (oWG : ∀ p ∈ G c₀, p.1 ≠ W) (oD : ∀ p ∈ G c₀, p.1 ≠ D) (hk : ∀ p ∈ ps c₀, m₀ p.1 = some p.2) (hP : P 0 c₀) (hn : ∀ c oW, (∀ p ∈ G c₀, p ∈ G c) → need ((W, oW) :: (D, Ob c) :: G c))
    (turn : ∀ (i : Nat) (v : Value) (c : σ) (u : Str → Option Value) (h : Heap) (tk : Nat) (o' oW : Obj) (E' : Value → Shared → Prop), i < n → val i v → P i c → (∀ p ∈ G c₀, p ∈ G c) → (∀ p ∈ G c, p.1 ≠ I) → (∀ p ∈ G c, p.1 ≠ W) → (∀ p ∈ G c, p.1 ≠ D) → W ≠ I → D ≠ I → D ≠ W → oW.data = .cell (some v) → Fr h₀ env.locals h (kstB (fun z => if stored.contains z then u z else m₀ z) (ps c)) →
      News h₀ env.locals h ((I, o') :: (W, oW) :: (D, Ob c) :: G c) → wpAny (model prog w) A (execs body env) (FEnd h₀ env.locals s (fun c => (W, oW) :: (D, Ob c) :: G c) ps stored m₀ (fun i c => P i c ∧ (∀ p ∈ G c₀, p ∈ G c) ∧ (∀ p ∈ G c, p.1 ≠ W) ∧ ∀ p ∈ G c, p.1 ≠ D) Q I o' (i + 1)) E' { s with heap := h, toks := tk })
    (ret : ∀ (c : σ) (u : Str → Option Value) (h : Heap) (tk : Nat) (oW : Obj), P n c → (∀ p ∈ G c₀, p ∈ G c) → (∀ p ∈ G c, p.1 ≠ W) → (∀ p ∈ G c, p.1 ≠ D) → Fr h₀ env.locals h (kstB (fun z => if stored.contains z then u z else m₀ z) (ps c)) → News h₀ env.locals h ((W, oW) :: (D, Ob c) :: G c) → (∃ v, oW.data = .cell v) → Q .next { s with heap := h, toks := tk }) :
    ForGo prog w A E env (.Name x px) (.ref I) body Q s := by
  have key : ∀ (k i : Nat) (c : σ) (h : Heap) (tk : Nat) (m : Str → Option Value) (o oW : Obj) (v₀ : Option Value), i + k = n → Fr h₀ env.locals h m → News h₀ env.locals h ((I, o) :: (W, oW) :: (D, Ob c) :: G c) → IsAt i o → oW.data = .cell v₀ → (∀ p ∈ G c, p.1 ≠ I) → (∀ p ∈ G c, p.1 ≠ W) → (∀ p ∈ G c, p.1 ≠ D) → (∀ p ∈ ps c, m p.1 = some p.2) → (∀ z, (∀ p ∈ ps c, z ≠ p.1) → stored.contains z = false → m z = m₀ z) → P i c → (∀ p ∈ G c₀, p ∈ G c) →
      ForGo prog w A E env (.Name x px) (.ref I) body Q { s with heap := h, toks := tk } := by
    intro k
    induction k with
    | zero =>
      intro i c h tk m o oW v₀ hi F N ho hW oI oWG oD hk hr hP hB
      have : i = n := by omega
      subst this
      refine for_step fun E' => ?_
      exact S.done hh F N (off_cons hWI (off_cons hDI oI)) ho (hn _ _ hB) fun h' F' N' => for_done (ret c m h' _ oW hP hB oWG oD (ksw_fr hk hr F') N' ⟨_, hW⟩)
    | succ k ih =>
      intro i c h tk m o oW v₀ hi F N ho hW oI oWG oD hk hr hP hB
      refine for_step fun E' => ?_
      refine S.next (by omega) F N (off_cons hWI (off_cons hDI oI)) ho (hn _ _ hB) fun h₁ tk₁ o' v F₁ N₁ ho' hv => for_name ?_
      have N₁' : News h₀ env.locals h₁ ((W, oW) :: (I, o') :: (D, Ob c) :: G c) := news_sub N₁ fun p hp => by
        simp only [List.mem_cons] at hp ⊢
        rcases hp with hp | hp | hp | hp <;> simp [hp]
      refine st (s := { s with heap := h₁, toks := tk₁ }) F₁ N₁' (off_cons (Ne.symm hWI) (off_cons hDW oWG)) hW fun h₂ oW₂ F₂ N₂ hW₂ => ?_
      have N₃ : News h₀ env.locals h₂ ((I, o') :: (W, oW₂) :: (D, Ob c) :: G c) := news_sub N₂ fun p hp => by
        simp only [List.mem_cons] at hp ⊢
        rcases hp with hp | hp | hp | hp <;> simp [hp]
      refine wpAny_mono (turn i v c m h₂ tk₁ o' oW₂ E' (by omega) hv hP hB oI oWG oD hWI hDI hDW hW₂ (ksw_fr hk hr F₂) N₃) (fun f s₄ h₄ => ?_) fun _ _ e => e
      cases f with
      | ret v => exact h₄
      | brk => exact h₄
      | next =>
        obtain ⟨c', h', tk', m', rfl, F', N', hk', hr', off', hP', a0, a1, a2⟩ := h₄
        exact ih (i + 1) c' h' tk' m' o' oW₂ _ (by omega) F' N' ho' hW₂ (fun p hp => off' p (List.mem_cons_of_mem _ (List.mem_cons_of_mem _ hp))) a1 a2 hk' hr' hP' a0
      | cont =>
        obtain ⟨c', h', tk', m', rfl, F', N', hk', hr', off', hP', a0, a1, a2⟩ := h₄
        exact ih (i + 1) c' h' tk' m' o' oW₂ _ (by omega) F' N' ho' hW₂ (fun p hp => off' p (List.mem_cons_of_mem _ (List.mem_cons_of_mem _ hp))) a1 a2 hk' hr' hP' a0
  exact key n 0 c₀ s.heap s.toks m₀ o oW v₀ (by omega) F N ho hW oI oWG oD hk (fun _ _ _ => rfl) hP (fun _ h => h)
end
end
end InvC_part
section Items_part
open PySem PySem.W PyProof.Rows PyProof.Rows.LCg
section
section
variable {prog : Program} {w : World} {K : Frag} {p : Program} {loose : List Str} {mean : ExcName → Option Value} {mg mb : Str → Option Value} {A : Around} {E : Value → Shared → Prop} {s : Shared} {h₀ : Heap} {L C : Addr} {m : Str → Option Value} {news : Led} {env : Env}
theorem comp_glob {x : Str} {pos : Pos} {scope : Scope} {cl : List (Str × Addr)} {v : Value} {Q : Value → Shared → Prop} (F : Fr h₀ L s.heap m) (X : K.In h₀) (T : Top p loose mean mg mb h₀) (e : nsIn K mainGlobals x = some (some v)) (h : Q v s)
    (hk : (compEnvC scope cl C env).scope.kind = .function := by rfl) (hx : (compEnvC scope cl C env).kindOf x = some .globalImplicit := by rfl) (hg : (compEnvC scope cl C env).globals = mainGlobals := by rfl) (hd : (x == ("__debug__" : Str)) = false := by decide) :
    wpAny (model prog w) A (eval (.Name x pos) (compEnvC scope cl C env)) Q E s :=
  Calls.Name_function_global hk hx (Calls.loadGlobal_global (env := compEnvC scope cl C env) (by rw [hg]; exact (topRead_of T).g.keeps F.keep) (mg_of X (topRead_of T).g e) h) hd
theorem comp_bi {x : Str} {pos : Pos} {scope : Scope} {cl : List (Str × Addr)} {v : Value} {Q : Value → Shared → Prop} (F : Fr h₀ L s.heap m) (X : K.In h₀) (T : Top p loose mean mg mb h₀) (e : nsIn K mainGlobals x = some none) (hv : bootBuiltins x = some v) (hn : x ≠ "__name__") (h : Q v s)
    (hk : (compEnvC scope cl C env).scope.kind = .function := by rfl) (hx : (compEnvC scope cl C env).kindOf x = some .globalImplicit := by rfl) (hg : (compEnvC scope cl C env).globals = mainGlobals := by rfl) (hb : (compEnvC scope cl C env).builtins = builtinsNs := by rfl) (hd : (x == ("__debug__" : Str)) = false := by decide) :
    wpAny (model prog w) A (eval (.Name x pos) (compEnvC scope cl C env)) Q E s :=
  Calls.Name_function_global hk hx (Calls.loadGlobal_builtin (env := compEnvC scope cl C env) (by rw [hg]; exact (topRead_of T).g.keeps F.keep) (mg_none_of X (topRead_of T).g e) (by rw [hb]; exact (topRead_of T).b.keeps F.keep) (((topRead_of T).builtins x hn).trans hv) h) hd
theorem datAll_of : ∀ {vs : List Value} {ds : List Dat}, vs.length = ds.length → (∀ (j : Nat) (v : Value) (d : Dat), vs[j]? = some v → ds[j]? = some d → DatIn news v d) → DatAll news vs ds
  | [], [], _, _ => .nil
  | v :: vs, d :: ds, h, k => .cons (k 0 v d rfl rfl) (datAll_of (Nat.succ.inj h) fun j v d h1 h2 => k (j + 1) v d h1 h2)
  | [], _ :: _, h, _ => nomatch h
  | _ :: _, [], h, _ => nomatch h
theorem datAll_ints {vs : List Value} {ns : List Int} (h : IntsAre vs ns) : DatAll news vs (ns.map Dat.int) := by
  induction h with
  | nil => exact .nil
  | cons i t r ih => exact .cons (.int i t) ih
theorem okInts (ns : List Int) : ∀ d ∈ ns.map Dat.int, kqdOk 8 d = true := by
  intro d hd
  obtain ⟨n, _, rfl⟩ := List.mem_map.mp hd
  rfl
theorem dec_int {k : Int} {ns : List Int} {inst : Decidable (Dat.int k ∈ ns.map Dat.int)} : @decide (Dat.int k ∈ ns.map Dat.int) inst = decide (k ∈ ns) := by
  by_cases q : k ∈ ns
  · rw [decide_eq_true q]; exact @decide_eq_true _ inst (List.mem_map.mpr ⟨k, q, rfl⟩)
  · rw [decide_eq_false q]
    refine @decide_eq_false _ inst fun x => ?_
    obtain ⟨n, hn, e⟩ := List.mem_map.mp x
    cases e
    exact q hn
theorem in_ints {l : Addr} {vs : List Value} {ns : List Int} {n : Nat} {k : Int} {t : Tok} {Q : Value → Shared → Prop} (N : News h₀ L s.heap news) (hm : (l, listOf vs.toArray n) ∈ news) (hi : IntsAre vs ns) (hu : A.units + 64 < cLine) (h : Q (.bool (decide (k ∈ ns))) s) :
    wpAny (model prog w) A (compareOp .In (.int k t) (.ref l)) Q E s := by
  refine kqd_isIn N hm rfl rfl (datAll_ints (news := news) hi) (fun _ h => h) (Dx := DatIn.int (news := news) k t) (fun _ h => h) (okInts ns) rfl hu ?_
  rw [dec_int]; exact h
theorem notin_ints {l : Addr} {vs : List Value} {ns : List Int} {n : Nat} {k : Int} {t : Tok} {Q : Value → Shared → Prop} (N : News h₀ L s.heap news) (hm : (l, listOf vs.toArray n) ∈ news) (hi : IntsAre vs ns) (hu : A.units + 64 < cLine) (h : Q (.bool (!decide (k ∈ ns))) s) :
    wpAny (model prog w) A (compareOp .NotIn (.int k t) (.ref l)) Q E s := by
  refine kqd_notIn N hm rfl rfl (datAll_ints (news := news) hi) (fun _ h => h) (Dx := DatIn.int (news := news) k t) (fun _ h => h) (okInts ns) rfl hu ?_
  rw [dec_int]; exact h
noncomputable def pairD (v : Nat) : Dat := .tuple [.str (nmL v), .int 1]
theorem KVs.length : ∀ {l : List Nat} {kvs : List (Str × Value)}, KVs l kvs → kvs.length = l.length
  | _, _, .nil => rfl
  | _, _, .cons _ _ r => congrArg Nat.succ r.length
theorem KVs.get : ∀ {l : List Nat} {kvs : List (Str × Value)}, KVs l kvs → ∀ {j : Nat} {k : Str} {x : Value}, kvs[j]? = some (k, x) → ∃ v t, l[j]? = some v ∧ k = nmL v ∧ x = .int 1 t
  | _, _, .nil, _, _, _, h => by simp at h
  | _, _, .cons v t _, 0, _, _, h => by cases h; exact ⟨v, t, rfl, rfl, rfl⟩
  | _, _, .cons _ _ r, j + 1, _, _, h => r.get (j := j) h
/-- list(d.items()) -/
theorem list_items {V d : Addr} {l : List Nat} {Q : Value → Shared → Prop} (hh : A.handled = none) (F : Fr h₀ L s.heap m) (N : News h₀ L s.heap news) (hV : (V, ivO d) ∈ news) (hd : DIL prog w news d l) (hl : l.length ≤ 100)
    (h : ∀ S new h' tk, Fr h₀ L h' m → News h₀ L h' (new ++ news) → Abv news new → DatIn new (.ref S) (.list (l.map pairD)) → Q (.ref S) { s with heap := h', toks := tk }) :
    wpAny (model prog w) A (call (.type "list") [.ref V]) Q E s := by
  obtain ⟨kvs, hk, o, D, hm, ho, _, _⟩ := hd
  obtain ⟨ep, hat⟩ := KdkAt.of ho
  have hkl := hk.length
  refine kdx_call (knd := strKind prog w) (kvs := kvs) (ep := ep) hh ⟨_, (N _ hV).1, rfl, rfl⟩ (hat.dictAt (N _ hm).1) (by rw [sizeLine_eq]; omega) fun h' tk acc c as keep hS hlen G hacc => ?_
  have hlo := fun (a : Addr) (ha : a ∈ as) => G.above a ha
  let tup : Addr → Obj := fun a => (h'.get? a).getD default
  have F' := F.keeps keep
  have hLs : L < s.heap.objs.size := F.ns.lt
  have fresh : ∀ a, s.heap.objs.size ≤ a → a ≠ L ∧ h₀.get? a = none := fun a ha => kdx_fresh F ha
  have tupIs : ∀ (j : Nat) (a : Addr), as[j]? = some a → ∃ (v : Nat) (t t' : Tok), l[j]? = some v ∧ h'.get? a = some (tup a) ∧ tup a = tupOf [.str (nmL v) t, .int 1 t'] 0 := by
    intro j a ha
    obtain ⟨key, k, x, h1, h2, h3⟩ := G.pairs j a ha
    obtain ⟨v, t', h4, rfl, rfl⟩ := hk.get h1
    obtain ⟨t, rfl⟩ : ∃ t, key = .str (nmL v) t := by
      cases key with
      | str x t => exact ⟨t, by have : x = nmL v := by simpa [PySem.strKind, Value.isStrOf] using h2
                                rw [this]⟩
      | _ => simp [PySem.strKind, Value.isStrOf] at h2
    have e : tup a = tupOf [.str (nmL v) t, .int 1 t'] 0 := by show (h'.get? a).getD default = _; rw [h3]; rfl
    exact ⟨v, t, t', h4, by rw [e]; exact h3, e⟩
  have ea : acc = (as.map Value.ref).toArray := by apply Array.ext'; simpa using hacc
  subst ea
  refine h s.heap.objs.size ((s.heap.objs.size, listOf (as.map Value.ref).toArray c) :: as.map fun a => (a, tup a)) h' tk F' ?_ ?_ ?_
  · intro q hq
    rcases List.mem_cons.mp hq with rfl | hq
    · exact ⟨hS, fresh _ (Nat.le_refl _)⟩
    · rcases List.mem_append.mp hq with hq | hq
      · obtain ⟨a, ha, rfl⟩ := List.mem_map.mp hq
        obtain ⟨j, hj⟩ := List.mem_iff_getElem?.mp ha
        obtain ⟨v, t, t', _, e, _⟩ := tupIs j a hj
        exact ⟨e, fresh _ (Nat.le_of_lt (hlo a ha))⟩
      · exact ⟨keep _ _ (N q hq).1, (N q hq).2⟩
  · intro q hq r hr
    have hqs := news_off N q hq
    rcases List.mem_cons.mp hr with rfl | hr
    · exact hqs
    · obtain ⟨a, ha, rfl⟩ := List.mem_map.mp hr
      exact Nat.lt_trans hqs (hlo a ha)
  · refine DatIn.list (n := c) List.mem_cons_self (datAll_of (by rw [List.length_map, List.length_map]; omega) fun j v d hv hd => ?_)
    rw [List.getElem?_map] at hv hd
    cases ha : as[j]? with
    | none => rw [ha] at hv; cases hv
    | some a =>
      obtain ⟨v', t, t', h4, _, e⟩ := tupIs j a ha
      rw [ha] at hv
      rw [h4] at hd
      cases hv
      cases hd
      refine DatIn.tuple (vs := [.str (nmL v') t, .int 1 t']) (n := 0) ?_ (.cons (.str _ t) (.cons (.int 1 t') .nil))
      have : (a, tup a) ∈ as.map fun a => (a, tup a) := List.mem_map.mpr ⟨a, List.mem_iff_getElem?.mpr ⟨j, ha⟩, rfl⟩
      rw [e] at this
      exact List.mem_cons_of_mem _ this
/-- what the letters lead down to, and what is due -/
noncomputable def downL (us : Nat → Int) (ws : List Int) (wt : Int) : Nat → List Nat
  | 0 => []
  | v + 1 => downL us ws wt v ++ (if decide (wt - us v ∈ ws) = true then [v] else [])
noncomputable def dueD (deg : Int) (wt : Int) (l : List Nat) : Dat := .tuple [.int wt, .int deg, .list (l.map pairD)]
noncomputable def dueL (us : Nat → Int) (ws : List Int) (deg : Int) (wt : Int) : List Dat := match downL us ws wt 3 with
  | [] => []
  | l => [dueD deg wt l]
noncomputable def usF (u0 u1 u2 : Int) : Nat → Int
  | 0 => u0
  | 1 => u1
  | _ => u2
noncomputable def toldD (u0 u1 u2 : Int) (e : Ent) : Dat := dueD e.2.2.2.1 (wtP u0 u1 u2 e) e.2.2.2.2
end
end
section
section
variable {prog : Program} {w : World} {A : Around} {E : Value → Shared → Prop} {s : Shared} {h₀ : Heap} {L : Addr} {m : Str → Option Value} {news : Led}
theorem truthy_lst {l : Addr} {vs : List Value} {n : Nat} {b : Bool} {Q : Bool → Shared → Prop} (N : News h₀ L s.heap news) (hm : (l, listOf vs.toArray n) ∈ news) (hz : vs.length ≤ 1000) (hb : (!vs.isEmpty) = b) (h : Q b { s with toks := s.toks + 1 + 1 }) : wpAny (model prog w) A (truthy (.ref l)) Q E s := by
  refine wpAny_truthy_list ⟨_, (N _ hm).1, rfl, _, rfl⟩ (by rw [List.size_toArray]; omega) ?_
  have e : (!vs.toArray.isEmpty) = b := by rw [← hb]; cases vs <;> rfl
  rw [e]; exact h
theorem ints_get : ∀ {vs : List Value} {ns : List Int}, IntsAre vs ns → ∀ {i : Nat} {v : Value}, vs[i]? = some v → ∃ k t, ns[i]? = some k ∧ v = .int k t
  | _, _, .nil, _, _, h => by simp at h
  | _, _, .cons k t _, 0, _, h => by cases h; exact ⟨k, t, rfl, rfl⟩
  | _, _, .cons _ _ r, i + 1, _, h => ints_get r (i := i) h
theorem iter_zip {Z TI TO : Addr} {f0 : Value} {Q : Value → Shared → Prop} (N : News h₀ L s.heap news) (hm : (Z, zipO f0 TI TO) ∈ news) (h : Q (.ref Z) s) : wpAny (model prog w) A (pyIter (.ref Z)) Q E s := wpAny_pyIter_zip (N _ hm).1 h
theorem xyz_at {i c : Nat} (h : (Str.ofString "xyz").cps[i]? = some c) : i < 3 ∧ (⟨#[c]⟩ : Str) = nmL i := by
  have e : (Str.ofString "xyz").cps = #[120, 121, 122] := by decide +kernel
  have e0 : (⟨#[120]⟩ : Str) = Str.ofString "x" := by decide +kernel
  have e1 : (⟨#[121]⟩ : Str) = Str.ofString "y" := by decide +kernel
  have e2 : (⟨#[122]⟩ : Str) = Str.ofString "z" := by decide +kernel
  rw [e] at h
  match i, h with
  | 0, h => cases h; exact ⟨by decide, e0⟩
  | 1, h => cases h; exact ⟨by decide, e1⟩
  | 2, h => cases h; exact ⟨by decide, e2⟩
  | i + 3, h => simp at h
theorem us_at {u0 u1 u2 : Int} {q0 q1 q2 : Tok} {i : Nat} {v : Value} (h : [Value.int u0 q0, .int u1 q1, .int u2 q2][i]? = some v) : i < 3 ∧ ∃ q, v = .int (usF u0 u1 u2 i) q := by
  match i, h with
  | 0, h => cases h; exact ⟨by decide, _, rfl⟩
  | 1, h => cases h; exact ⟨by decide, _, rfl⟩
  | 2, h => cases h; exact ⟨by decide, _, rfl⟩
  | i + 3, h => simp at h
theorem down_step {us : Nat → Int} {ws : List Int} {wt : Int} {i : Nat} {b : Bool} (hb : decide (wt - us i ∈ ws) = b) : downL us ws wt (i + 1) = downL us ws wt i ++ (if b = true then [i] else []) := by rw [downL, hb]
theorem dueL_eq {us : Nat → Int} {ws : List Int} {deg wt : Int} : dueL us ws deg wt = if (downL us ws wt 3).isEmpty = true then [] else [dueD deg wt (downL us ws wt 3)] := by
  unfold dueL
  cases h : downL us ws wt 3 <;> rfl
theorem take_flat {α β : Type} (f : α → List β) {l : List α} {i : Nat} {x : α} (h : l[i]? = some x) : (l.take (i + 1)).flatMap f = (l.take i).flatMap f ++ f x := by
  have hi : i < l.length := by
    rcases Nat.lt_or_ge i l.length with q | q
    · exact q
    · rw [List.getElem?_eq_none q] at h; cases h
  have e : l.take (i + 1) = l.take i ++ [x] := by
    rw [List.take_add_one, h]; rfl
  rw [e, List.flatMap_append]; simp
theorem allLt_lt {d : Addr} : ∀ {l : Led}, AllLt d l → ∀ p ∈ l, p.1 < d
  | [], _, _, h => nomatch h
  | _ :: _, h, p, hp => by
    rcases List.mem_cons.mp hp with rfl | hp
    · exact h.1
    · exact allLt_lt h.2 p hp
end
end
section
theorem downL_len {us : Nat → Int} {ws : List Int} {wt : Int} : ∀ n, (downL us ws wt n).length ≤ n
  | 0 => Nat.le_refl _
  | n + 1 => by
    rw [downL, List.length_append]
    have := downL_len (us := us) (ws := ws) (wt := wt) n
    split <;> simp <;> omega
end
section
section
variable {prog : Program} {w : World} {A : Around} {E : Value → Shared → Prop} {s : Shared} {h₀ : Heap} {L : Addr} {m : Str → Option Value} {news : Led}
theorem cend_tup {front g newL : Led} {V : Addr × Obj} {T : Addr} {o : Obj} {Rel : Led → Nat → Value → Prop} {i : Nat} {h' : Heap} {tk : Nat} (F : Fr h₀ L h' m) (N : News h₀ L h' ((T, o) :: (newL ++ (V :: (front ++ g))))) (l : ∀ p ∈ newL ++ (V :: (front ++ g)), p.1 < T) (ab : Abv (V :: (front ++ g)) newL) (hR : Rel ((T, o) :: newL ++ g) i (.ref T)) :
    CEnd h₀ L s m (front ++ g) g front Rel i (.ref T) { s with heap := h', toks := tk } :=
  ⟨(T, o) :: newL, h', tk, rfl, F, news_sub N fun p hp => by
    simp only [List.cons_append, List.mem_cons, List.mem_append] at hp ⊢
    grind, Abv.cons (fun q hq => l q (List.mem_append.mpr (.inr (List.mem_cons_of_mem _ hq)))) (ab.sub fun p hp => List.mem_cons_of_mem _ hp), hR⟩
theorem okDue (d wt : Int) (l : List Nat) : kqdOk 8 (dueD d wt l) = true := by
  have q : ∀ x, PyData.strOk (nmL x) = true := fun x => match x with
    | 0 => by decide +kernel
    | 1 => by decide +kernel
    | _ + 2 => by show PyData.strOk (Str.ofString "z") = true; decide +kernel
  simp [dueD, kqdOk, pairD, q]
theorem eq_due {a b : Addr} {xs ys : List Value} {n k : Nat} {ds es : List Dat} {n₁ n₂ : Led} {Q : Value → Shared → Prop} (N : News h₀ L s.heap news) (ma : (a, listOf xs.toArray n) ∈ news) (mb : (b, listOf ys.toArray k) ∈ news) (Da : DatAll n₁ xs ds) (sa : ∀ p ∈ n₁, p ∈ news) (Db : DatAll n₂ ys es) (sb : ∀ p ∈ n₂, p ∈ news) (e : ds = es)
    (ok : ∀ d ∈ ds, kqdOk 8 d = true) (hu : A.units + 64 < cLine) (h : Q (.bool true) s) : wpAny (model prog w) A (compareOp .Eq (.ref a) (.ref b)) Q E s := by
  subst e
  exact kqd_eq N ma rfl rfl Da sa mb rfl rfl Db sb ok ok hu (by simpa using h)
end
end
section
theorem newTup {prog : Program} {w : World} {A : Around} {E : Value → Shared → Prop} {s : Shared} {h₀ : Heap} {L : Addr} {m : Str → Option Value} {news : Led} {vs : List Value} {Q : Value → Shared → Prop} (F : Fr h₀ L s.heap m) (N : News h₀ L s.heap news)
    (h : ∀ T h', Fr h₀ L h' m → News h₀ L h' ((T, tupOf vs 0) :: news) → (∀ p ∈ news, p.1 < T) → Q (.ref T) { s with heap := h' }) (hz : vs.length ≤ 1000) : wpAny (model prog w) A (newTuple vs) Q E s :=
  newTuple_N F N (fun h' F' N' => h _ h' F' N' (news_off N)) (by rw [sizeLine_eq]; omega)
end
section
/-- marks: the walk stands still here -/
noncomputable def EqGo (prog : Program) (w : World) (A : Around) (a b : Addr) (Q : Value → Shared → Prop) (E : Value → Shared → Prop) (s : Shared) : Prop := wpAny (model prog w) A (compareOp .Eq (.ref a) (.ref b)) Q E s
theorem eq_mark {prog : Program} {w : World} {A : Around} {a b : Addr} {Q : Value → Shared → Prop} {E : Value → Shared → Prop} {s : Shared} (h : EqGo prog w A a b Q E s) : wpAny (model prog w) A (compareOp .Eq (.ref a) (.ref b)) Q E s := h
end
end Items_part
section TupIdx_part
open PySem PySem.W PyProof.Rows PyProof.Rows.LCg
section
section
variable {prog : Program} {w : World} {A : Around} {E : Value → Shared → Prop} {s : Shared} {h₀ : Heap} {L : Addr} {m : Str → Option Value} {news : Led}
theorem tup_index {a : Addr} {x0 x1 x2 k : Int} {t0 t1 t2 t : Tok} {n : Nat} {i : Nat} {Q : Value → Shared → Prop} (N : News h₀ L s.heap news) (hm : (a, tupOf [.int x0 t0, .int x1 t1, .int x2 t2] n) ∈ news)
    (hi : (i = 0 ∧ x0 = k) ∨ (i = 1 ∧ x0 ≠ k ∧ x1 = k) ∨ (i = 2 ∧ x0 ≠ k ∧ x1 ≠ k ∧ x2 = k)) (h : ∀ t tk, Q (.int i t) { s with toks := tk }) :
    wpAny (model prog w) A (call (.builtin "tuple.index") [.ref a, .int k t]) Q E s := by
  have ha := (N _ hm).1
  have e : ∀ x y : Int, x = y → (x == y) = true := fun x y h => beq_iff_eq.mpr h
  have e' : ∀ x y : Int, x ≠ y → (x == y) = false := fun x y h => beq_eq_false_iff_ne.mpr h
  refine wpAny_call_entry PySem.F.slot_tuple_index ⟨_, ha, rfl⟩ PySem.F.entry_tuple_index ?_ (PySem.F.args_tuple_index_2 _ _)
  show wpAny _ _ (Builtin.Tuple.tupleItemsOf (.ref a) >>= _) _ _ s
  refine wpAny_bind (wpAny_tupleItemsOf ha rfl ?_)
  refine wpAny_bind (wpAny_pure ?_)
  refine wpAny_bind (wpAny_pure ?_)
  refine wpAny_bind ?_
  rw [Std.Legacy.Range.forIn_eq_forIn_range']
  simp only [Std.Legacy.Range.size, List.size_toArray, List.length_cons, List.length_nil, Nat.min_self, Nat.sub_zero, Nat.zero_add, Nat.add_sub_cancel, Nat.div_one]
  have step : ∀ {α : Type} {x : Int} {t' : Tok} {j : Nat} {k' : ForInStep (Option PySem.Fin × Unit) → Sem α} {R : α → Shared → Prop},
      (x ≠ k → wpAny (model prog w) A.in1 (k' (.yield (none, ()))) R E s) → (x = k → ∀ t tk, wpAny (model prog w) A.in1 (k' (.done (some (.done (.ret (.int j t))), ()))) R E { s with toks := tk }) →
      wpAny (model prog w) A.in1 ((do
          let b ← eqBool (Value.int x t') (Value.int k t)
          if b = true then do
              let r ← retInt (j : Int)
              pure (ForInStep.done (some r, ()))
            else pure (ForInStep.yield (none, ()))) >>= k') R E s := by
    intro α x t' j k' R h1 h2
    refine wpAny_bind (wpAny_bind (wpAny_eqBool_int ?_))
    by_cases q : x = k
    · rw [e _ _ q]
      simp only [if_true]
      refine wpAny_bind ?_
      unfold retInt
      refine wpAny_bind (wpAny_mkInt (wpAny_pure (wpAny_pure (h2 q _ _))))
    · rw [e' _ _ q]
      simp only [Bool.false_eq_true, if_false]
      exact wpAny_pure (h1 q)
  have r3 : List.range' 0 (1 + 1 + 1) = [0, 1, 2] := rfl
  rw [r3]
  simp only [List.forIn_cons, List.forIn_nil]
  refine step (fun n0 => ?_) fun y0 t tk => ?_
  · refine step (fun n1 => ?_) fun y1 t tk => ?_
    · refine step (fun n2 => ?_) fun y2 t tk => ?_
      · exfalso; omega
      · refine wpAny_pure (wpAny_pure ⟨_, rfl, ?_⟩)
        have : i = 2 := by omega
        subst this; exact h _ _
    · refine wpAny_pure (wpAny_pure ⟨_, rfl, ?_⟩)
      have : i = 1 := by omega
      subst this; exact h _ _
  · refine wpAny_pure (wpAny_pure ⟨_, rfl, ?_⟩)
    have : i = 0 := by omega
    subst this; exact h _ _
end
end
section
section
variable {prog : Program} {w : World} {A : Around} {E : Value → Shared → Prop} {s : Shared} {h₀ : Heap} {L : Addr} {m : Str → Option Value} {news : Led}
theorem tup_method {a : Addr} {its : List Value} {n : Nat} {name : Str} {id : String} {pl : Sem Bool} {Q : Value × List Value → Shared → Prop} (N : News h₀ L s.heap news) (hm : (a, tupOf its n) ∈ news) (slot : Slot "tuple" name id) (hty : typeOf (.builtin id) = pure (.type "method_descriptor"))
    (h : Q (.builtin id, [.ref a]) s) : wpAny (model prog w) A (getMethod (.ref a) name pl) Q E s :=
  getMethod_builtin ⟨_, (N _ hm).1, rfl⟩ PySem.F.plainAttrs_tuple slot hty (fun b e => by cases e; exact ⟨_, (N _ hm).1, rfl⟩) h
end
end
section
noncomputable def IterGo (prog : Program) (w : World) (A : Around) (a : Addr) (Q : Value → Shared → Prop) (E : Value → Shared → Prop) (s : Shared) : Prop := wpAny (model prog w) A (pyIter (.ref a)) Q E s
theorem iter_mark {prog : Program} {w : World} {A : Around} {a : Addr} {Q : Value → Shared → Prop} {E : Value → Shared → Prop} {s : Shared} (h : IterGo prog w A a Q E s) : wpAny (model prog w) A (pyIter (.ref a)) Q E s := h
end
end TupIdx_part
section Split_part
open PySem PySem.W PyProof.Rows PyProof.Rows.LCg
section
/-- the rest of a block, after a cut -/
noncomputable def RestGo (prog : Program) (w : World) (A : Around) (l : List Stmt) (env : Env) (Q : Flow → Shared → Prop) (E : Value → Shared → Prop) (s : Shared) : Prop := wpAny (model prog w) A (execs l env) Q E s
noncomputable def SplitPost (prog : Program) (w : World) (A : Around) (l : List Stmt) (env : Env) (Q : Flow → Shared → Prop) (E : Value → Shared → Prop) (f : Flow) (s : Shared) : Prop := match f with
  | .next => RestGo prog w A l env Q E s
  | f => Q f s
section
variable {prog : Program} {w : World} {A : Around} {E : Value → Shared → Prop} {Q : Flow → Shared → Prop} {env : Env}
theorem split_wp {Γ : Ctx} (hΓ : Γ.In A) : ∀ (n : Nat) (l : List Stmt) (p : Pos) (s : Shared),
    Sem.wp (model prog w) Γ (execs (l.take n) env) (fun f _ s => SplitPost prog w A (l.drop n) env Q E f s) (fun e _ s => E e s) p s → Sem.wp (model prog w) Γ (execs l env) (fun f _ s => Q f s) (fun e _ s => E e s) p s
  | 0, l, p, s, h => by
    have h' : RestGo prog w A l env Q E s := h
    exact h' Γ p hΓ
  | n + 1, [], p, s, h => by
    have h' : RestGo prog w A [] env Q E s := h
    exact h' Γ p hΓ
  | n + 1, st :: rest, p, s, h => by
    rw [List.take_succ_cons, execs_cons, Sem.wp_bind'] at h
    rw [execs_cons, Sem.wp_bind']
    refine Sem.wp_mono (model prog w) Γ _ (fun f p' s' h' => ?_) (fun _ _ _ h' => h') _ _ h
    cases f with
    | next => exact split_wp hΓ n rest p' s' h'
    | ret v => exact h'
    | brk => exact h'
    | cont => exact h'
theorem execs_split {l : List Stmt} {s : Shared} (n : Nat) (h : wpAny (model prog w) A (execs (l.take n) env) (SplitPost prog w A (l.drop n) env Q E) E s) : wpAny (model prog w) A (execs l env) Q E s :=
  fun Γ p hΓ => split_wp hΓ n l p s (h Γ p hΓ)
theorem split_next {l : List Stmt} {s : Shared} (h : wpAny (model prog w) A (execs l env) Q E s) : SplitPost prog w A l env Q E .next s := h
end
end
section
noncomputable def likeB (e e' : Ent) : Bool := e.1 == e'.1 && (e.2.1 == e'.2.1 && e.2.2.1 == e'.2.2.1)
theorem likeB_iff {e e' : Ent} : likeB e e' = true ↔ like3 e e' := by
  unfold likeB like3
  simp only [Bool.and_eq_true, beq_iff_eq]
/-- a product put to what is told (the last one first) -/
noncomputable def putE (e : Ent) (v : Nat) : List Ent → Option (List Ent)
  | [] => some [e]
  | x :: r => if likeB x e = true then (match mergeL x.2.2.2.2 v with
      | some l => some ((x.1, x.2.1, x.2.2.1, x.2.2.2.1, l) :: r)
      | none => none) else some (e :: x :: r)
/-- the loop of _law_above -/
noncomputable def abGo (us : Nat → Int) (ws : List Int) (en : Int → Ent) : Nat → List Key → List Ent → Option (List Ent)
  | 0, _, _ => none
  | _ + 1, [], told => some told
  | n + 1, (p, v, b) :: tl, told =>
    if (decide (0 ≤ v ∧ v < 3) && decide (0 ≤ b ∧ b < ws.length)) = true then
      match putE (mulE (en (ws.getD b.toNat 0)) v.toNat) v.toNat told with
      | some told' => abGo us ws en n (if b + 1 < ws.length then siftK ((-(ws.getD (b + 1).toNat 0) - us v.toNat, v, b + 1) :: tl) else siftK (popL ((p, v, b) :: tl))) told'
      | none => none
    else none
end
section
/-- the addresses of a frame's cells -/
abbrev cel1 (L : Addr) : Nat := L + 1
abbrev cel2 (L : Addr) : Nat := (cel1 L) + 1
abbrev cel3 (L : Addr) : Nat := (cel2 L) + 1
end
section
section
variable {prog : Program} {w : World} {A : Around} {E : Value → Shared → Prop} {s : Shared} {h₀ : Heap} {L : Addr} {m : Str → Option Value} {news : Led}
theorem cend_new {front g newL : Led} {Rel : Led → Nat → Value → Prop} {i : Nat} {y : Value} {h' : Heap} {tk : Nat} (F : Fr h₀ L h' m) (N : News h₀ L h' (newL ++ (front ++ g))) (ab : Abv (front ++ g) newL) (hR : Rel (newL ++ g) i y) :
    CEnd h₀ L s m (front ++ g) g front Rel i y { s with heap := h', toks := tk } :=
  ⟨newL, h', tk, rfl, F, news_sub N fun p hp => by
    simp only [List.mem_append] at hp ⊢
    rcases hp with hp | hp | hp <;> simp [hp], ab, hR⟩
theorem cend_one {front g : Led} {T : Addr} {o : Obj} {Rel : Led → Nat → Value → Prop} {i : Nat} {y : Value} {h' : Heap} {tk : Nat} (F : Fr h₀ L h' m) (N : News h₀ L h' ((T, o) :: (front ++ g))) (l : ∀ p ∈ front ++ g, p.1 < T) (hR : Rel ((T, o) :: g) i y) :
    CEnd h₀ L s m (front ++ g) g front Rel i y { s with heap := h', toks := tk } :=
  cend_new (newL := [(T, o)]) F N (Abv.one l) hR
theorem cend_none {front g : Led} {Rel : Led → Nat → Value → Prop} {i : Nat} {y : Value} {h' : Heap} {tk : Nat} (F : Fr h₀ L h' m) (N : News h₀ L h' (front ++ g)) (hR : Rel g i y) :
    CEnd h₀ L s m (front ++ g) g front Rel i y { s with heap := h', toks := tk } :=
  cend_new (newL := []) F N Abv.nil hR
theorem us_get {u0 u1 u2 : Int} {q0 q1 q2 : Tok} {v : Int} (h : 0 ≤ v ∧ v < 3) : ∃ q, [Value.int u0 q0, .int u1 q1, .int u2 q2][v.toNat]? = some (.int (usF u0 u1 u2 v.toNat) q) := by
  have : v = 0 ∨ v = 1 ∨ v = 2 := three_int h
  rcases this with rfl | rfl | rfl
  · exact ⟨_, rfl⟩
  · exact ⟨_, rfl⟩
  · exact ⟨_, rfl⟩
theorem three_refs {vs : List Value} {P : Nat → Addr → Prop} (hl : vs.length = 3) (h : ∀ i v, vs[i]? = some v → ∃ x, v = .ref x ∧ P i x) : ∃ a b c, vs = [.ref a, .ref b, .ref c] ∧ P 0 a ∧ P 1 b ∧ P 2 c := by
  rcases vs with _ | ⟨a, _ | ⟨b, _ | ⟨c, _ | ⟨d, l⟩⟩⟩⟩ <;> simp at hl
  obtain ⟨x, rfl, hx⟩ := h 0 a rfl
  obtain ⟨y, rfl, hy⟩ := h 1 b rfl
  obtain ⟨z, rfl, hz⟩ := h 2 c rfl
  exact ⟨x, y, z, rfl, hx, hy, hz⟩
theorem refs_of {vs : List Value} {n : Nat} {P : Nat → Addr → Prop} (hl : vs.length = n) (h : ∀ i v, vs[i]? = some v → ∃ x, v = .ref x ∧ P i x) : ∃ as : List Addr, vs = as.map Value.ref ∧ as.length = n ∧ ∀ i x, as[i]? = some x → P i x := by
  induction vs generalizing n P with
  | nil => exact ⟨[], rfl, hl, fun i x e => by simp at e⟩
  | cons v vs ih =>
    obtain ⟨x, rfl, hx⟩ := h 0 v rfl
    cases n with
    | zero => simp at hl
    | succ n =>
      obtain ⟨as, rfl, hn, hP⟩ := ih (n := n) (P := fun i => P (i + 1)) (by simpa using hl) fun i v e => h (i + 1) v e
      exact ⟨x :: as, rfl, by rw [List.length_cons, hn], fun i y e => by
        cases i with
        | zero => cases e; exact hx
        | succ i => exact hP i y e⟩
theorem mem_of_get {α : Type} {l : List α} {i : Nat} {x : α} (h : l[i]? = some x) : x ∈ l := List.mem_iff_getElem?.mpr ⟨i, h⟩
end
end
section
theorem HI.uniq {h₀ h : Heap} {L : Addr} {g : Led} (N : News h₀ L h g) {a : Addr} {k l : Key} (hk : HI g a k) (hl : HI g a l) : k = l := by
  obtain ⟨s, t, u, n, hm⟩ := hk
  obtain ⟨s', t', u', n', hm'⟩ := hl
  have e := (N _ hm).1.symm.trans (N _ hm').1
  simp at e
  obtain ⟨k1, k2, k3⟩ := k
  obtain ⟨l1, l2, l3⟩ := l
  simp at e
  simp [e]
theorem key_fun {h₀ h : Heap} {L : Addr} {g : Led} (N : News h₀ L h g) {a b c : Addr} {k0 k1 k2 : Key} (h0 : HI g a k0) (h1 : HI g b k1) (h2 : HI g c k2) (d1 : k0.2.1 ≠ k1.2.1) (d2 : k0.2.1 ≠ k2.2.1) (d3 : k1.2.1 ≠ k2.2.1) : ∃ kf : Addr → Key, HI g a (kf a) ∧ HI g b (kf b) ∧ HI g c (kf c) ∧ kf a = k0 ∧ kf b = k1 ∧ kf c = k2 := by
  have e1 : b ≠ a := fun e => by subst e; exact d1 (congrArg (fun k => k.2.1) (h0.uniq N h1))
  have e2 : c ≠ a := fun e => by subst e; exact d2 (congrArg (fun k => k.2.1) (h0.uniq N h2))
  have e3 : c ≠ b := fun e => by subst e; exact d3 (congrArg (fun k => k.2.1) (h1.uniq N h2))
  refine ⟨fun x => if x = a then k0 else if x = b then k1 else k2, ?_, ?_, ?_, ?_, ?_, ?_⟩ <;> simp [e1, e2, e3, h0, h1, h2]
noncomputable def WhileGo (prog : Program) (w : World) (A : Around) (test : Expr) (body : List Stmt) (pos : Pos) (env : Env) (Q : Flow → Shared → Prop) (E : Value → Shared → Prop) (s : Shared) : Prop := wpAny (model prog w) A (exec (.While test body [] pos) env) Q E s
theorem while_mark {prog : Program} {w : World} {A : Around} {test : Expr} {body : List Stmt} {pos : Pos} {env : Env} {Q : Flow → Shared → Prop} {E : Value → Shared → Prop} {s : Shared} (h : WhileGo prog w A test body pos env Q E s) : wpAny (model prog w) A (exec (.While test body [] pos) env) Q E s := h
section
variable {prog : Program} {w : World} {A : Around} {E : Value → Shared → Prop} {s : Shared} {env : Env} {body : List Stmt} {Q : Flow → Shared → Prop} {h₀ : Heap} {D1 D2 L : Addr}
noncomputable def WTEnd {σ : Type} (h₀ : Heap) (L : Addr) (s : Shared) (D1 D2 : Addr) (Ob1 Ob2 : σ → Obj) (G : σ → Led) (stored : List Str) (m₀ : Str → Option Value) (base : Led) (P : σ → Prop) (μ : σ → Nat) (Q : Flow → Shared → Prop) (n : Nat) (f : Flow) (s₂ : Shared) : Prop :=
  match f with
  | .ret v => Q (.ret v) s₂
  | .brk => Q .next s₂
  | _ => ∃ (c' : σ) (h' : Heap) (tk : Nat) (m' : Str → Option Value), s₂ = { s with heap := h', toks := tk } ∧ Fr h₀ L h' m' ∧ News h₀ L h' ((D1, Ob1 c') :: (D2, Ob2 c') :: G c') ∧ (∀ z, stored.contains z = false → m' z = m₀ z) ∧ (∀ p ∈ base, p ∈ G c') ∧ (∀ p ∈ G c', p.1 ≠ D1) ∧ (∀ p ∈ G c', p.1 ≠ D2) ∧ P c' ∧ μ c' < n
theorem wt_end {σ : Type} {Ob1 Ob2 : σ → Obj} {G : σ → Led} {stored : List Str} {m₀ m' : Str → Option Value} {base : Led} {P : σ → Prop} {μ : σ → Nat} {n : Nat} {h' : Heap} {tk : Nat} (c' : σ) (F : Fr h₀ L h' m') (N : News h₀ L h' ((D1, Ob1 c') :: (D2, Ob2 c') :: G c')) (hr : ∀ z, stored.contains z = false → m' z = m₀ z)
    (hb : ∀ p ∈ base, p ∈ G c') (o1 : ∀ p ∈ G c', p.1 ≠ D1) (o2 : ∀ p ∈ G c', p.1 ≠ D2) (hP : P c') (hm : μ c' < n) : WTEnd h₀ L s D1 D2 Ob1 Ob2 G stored m₀ base P μ Q n .next { s with heap := h', toks := tk } := ⟨c', h', tk, m', rfl, F, N, hr, hb, o1, o2, hP, hm⟩
theorem while_two {σ : Type} (Ob1 Ob2 : σ → Obj) (G : σ → Led) (stored : List Str) (P : σ → Prop) (μ : σ → Nat) (c₀ : σ) {m₀ : Str → Option Value} {test : Expr} {pos : Pos}
    (F : Fr h₀ L s.heap m₀) (N : News h₀ L s.heap ((D1, Ob1 c₀) :: (D2, Ob2 c₀) :: G c₀)) (h12 : D1 ≠ D2) (o1 : ∀ p ∈ G c₀, p.1 ≠ D1) (o2 : ∀ p ∈ G c₀, p.1 ≠ D2) (hP : P c₀)
    (turn : ∀ (d1 d2 : Addr), d1 = D1 → d2 = D2 → ∀ (c : σ) (u : Str → Option Value) (h : Heap) (tk : Nat), P c → (∀ p ∈ G c₀, p ∈ G c) → d1 ≠ d2 → (∀ p ∈ G c, p.1 ≠ d1) → (∀ p ∈ G c, p.1 ≠ d2) → Fr h₀ L h (fun z => if stored.contains z then u z else m₀ z) → News h₀ L h ((d1, Ob1 c) :: (d2, Ob2 c) :: G c) →
      wpAny (model prog w) A (isTrue test env (eval test env)) (fun b s₂ =>
        if b = true then RestGo prog w A body env (WTEnd h₀ L s d1 d2 Ob1 Ob2 G stored m₀ (G c₀) P μ Q (μ c)) E s₂ else Q .next s₂) E { s with heap := h, toks := tk })
    (hE : PassesOwn (model prog w) A env E) : WhileGo prog w A test body pos env Q E s := by
  refine While_inv2 (fun n m nx => ∃ c : σ, nx = (D1, Ob1 c) :: (D2, Ob2 c) :: G c ∧ μ c = n ∧ (∀ z, stored.contains z = false → m z = m₀ z) ∧ (∀ p ∈ G c₀, p ∈ G c) ∧ (∀ p ∈ G c, p.1 ≠ D1) ∧ (∀ p ∈ G c, p.1 ≠ D2) ∧ P c) F N ⟨c₀, rfl, rfl, fun _ _ => rfl, fun _ h => h, o1, o2, hP⟩ ?_ hE
  rintro n m₁ nx h tk F₁ N₁ ⟨c, rfl, rfl, hr, hb, o1', o2', hP'⟩
  have em : m₁ = (fun z => if stored.contains z then m₁ z else m₀ z) := by
    funext y
    cases h3 : stored.contains y with
    | true => simp
    | false => simp only [Bool.false_eq_true, if_false]; exact hr y h3
  refine wpAny_mono (turn D1 D2 rfl rfl c m₁ h tk hP' hb h12 o1' o2' (em ▸ F₁) N₁) (fun b s₂ p => ?_) fun _ _ x => x
  cases b with
  | false => simpa using p
  | true =>
    simp only [if_true] at p ⊢
    unfold RestGo at p
    refine wpAny_mono p (fun f s₃ q => ?_) fun _ _ x => x
    cases f with
    | ret v => exact q
    | brk => exact q
    | next =>
      obtain ⟨c', h', tk', m', rfl, F', N', a1, a2, a3, a4, a5, a6⟩ := q
      exact ⟨h', tk', m', _, μ c', rfl, F', N', a6, c', rfl, rfl, a1, a2, a3, a4, a5⟩
    | cont =>
      obtain ⟨c', h', tk', m', rfl, F', N', a1, a2, a3, a4, a5, a6⟩ := q
      exact ⟨h', tk', m', _, μ c', rfl, F', N', a6, c', rfl, rfl, a1, a2, a3, a4, a5⟩
end
end
section
noncomputable def CallGo (prog : Program) (w : World) (A : Around) (f : Addr) (vs : List Value) (Q : Value → Shared → Prop) (E : Value → Shared → Prop) (s : Shared) : Prop := wpAny (model prog w) A (call (.ref f) vs) Q E s
theorem call_mark {prog : Program} {w : World} {A : Around} {f : Addr} {vs : List Value} {Q : Value → Shared → Prop} {E : Value → Shared → Prop} {s : Shared} (h : CallGo prog w A f vs Q E s) : wpAny (model prog w) A (call (.ref f) vs) Q E s := h
theorem abGo_step {us : Nat → Int} {ws : List Int} {en : Int → Ent} {n : Nat} {p v b : Int} {tl : List Key} {told out : List Ent} (h : abGo us ws en n ((p, v, b) :: tl) told = some out) :
    ∃ n', n = n' + 1 ∧ (0 ≤ v ∧ v < 3) ∧ (0 ≤ b ∧ b < ws.length) ∧ ∃ told', putE (mulE (en (ws.getD b.toNat 0)) v.toNat) v.toNat told = some told' ∧
      abGo us ws en n' (if b + 1 < ws.length then siftK ((-(ws.getD (b + 1).toNat 0) - us v.toNat, v, b + 1) :: tl) else siftK (popL ((p, v, b) :: tl))) told' = some out := by
  cases n with
  | zero => cases h
  | succ n =>
    rw [abGo] at h
    split at h
    · rename_i q
      rw [Bool.and_eq_true, decide_eq_true_eq, decide_eq_true_eq] at q
      split at h
      · rename_i told' e
        exact ⟨n, rfl, q.1, q.2, told', e, h⟩
      · cases h
    · cases h
theorem abGo_end {us : Nat → Int} {ws : List Int} {en : Int → Ent} {n : Nat} {told out : List Ent} (h : abGo us ws en n [] told = some out) : told = out := by
  cases n with
  | zero => cases h
  | succ n => rw [abGo] at h; cases h; rfl
/-- what is new lies above -/
noncomputable def Trk (old g : Led) : Prop := ∀ p ∈ g, p ∈ old ∨ ∀ q ∈ old, q.1 < p.1
theorem Trk.cons {old g : Led} {x : Addr × Obj} (h : ∀ q ∈ old, q.1 < x.1) (k : Trk old g) : Trk old (x :: g) := fun p hp => by
  rcases List.mem_cons.mp hp with rfl | hp
  · exact .inr h
  · exact k p hp
theorem Trk.app {old new g : Led} (h : ∀ p ∈ new, ∀ q ∈ old, q.1 < p.1) (k : Trk old g) : Trk old (new ++ g) := fun p hp => (List.mem_append.mp hp).elim (fun hp => .inr (h p hp)) (k p)
theorem Trk.refl {old : Led} : Trk old old := fun _ hp => .inl hp
end
section
section
variable {prog : Program} {w : World} {A : Around} {E : Value → Shared → Prop} {s : Shared} {h₀ : Heap} {L : Addr} {m : Str → Option Value} {news news' : Led}
theorem truthy_consL {l : Addr} {v : Value} {vs : List Value} {n : Nat} {Q : Bool → Shared → Prop} (N : News h₀ L s.heap news) (hm : (l, listOf (v :: vs).toArray n) ∈ news) (hz : vs.length ≤ 900) (h : Q true { s with toks := s.toks + 1 + 1 }) : wpAny (model prog w) A (truthy (.ref l)) Q E s :=
  truthy_lst N hm (by rw [List.length_cons]; omega) rfl h
theorem truthy_nilL {l : Addr} {n : Nat} {Q : Bool → Shared → Prop} (N : News h₀ L s.heap news) (hm : (l, listOf ([] : List Value).toArray n) ∈ news) (h : Q false { s with toks := s.toks + 1 + 1 }) : wpAny (model prog w) A (truthy (.ref l)) Q E s :=
  truthy_lst N hm (by decide) rfl h
theorem truthy_snocL {l : Addr} {v : Value} {vs : List Value} {n : Nat} {Q : Bool → Shared → Prop} (N : News h₀ L s.heap news) (hm : (l, listOf (vs ++ [v]).toArray n) ∈ news) (hz : vs.length ≤ 900) (h : Q true { s with toks := s.toks + 1 + 1 }) : wpAny (model prog w) A (truthy (.ref l)) Q E s :=
  truthy_lst N hm (by rw [List.length_append, List.length_singleton]; omega) (by cases vs <;> rfl) h
theorem lst_last {value slice : Expr} {a : Addr} {vs : List Value} {v : Value} {n : Nat} {u : Tok} {Q : Value → Shared → Prop} (N : News h₀ L s.heap news) (hm : (a, listOf (vs ++ [v]).toArray n) ∈ news) (h : Q v s)
    (hs : subscripted slice false (.ref a) (.int (-1) u) = operate [.ref a, .int (-1) u] (getItem (.ref a) (.int (-1) u)) := by with_unfolding_all rfl) :
    wpAny (model prog w) A (subscriptTail value slice (.ref a) (.int (-1) u)) Q E s :=
  have hl : s.heap.IsList a (vs ++ [v]).toArray := ⟨_, News.get N hm, rfl, _, rfl⟩
  tail_any hl.typeIs slot_list_getitem.lookup (wpAny_getItem_list_neg hl (by decide) (by rw [List.size_toArray, List.length_append, List.length_singleton]; omega) (by decide) (by
    have e : (-1 + (((vs ++ [v]).toArray.size : Nat) : Int)).toNat = vs.length := by rw [List.size_toArray, List.length_append, List.length_singleton]; omega
    rw [e, List.getElem?_toArray]
    simp) h) hs
theorem kl_last_snoc : ∀ (vs : List Value) (v : Value), kl_last (vs ++ [v]) = some (vs, v)
  | [], _ => rfl
  | x :: vs, v => by
    rw [List.cons_append, kl_last, kl_last_snoc vs v]
theorem pop_last {D : Addr} {vs : List Value} {v : Value} {n : Nat} {Q : Value → Shared → Prop} (F : Fr h₀ L s.heap m) (N : News h₀ L s.heap news) (U : Upd D (listOf (vs ++ [v]).toArray n) (listOf vs.toArray (n + 1)) news news') (hz : vs.length ≤ 900)
    (h : ∀ h', Fr h₀ L h' m → News h₀ L h' news' → Q v { s with heap := h' }) : wpAny (model prog w) A (call (.builtin "list.pop") [.ref D]) Q E s :=
  kl_pop F N (kl_last_snoc vs v) U (by rw [sizeLine_eq]; simp; omega) h
end
end
section
section
variable {prog : Program} {w : World} {K : Frag} {p : Program} {loose : List Str} {mean : ExcName → Option Value} {mg mb : Str → Option Value}
theorem HI.lt {g : Led} {a : Addr} {k : Key} {T : Addr} (h : HI g a k) (l : ∀ p ∈ g, p.1 < T) : a ≠ T := let ⟨_, _, _, _, hm⟩ := h; Nat.ne_of_lt (l _ hm)
theorem hr_upd {f : Addr} (hf : FunAt K 6 f .none .none) (b_len : nsIn K mainGlobals (Str.ofString "len") = some none) {fd : Addr} (hfd : FunAt K 8 fd .none .none) {fu : Addr} (hfu : FunAt K 9 fu .none .none) {hp a1 a4 : Addr} {as : List Addr} {kq : Addr → Key} {key : Key} {n : Nat} {rest : Led}
   (off : ∀ p ∈ rest, p.1 ≠ hp) (hl : as.length ≤ 2) (ha : ∀ a ∈ as, HI rest a (kq a)) (hne : ∀ a ∈ as, a ≠ a4) (ha4 : HI rest a4 key) :
   Spec prog w K p loose mean mg mb f [.ref hp, .ref a4] ((hp, listOf (refs (a1 :: as)) n) :: rest) 6 60 (fun r news' => r = .ref a1 ∧ ∃ (as2 : List Addr) (n2 : Nat) (k2 : Addr → Key), news' = (hp, listOf (refs as2) n2) :: rest ∧ as2.length ≤ 3 ∧ (∀ a ∈ as2, HI rest a (k2 a)) ∧ as2.map k2 = siftK (key :: as.map kq)) := by
  have e4 : (fun x => if x = a4 then key else kq x) a4 = key := if_pos rfl
  have em : as.map (fun x => if x = a4 then key else kq x) = as.map kq := List.map_congr_left fun a h => if_neg (hne a h)
  have ha' : ∀ a ∈ as, HI rest a ((fun x => if x = a4 then key else kq x) a) := fun a h => by
    show HI rest a (if a = a4 then key else kq a)
    rw [if_neg (hne a h)]; exact ha a h
  have ha4' : HI rest a4 ((fun x => if x = a4 then key else kq x) a4) := by rw [e4]; exact ha4
  refine (hr_gen hf b_len hfd hfu (a1 := a1) off hl ha' ha4').mono fun r n ⟨h1, h2⟩ => ⟨h1, _, _, (fun x => if x = a4 then key else kq x), h2, ?_, fun a h => ?_, ?_⟩
  · rw [sift_len, List.length_cons]; omega
  · rcases List.mem_cons.mp (sift_mem h) with rfl | h
    · exact ha4'
    · exact ha' a h
  · rw [sift_map (by rw [List.length_cons]; omega), List.map_cons, if_pos rfl, em]
theorem hq_upd {f : Addr} (hf : FunAt K 5 f .none .none) (b_len : nsIn K mainGlobals (Str.ofString "len") = some none) {fd : Addr} (hfd : FunAt K 8 fd .none .none) {fu : Addr} (hfu : FunAt K 9 fu .none .none) {hp a1 : Addr} {as : List Addr} {kq : Addr → Key} {n : Nat} {rest : Led}
   (off : ∀ p ∈ rest, p.1 ≠ hp) (hl : as.length ≤ 2) (ha : ∀ a ∈ a1 :: as, HI rest a (kq a)) :
   Spec prog w K p loose mean mg mb f [.ref hp] ((hp, listOf (refs (a1 :: as)) n) :: rest) 6 60 (fun r news' => r = .ref a1 ∧ ∃ (as2 : List Addr) (n2 : Nat) (k2 : Addr → Key), news' = (hp, listOf (refs as2) n2) :: rest ∧ as2.length ≤ 3 ∧ (∀ a ∈ as2, HI rest a (k2 a)) ∧ as2.map k2 = siftK (popL (kq a1 :: as.map kq))) := by
  have hl3 : (popL (a1 :: as)).length ≤ 3 := Nat.le_trans pop_len (by rw [List.length_cons]; omega)
  refine (hq_gen hf b_len hfd hfu off hl ha).mono fun r n ⟨h1, n', h2⟩ => ⟨h1, _, n', kq, h2, ?_, fun a h => ha a (pop_mem (sift_mem h)), ?_⟩
  · rw [sift_len]; exact hl3
  · rw [sift_map hl3, pop_map, List.map_cons]
end
end
section
noncomputable def wB : Stmt → List Stmt
  | .While _ b _ _ => b
  | .For _ _ b _ _ => b
  | _ => []
theorem fr_name {h₀ h : Heap} {L : Addr} {m : Str → Option Value} {x : Str} {v : Value} (F : Fr h₀ L h m) (e : m x = some v) : Fr h₀ L h (fun y => if y = x then some v else m y) := by
  have em : (fun y => if y = x then some v else m y) = m := by
    funext y
    by_cases q : y = x
    · rw [if_pos q, q, e]
    · rw [if_neg q]
  rw [em]; exact F
end
end Split_part
section TupSl_part
open PySem PySem.W PyProof.Rows PyProof.Rows.LCg
section
section
variable {prog : Program} {w : World} {A : Around} {E : Value → Shared → Prop} {s : Shared}
theorem adjust_upto (b n : Nat) (hb : b ≤ n) : Builtin.Slice.sliceAdjust none (some (b : Int)) 1 (n : Int) = (0, (b : Int)) := by
  unfold Builtin.Slice.sliceAdjust
  have h1 : ¬ ((1 : Int) < 0) := by omega
  have h2 : ¬ ((b : Int) < 0) := by omega
  simp only [h1, h2, if_false]
  congr 1
  omega
theorem places_upto (b : Nat) : Builtin.Slice.slicePlaces 0 (b : Int) 1 = b := by
  unfold Builtin.Slice.slicePlaces
  have h1 : (1 : Int) > 0 := by omega
  simp only [h1, if_true, Int.ediv_one]
  split <;> omega
theorem sliceApplied_upto {sl : Addr} {b n : Nat} {u : Tok} {Q : Int × Int × Nat → Shared → Prop} (hs : s.heap.IsSliceOf sl .none (.int b u) .none) (hb : b ≤ n) (h : Q (0, 1, b) s) :
    wpAny (model prog w) A (Builtin.Slice.sliceApplied (.ref sl) (pure (n : Int))) Q E s := by
  obtain ⟨os, hos, hcs, hds⟩ := id hs
  unfold Builtin.Slice.sliceApplied Builtin.Slice.sliceFields
  refine wpAny_bind (wpAny_bind (wpAny_field hos hds (x := .none) rfl (wpAny_bind (wpAny_field hos hds (x := .int b u) rfl (wpAny_bind (wpAny_field hos hds (x := .none) rfl (wpAny_pure ?_)))))))
  refine wpAny_bind (slicePart_none ?_)
  show wpAny _ _ (if ((1 : Int) == 0) = true then _ else _) _ _ s
  rw [if_neg (by decide)]
  refine wpAny_bind (slicePart_none (wpAny_bind (slicePart_int (wpAny_bind (wpAny_pure ?_)))))
  show wpAny _ _ (match Builtin.Slice.sliceAdjust none (some (b : Int)) 1 (n : Int) with | (lo, hi) => pure (lo, (1 : Int), Builtin.Slice.slicePlaces lo hi 1)) _ _ s
  rw [adjust_upto b n hb]
  show wpAny _ _ (pure ((0 : Int), (1 : Int), Builtin.Slice.slicePlaces 0 (b : Int) 1)) _ _ s
  rw [places_upto b]
  exact wpAny_pure h
theorem pick_upto (xs : Array Value) (b : Nat) (hb : b ≤ xs.size) : ((List.range b).filterMap fun (k : Nat) => xs[((0 : Int) + (k : Int) * 1).toNat]?).toArray = (xs.toList.take b).toArray := by
  have e : (fun (k : Nat) => xs[((0 : Int) + (k : Int) * 1).toNat]?) = fun k => xs[0 + k]? := by
    funext k
    have : ((0 : Int) + (k : Int) * 1).toNat = 0 + k := by omega
    rw [this]
  rw [e]
  have := pick_run xs 0 b
  rw [List.filterMap_map] at this
  have e2 : ((fun x => xs[x]?) ∘ fun x => 0 + x) = fun k => xs[0 + k]? := rfl
  rw [e2] at this
  rw [this]
  simp
theorem getItem_tuple_upto {t sl : Addr} {items : Array Value} {b : Nat} {u : Tok} {Q : Value → Shared → Prop} (ht : IsTup s.heap t items) (hs : s.heap.IsSliceOf sl .none (.int b u) .none) (hb : b < items.size)
    (h : Q (.ref s.heap.objs.size) { s with heap := s.heap.push { cls := .type "tuple", data := .seq (items.toList.take b).toArray } })
    (hsz : items.size ≤ sizeLine := by size_fits) : wpAny (model prog w) A (getItem (.ref t) (.ref sl)) Q E s := by
  have hdrop : sizeOk (.seq (items.toList.take b).toArray) := by
    show (items.toList.take b).toArray.size ≤ sizeLine
    rw [List.size_toArray, List.length_take, Array.length_toList]
    omega
  obtain ⟨os, hos, hcs, hds⟩ := id hs
  have hTs : s.TypeIs (.ref sl) "slice" := ⟨os, hos, hcs⟩
  unfold getItem
  try with_reducible refine wpAny_holding ?_
  first | refine wpAny_bind (wpAny_pure ?_) | skip
  refine wpAny_bind (wpAny_sequenceKey ht.typeIs (by decide) ?_)
  refine wpAny_bind (wpAny_callSpecial?_slot (name := Str.ofString "__getitem__") ht.typeIs slot_tuple_getitem
    (wpAny_call_entry slot_tuple_getitem ht.typeIs entry_tuple_getitem ?_ (args_tuple_getitem _ _)))
  show wpAny _ _ (Builtin.Tuple.tupleItemsOf (.ref t) >>= _) _ _ s
  refine wpAny_bind (tupleItemsOf_ ht ?_)
  refine wpAny_bind (wpAny_typeOf hTs ?_)
  rw [if_pos (by decide)]
  refine wpAny_bind (sliceApplied_upto hs (Nat.le_of_lt hb) ?_)
  have hno : ¬ (((0 : Int) == 0 && (1 : Int) == 1 && b == items.size) = true) := by
    have : (b == items.size) = false := by rw [beq_eq_false_iff_ne]; omega
    rw [this]; simp
  show wpAny _ _ (if ((0 : Int) == 0 && (1 : Int) == 1 && b == items.size) = true then _ else _) _ _ s
  rw [if_neg hno, pick_upto items b (Nat.le_of_lt hb)]
  first
    | exact wpAny_bind (m := Builtin.Tuple.tupleExact _) (wpAny_newObj_type (wpAny_pure ⟨_, rfl, wpAny_pure h⟩) hdrop)
    | exact wpAny_bind (m := Builtin.Tuple.tupleExact _) (wpAny_newObj_type (wpAny_bind (wpAny_pure (wpAny_pure ⟨_, rfl, wpAny_pure h⟩))) hdrop)
    | exact wpAny_bind (wpAny_bind (m := Builtin.Tuple.tupleExact _) (wpAny_newObj_type (wpAny_pure (wpAny_pure ⟨_, rfl, wpAny_pure h⟩)) hdrop))
    | exact wpAny_bind (wpAny_bind (m := Builtin.Tuple.tupleExact _) (wpAny_newObj_type (wpAny_pure ⟨_, rfl, wpAny_pure h⟩) hdrop))
variable {h₀ : Heap} {L : Addr} {m : Str → Option Value} {news : Led}
theorem slice_tuple_upto {value slice : Expr} {t : Addr} {vs : List Value} {n b : Nat} {u : Tok} {Q : Value → Shared → Prop}
    (F : Fr h₀ L s.heap m) (N : News h₀ L s.heap news) (hm : (t, tupOf vs n) ∈ news) (hb : b < vs.length) (hz : vs.length ≤ 900)
    (h : ∀ T h', Fr h₀ L h' m → News h₀ L h' ((T, tupOf (vs.take b) 0) :: news) → (∀ p ∈ news, p.1 < T) → Q (.ref T) { s with heap := h' })
    (hs : subscripted slice false (.ref t) (.ref s.heap.objs.size) = operate [.ref s.heap.objs.size, .ref t] (getItem (.ref t) (.ref s.heap.objs.size)) := by with_unfolding_all rfl)
    (hg : ∀ r, letTemporaryGo value (.ref t) r = pure () := by intro _; with_unfolding_all rfl) :
    wpAny (model prog w) A (subscriptTail value slice (.ref t) (.ref s.heap.objs.size)) Q E { s with heap := s.heap.push { cls := .type "slice", data := .fields #[.none, .int (b : Int) u, .none] } } := by
  have ht : IsTup s.heap t vs.toArray := ⟨_, News.get N hm, rfl, _, rfl⟩
  have ht' : IsTup (s.heap.push { cls := .type "slice", data := .fields #[.none, .int (b : Int) u, .none] }) t vs.toArray := ht.keeps fun _ _ e => Heap.get?_push_of_some _ e
  refine subscriptTail_ops (s := { s with heap := s.heap.push { cls := .type "slice", data := .fields #[.none, .int (b : Int) u, .none] } }) ht'.typeIs slot_tuple_getitem.lookup
    (getItem_tuple_upto ht' (Heap.IsSliceOf.new ..) (by rw [List.size_toArray]; exact hb) ?_ (by rw [List.size_toArray, sizeLine_eq]; omega)) hs hg
  have N1 := News.push (F.push { cls := .type "slice", data := .fields #[.none, .int (b : Int) u, .none] }) (N.grown fun _ _ e => Heap.get?_push_of_some _ e) (tupOf (vs.take b) 0)
  rw [Heap.size_push] at N1
  show Q (.ref (s.heap.push _).objs.size) _
  rw [Heap.size_push]
  exact h _ _ ((F.push _).push _) N1 fun p hp => Nat.lt_succ_of_lt (news_off N p hp)
theorem add_tups {t b : Addr} {v w' : Value} {vs ws : List Value} {n k : Nat} {Q : Value → Shared → Prop} (F : Fr h₀ L s.heap m) (N : News h₀ L s.heap news) (ht : (t, tupOf (v :: vs) n) ∈ news) (hb : (b, tupOf (w' :: ws) k) ∈ news) (hz : vs.length + ws.length ≤ 900)
    (h : ∀ T h', Fr h₀ L h' m → News h₀ L h' ((T, tupOf (v :: vs ++ w' :: ws) 0) :: news) → (∀ p ∈ news, p.1 < T) → Q (.ref T) { s with heap := h' }) :
    wpAny (model prog w) A (binaryOp .Add (.ref t) (.ref b)) Q E s :=
  add_tuples F N (vs := v :: vs) (ws := w' :: ws) ⟨_, News.get N ht, rfl, _, rfl⟩ ⟨_, News.get N hb, rfl, _, rfl⟩ (fun e => nomatch e) (fun _ e => nomatch e) (fun _ _ h' F' N' => h _ h' F' N' (news_off N))
    (by rw [sizeLine_eq, List.length_cons, List.length_cons]; omega)
end
end
section
theorem half_led {h₀ h : Heap} {L tl hp T : Addr} {x y o : Obj} {nlA G8 : Led} (N : News h₀ L h (nlA ++ (T, o) :: (tl, x) :: (hp, y) :: G8)) (ab : ∀ q ∈ (T, o) :: (tl, x) :: (hp, y) :: G8, ∀ p ∈ nlA, q.1 < p.1) (l : tl < T ∧ hp < T ∧ AllLt T G8) (oT : ∀ p ∈ G8, p.1 ≠ tl) (oH : ∀ p ∈ G8, p.1 ≠ hp) :
    ∃ G9, G9 = nlA ++ (T, o) :: G8 ∧ News h₀ L h ((tl, x) :: (hp, y) :: G9) ∧ (∀ p ∈ G9, p.1 ≠ tl) ∧ (∀ p ∈ G9, p.1 ≠ hp) ∧ (∀ p ∈ G8, p ∈ G9) ∧ (∀ p ∈ nlA, p ∈ G9) ∧ (T, o) ∈ G9 := by
  refine ⟨_, rfl, news_sub N ?_, ?_, ?_, fun p hp => List.mem_append.mpr (.inr (List.mem_cons_of_mem _ hp)), fun p hp => List.mem_append.mpr (.inl hp), List.mem_append.mpr (.inr List.mem_cons_self)⟩
  · intro p hp
    simp only [List.mem_cons, List.mem_append] at hp ⊢
    rcases hp with h | h | h | h | h <;> simp [h]
  · intro p hp
    rcases List.mem_append.mp hp with h | h
    · exact Nat.ne_of_gt (ab _ (List.mem_cons_of_mem _ List.mem_cons_self) _ h)
    · rcases List.mem_cons.mp h with rfl | h
      · exact Nat.ne_of_gt l.1
      · exact oT p h
  · intro p hp9
    rcases List.mem_append.mp hp9 with h | h
    · exact Nat.ne_of_gt (ab _ (List.mem_cons_of_mem _ (List.mem_cons_of_mem _ List.mem_cons_self)) _ h)
    · rcases List.mem_cons.mp h with rfl | h
      · exact Nat.ne_of_gt l.2.1
      · exact oH p h
theorem half_fin {h₀ h : Heap} {L tl hp T T2 T3 : Addr} {x x0 x1 y o o2 o3 : Obj} {nlA G8 G9 nl7 gc : Led} (e9 : G9 = nlA ++ (T, o) :: G8) (e8 : nl7 ++ gc = G8) (N : News h₀ L h ((T3, o3) :: (T2, o2) :: (tl, x) :: (hp, y) :: G9)) (ab7 : ∀ q ∈ (tl, x0) :: (hp, y) :: gc, ∀ p ∈ nl7, q.1 < p.1)
    (abA : ∀ q ∈ (T, o) :: (tl, x1) :: (hp, y) :: G8, ∀ p ∈ nlA, q.1 < p.1) (l : tl < T ∧ hp < T ∧ AllLt T G8) (l2 : tl < T2 ∧ hp < T2 ∧ AllLt T2 G9) (l3 : T2 < T3 ∧ tl < T3 ∧ hp < T3 ∧ AllLt T3 G9) :
    ∃ nw, News h₀ L h ((tl, x) :: (hp, y) :: (nw ++ gc)) ∧ (∀ q ∈ (tl, x0) :: (hp, y) :: gc, ∀ p ∈ nw, q.1 < p.1) ∧ (∀ p ∈ G9, p ∈ nw ++ gc) ∧ (T3, o3) ∈ nw ++ gc := by
  subst e9 e8
  refine ⟨(T3, o3) :: (T2, o2) :: (nlA ++ (T, o) :: nl7), news_sub N ?_, ?_, ?_, ?_⟩
  · intro p hp
    simp only [List.mem_cons, List.mem_append] at hp ⊢
    rcases hp with h | h | ((h | h | h | h | h) | h) <;> simp [h]
  · intro q hq p hp9
    have hq8 : ∃ o', (q.1, o') ∈ (T, o) :: (tl, x1) :: (hp, y) :: (nl7 ++ gc) := by
      rcases List.mem_cons.mp hq with rfl | hq
      · exact ⟨x1, List.mem_cons_of_mem _ List.mem_cons_self⟩
      rcases List.mem_cons.mp hq with rfl | hq
      · exact ⟨y, List.mem_cons_of_mem _ (List.mem_cons_of_mem _ List.mem_cons_self)⟩
      · exact ⟨q.2, List.mem_cons_of_mem _ (List.mem_cons_of_mem _ (List.mem_cons_of_mem _ (List.mem_append.mpr (.inr hq))))⟩
    have hlt : ∀ {X : Addr} {G : Led}, tl < X → hp < X → AllLt X G → (∀ p ∈ gc, p ∈ G) → q.1 < X := by
      intro X G a b c d
      rcases List.mem_cons.mp hq with rfl | hq
      · exact a
      rcases List.mem_cons.mp hq with rfl | hq
      · exact b
      · exact allLt_lt c _ (d _ hq)
    rcases List.mem_cons.mp hp9 with rfl | hp9
    · exact hlt l3.2.1 l3.2.2.1 l3.2.2.2 fun p hp => by simp [hp]
    rcases List.mem_cons.mp hp9 with rfl | hp9
    · exact hlt l2.1 l2.2.1 l2.2.2 fun p hp => by simp [hp]
    rcases List.mem_append.mp hp9 with h | h
    · obtain ⟨o', ho⟩ := hq8
      exact abA _ ho _ h
    rcases List.mem_cons.mp h with rfl | h
    · exact hlt l.1 l.2.1 l.2.2 fun p hp => by simp [hp]
    · exact ab7 _ hq _ h
  · intro p hp
    simp only [List.mem_cons, List.mem_append] at hp ⊢
    rcases hp with h | h | h | h <;> simp [h]
  · simp
end
end TupSl_part
end P2
section P3
theorem words14 : True := by
  k_with_none
  k_with "own k_ne" => (first | with_reducible assumption | exact neL0 (by with_reducible assumption) | exact neG0 (by with_reducible assumption) | exact neL1 (by with_reducible assumption) | exact neG1 (by with_reducible assumption) | exact neL2 (by with_reducible assumption) | exact neG2 (by with_reducible assumption) | exact neL3 (by with_reducible assumption) | exact neG3 (by with_reducible assumption) | exact neL4 (by with_reducible assumption) | exact neG4 (by with_reducible assumption) | exact neL5 (by with_reducible assumption) | exact neG5 (by with_reducible assumption) | exact neL6 (by with_reducible assumption) | exact neG6 (by with_reducible assumption) | exact neL7 (by with_reducible assumption) | exact neG7 (by with_reducible assumption) | exact neL8 (by with_reducible assumption) | exact neG8 (by with_reducible assumption) | exact neL9 (by with_reducible assumption) | exact neG9 (by with_reducible assumption) | exact neL10 (by with_reducible assumption) | exact neG10 (by with_reducible assumption) | exact neL11 (by with_reducible assumption) | exact neG11 (by with_reducible assumption) | exact neL12 (by with_reducible assumption) | exact neG12 (by with_reducible assumption) | exact neL13 (by with_reducible assumption) | exact neG13 (by with_reducible assumption) | (refine neN ?_; (try dsimp only); omega))
  k_with "own k_all" => (first | with_reducible assumption | exact allLt_ne (by with_reducible assumption) | exact allLt_ne (And.right (by with_reducible assumption)) | exact allLt_ne (And.right (And.right (by with_reducible assumption))) | exact allLt_ne (And.right (And.right (And.right (by with_reducible assumption)))) | exact allLt_ne (And.right (And.right (And.right (And.right (by with_reducible assumption))))) | exact allLt_ne (And.right (And.right (And.right (And.right (And.right (by with_reducible assumption)))))) | exact allLt_ne (And.right (And.right (And.right (And.right (And.right (And.right (by with_reducible assumption))))))) | exact allLt_ne (And.right (And.right (And.right (And.right (And.right (And.right (And.right (by with_reducible assumption)))))))) | exact allLt_ne (And.right (And.right (And.right (And.right (And.right (And.right (And.right (And.right (by with_reducible assumption))))))))))
  k_with "own exec For" => ((k_here; k_dflt (refine for_start ?_)))
  k_with "own exec For Name Name cons nil" => ((k_here; k_dflt (refine for_start ?_)))
  k_with "own exec For Name Call cons nil" => ((k_here; k_dflt (refine for_start ?_)))
  k_with "own exec For Tuple Attribute cons nil" => ((k_here; k_dflt (refine for_start ?_)))
  k_with "own exec For Tuple Call cons nil" => ((k_here; k_dflt (refine for_start ?_)))
  k_with "own exec For Tuple" => ((k_here; k_dflt (refine for_start ?_)))
  k_with "own exec For Name" => ((k_here; k_dflt (refine for_start ?_)))
  k_with "own ForPost" => ((dsimp only [ForPost]))
  k_with "own ForNext" => ((k_dflt (first | with_reducible refine for_done ?_ | with_reducible refine for_name ?_)))
  k_with "own pyNext ref" => ((k_here; k_dflt (first
  | (refine' next_rng ?F_k ?N_k ?U_k ?l_k ?_; (case F_k => k_asm); (case N_k => k_asm); (case U_k => k_upd); (case l_k => decide); k_whole; intro h'k t'k tk'k F'k N'k; (try k_sweep))
  | (refine' next_rng_end ?H_k ?F_k ?N_k ?m_k ?D_k ?l_k ?_; (case H_k => exact rfl); (case F_k => k_asm); (case N_k => k_asm); (case m_k => k_mem); (case D_k => k_upd); (case l_k => decide); k_whole; intro h'k F'k N'k; (try k_sweep))
  | (refine' next_lst ?F_k ?N_k ?U_k ?o_k ?m_k ?x_k ?_; (case F_k => k_asm); (case N_k => k_asm); (case U_k => k_updF); (case o_k => with_reducible assumption); (case m_k => k_mem); (case x_k => first | (simp only [List.getElem?_toArray, List.getElem?_cons_zero, List.getElem?_cons_succ]; done) | (simp only [List.getElem?_toArray, List.getElem?_cons_zero, List.getElem?_cons_succ]; exact rfl)); k_whole; intro h'k o'k F'k N'k ho'k; (try k_sweep))
  | (refine' next_lst_end ?H_k ?F_k ?N_k ?I_k ?D_k ?o_k ?m_k ?x_k ?_; (case H_k => exact rfl); (case F_k => k_asm); (case N_k => k_asm); (case I_k => k_mem); (case D_k => k_upd); (case o_k => with_reducible assumption); (case m_k => k_mem); (case x_k => rfl); k_whole; intro h'k F'k N'k; (try k_sweep))
  | (refine' next_tup ?F_k ?N_k ?U_k ?o_k ?m_k ?x_k ?_; (case F_k => k_asm); (case N_k => k_asm); (case U_k => k_updF); (case o_k => with_reducible assumption); (case m_k => k_mem); (case x_k => first | (simp only [List.getElem?_cons_zero, List.getElem?_cons_succ]; done) | (simp only [List.getElem?_cons_zero, List.getElem?_cons_succ]; exact rfl)); k_whole; intro h'k o'k F'k N'k ho'k; (try k_sweep))
  | (refine' next_tup_end ?H_k ?F_k ?N_k ?I_k ?D_k ?o_k ?m_k ?x_k ?_; (case H_k => exact rfl); (case F_k => k_asm); (case N_k => k_asm); (case I_k => k_mem); (case D_k => k_upd); (case o_k => with_reducible assumption); (case m_k => k_mem); (case x_k => rfl); k_whole; intro h'k F'k N'k; (try k_sweep)))))
  k_with "own pyIter ref" => ((k_here; k_dflt (first
  | (refine' iter_rit ?N_k ?m_k ?_; (case N_k => k_asm); (case m_k => k_mem); k_whole)
  | (refine' iter_lst ?F_k ?N_k ?m_k ?_; (case F_k => k_asm); (case N_k => k_asm); (case m_k => k_mem); k_whole; intro I'k h'k o'k F'k N'k ho'k l1k; (try k_lt l1k); (try k_sweep))
  | (refine' iter_tup ?F_k ?N_k ?m_k ?_; (case F_k => k_asm); (case N_k => k_asm); (case m_k => k_mem); k_whole; intro I'k h'k o'k F'k N'k ho'k l1k; (try k_lt l1k); (try k_sweep))
  | (refine' iter_rng ?r_k ?s_k ?n_k ?F_k ?N_k ?_; (case r_k => with_reducible assumption); (case s_k => decide); (case n_k => exact Eq.refl _); (case F_k => k_asm); (case N_k => k_asm); k_whole; intro I'k h'k F'k N'k l1k; (try k_lt l1k); (try k_sweep)))))
  k_with "own call type:reversed" => ((k_here; k_dflt (refine' rev_rng ?F_k ?N_k ?r_k ?n_k ?s_k ?_; (case F_k => k_asm); (case N_k => k_asm); (case r_k => with_reducible assumption); (case n_k => exact Eq.refl _); (case s_k => decide); k_whole; intro I'k h'k F'k N'k l1k; (try k_lt l1k); (try k_sweep))))
  k_with "own call builtin:dict.items" => ((k_here; k_dflt (refine' items_call ?F_k ?N_k ?m_k ?d_k ?l_k ?_; (case F_k => k_asm); (case N_k => k_asm); (case m_k => k_mem); (case d_k => with_reducible assumption); (case l_k => with_reducible assumption); k_whole; intro V'k h'k F'k N'k l1k; (try k_lt l1k); (try k_sweep))))
  k_with "own getMethod ref" => ((k_here; (with_reducible show wpAny _ _ (getMethod (Value.ref _) (PySem.Str.ofString "items") _) _ _ _); k_dflt (refine' getMethod_tab_any (knd := PySem.strKind _ _) (enc := PyData.str) ?k1_k ?k2_k ?_; (case k1_k => exact rfl); (case k2_k => k_tabat); k_whole)))
  k_with "own call builtin:len" => ((k_here; (with_reducible show wpAny _ _ (call (Value.builtin "len") [Value.ref _]) _ _ _); k_dflt (refine' kst_len ?N_k ?m_k ?e_k ?f_k ?_; (case N_k => k_asm); (case m_k => k_mem); (case e_k => first | exact IntsAre.length (by with_reducible assumption) | with_reducible assumption); (case f_k => omega); k_whole)))
  k_with "own eval ListComp" => ((k_here; k_dflt (refine comp_eval (by with_unfolding_all rfl) (by decide) (by rfl) (by decide) ?_)))
  k_with "own exec Assign cons ListComp" => ((k_here; k_dflt (refine comp_assign (by with_unfolding_all rfl) (by with_unfolding_all rfl) (by decide) (by rfl) (by decide) ?_)))
  k_with "own Exists" => ((k_here; k_dflt (refine' ⟨_, _, _, _, _, _, rfl, ?F_k, ?N_k, ?m_k, ?s_k, ?_⟩; (case F_k => k_asm); (case N_k => k_asm); (case m_k => k_mem); (case s_k => first | exact .inl ⟨_, _, by with_reducible assumption⟩ | exact .inr (.inl ⟨_, _, by with_reducible assumption⟩) | exact .inr (.inr (.inl ⟨_, _, _, rfl⟩)) | exact .inr (.inr (.inr ⟨_, _, _, rfl⟩))); k_whole); intro C'k D'k oC'k h'k tk'k F'k N'k hC'k l1k l2k; (try k_lt l1k); (try k_lt l2k); (try k_sweep)))
  k_with "own CompNext" => ((k_dflt (first | with_reducible refine comp_next ?_ | with_reducible refine comp_name ?_)))
  k_with "own storeName" => ((k_here; k_dflt (refine' comp_store ?a_k ?b_k ?F_k ?N_k ?U_k ?n_k ?_; (case a_k => exact rfl); (case b_k => exact rfl); (case F_k => k_asm); (case N_k => k_asm); (case U_k => k_updF); (case n_k => with_reducible assumption); k_whole; intro h'k oC'k F'k N'k hC'k; (try k_sweep))))
  k_with "own eval Name" => ((k_here; (with_reducible show wpAny _ _ (eval (Expr.Name _ _) (compEnvC _ _ _ _)) _ _ _); k_dflt (first
  | (refine' comp_local ?N_k ?m_k ?n_k ?x_k ?_ ?a_k ?b_k ?c_k; (case a_k => exact rfl); (case b_k => exact rfl); (case c_k => decide); (case N_k => k_asm); (case m_k => k_mem); (case n_k => with_reducible assumption); (case x_k => exact rfl); k_whole)
  | (refine' comp_cell ?N_k ?l_k ?m_k ?d_k ?_ ?a_k ?b_k ?c_k; (case a_k => exact rfl); (case b_k => exact rfl); (case c_k => decide); (case l_k => exact rfl); (case N_k => k_asm); (case m_k => k_mem); (case d_k => with_reducible assumption); k_whole)
  | (refine' comp_free ?N_k ?l_k ?m_k ?d_k ?_ ?a_k ?b_k ?c_k ?e_k; (case a_k => exact rfl); (case b_k => exact rfl); (case c_k => decide); (case e_k => decide); (case l_k => exact rfl); (case N_k => k_asm); (case m_k => k_mem); (case d_k => with_reducible assumption); k_whole))))
  k_with "own compPost" => ((k_here; k_dflt (first
  | (refine' comp_done ?F_k ?N_k ?C_k ?n_k ?D_k ?_; (case F_k => k_asm); (case N_k => k_asm); (case C_k => k_mem); (case n_k => with_reducible assumption); (case D_k => k_upd); k_whole; intro h'k F'k N'k; (try k_sweep))
  | (refine' comp_doneA ?a_k ?b_k ?F_k ?N_k ?C_k ?n_k ?D_k ?_; (case a_k => exact rfl); (case b_k => exact rfl); (case F_k => k_asm); (case N_k => k_asm); (case C_k => k_mem); (case n_k => with_reducible assumption); (case D_k => k_upd); k_whole; intro h'k tk'k F'k N'k; (try k_sweep)))))
  k_with "own call builtin:list.append" => ((k_here; k_dflt (refine' append_V ?k1_k ?k2_k ?k3_k ?_ ?z_k; (case k1_k => k_asm); (case k2_k => k_asm); (case k3_k => k_upd); (case z_k => first | omega | exact Nat.le_of_ble_eq_true rfl | (simp only [List.length_append, List.length_map, List.length_reverse, List.length_singleton]; omega)); k_whole); intro h'k F'k N'k; (try k_sweep)))
  k_with "own eval Name" => ((k_here; (with_reducible show wpAny _ _ (eval (Expr.Name _ _) (compEnvC _ _ _ _)) _ _ _); k_dflt (first
  | (refine' comp_glob ?F_k ?X_k ?T_k ?e_k ?_ ?a_k ?b_k ?c_k ?d_k; (case a_k => exact rfl); (case b_k => exact rfl); (case c_k => exact rfl); (case d_k => decide); (case F_k => k_asm); (case X_k => k_asm); (case T_k => k_asm); (case e_k => with_reducible assumption); k_whole)
  | (refine' comp_bi ?F_k ?X_k ?T_k ?e_k ?v_k ?n_k ?_ ?a_k ?b_k ?c_k ?g_k ?d_k; (case a_k => exact rfl); (case b_k => exact rfl); (case c_k => exact rfl); (case g_k => exact rfl); (case d_k => decide); (case F_k => k_asm); (case X_k => k_asm); (case T_k => k_asm); (case e_k => with_reducible assumption); (case v_k => boot_fast); (case n_k => decide); k_whole))))
  k_with "own newTuple" => ((k_here; k_dflt (refine' newTup ?F_k ?N_k ?_ ?z_k; (case F_k => k_asm); (case N_k => k_asm); (case z_k => exact Nat.le_of_ble_eq_true rfl); k_whole); intro T'k h'k F'k N'k l1k; (try k_lt l1k); (try k_sweep)))
  trivial
open PySem PySem.W PyProof.Rows
theorem words15 : True := by
  k_with "own pyIter ref" => ((k_here; k_dflt (first
  | (refine' iter_rit ?N_k ?m_k ?_; (case N_k => k_asm); (case m_k => k_mem); k_whole)
  | (refine' iter_lst ?F_k ?N_k ?m_k ?_; (case F_k => k_asm); (case N_k => k_asm); (case m_k => k_mem); k_whole; intro I'k h'k o'k F'k N'k ho'k l1k; (try k_lt l1k); (try k_sweep))
  | (refine' iter_tup ?F_k ?N_k ?m_k ?_; (case F_k => k_asm); (case N_k => k_asm); (case m_k => k_mem); k_whole; intro I'k h'k o'k F'k N'k ho'k l1k; (try k_lt l1k); (try k_sweep))
  | (refine' iter_rng ?r_k ?s_k ?n_k ?F_k ?N_k ?_; (case r_k => with_reducible assumption); (case s_k => decide); (case n_k => exact Eq.refl _); (case F_k => k_asm); (case N_k => k_asm); k_whole; intro I'k h'k F'k N'k l1k; (try k_lt l1k); (try k_sweep)))))
  k_with "own subscriptTail Name Name ref int" => ((k_here; (with_reducible show wpAny _ _ (subscriptTail _ _ (Value.ref _) (Value.int _ _)) _ _ _); k_dflt (refine' int_at ?N_k ?m_k ?i_k ?k_k ?l_k ?_ ?z_k; (case z_k => with_unfolding_all rfl); (case N_k => k_asm); (case m_k => k_mem); (case i_k => with_reducible assumption); (case k_k => first | omega | (simp only [pcol_len, pcols_len]; omega)); (case l_k => first | (simp only [pcol_len, pcols_len]; omega) | omega); k_whole); intro _))
  k_with "own subscriptTail Subscript" => ((k_here; (with_reducible show wpAny _ _ (subscriptTail _ _ (Value.ref _) (Value.int _ _)) _ _ _); k_dflt (refine' int_at ?N_k ?m_k ?i_k ?k_k ?l_k ?_ ?z_k; (case z_k => with_unfolding_all rfl); (case N_k => k_asm); (case m_k => k_mem); (case i_k => with_reducible assumption); (case k_k => first | omega | (simp only [pcol_len, pcols_len]; omega)); (case l_k => first | (simp only [pcol_len, pcols_len]; omega) | omega); k_whole); intro _))
  k_with "own subscriptTail Name Name ref int" => ((k_here; (with_reducible show wpAny _ _ (subscriptTail _ _ (Value.ref _) (Value.int _ _)) _ _ _); k_dflt (refine' lst_at ?N_k ?m_k ?a_k ?b_k ?x_k ?_ ?z_k; (case z_k => with_unfolding_all rfl); (case N_k => k_asm); (case m_k => k_mem); (case a_k => omega); (case b_k => omega); (case x_k => with_reducible assumption); k_whole)))
  k_with "own subscriptTail Name BinOp ref int" => ((k_here; (with_reducible show wpAny _ _ (subscriptTail _ _ (Value.ref _) (Value.int _ _)) _ _ _); k_dflt (refine' lst_at ?N_k ?m_k ?a_k ?b_k ?x_k ?_ ?z_k; (case z_k => with_unfolding_all rfl); (case N_k => k_asm); (case m_k => k_mem); (case a_k => omega); (case b_k => omega); (case x_k => with_reducible assumption); k_whole)))
  k_with "own pyIter ref" => ((k_here; k_dflt (first
  | (refine' iter_up ?r_k ?b_k ?F_k ?N_k ?_; (case r_k => with_reducible assumption); (case b_k => omega); (case F_k => k_asm); (case N_k => k_asm); k_whole; intro I'k h'k F'k N'k l1k; (try k_lt l1k); (try k_sweep))
  | (refine' iter_down ?r_k ?b_k ?F_k ?N_k ?_; (case r_k => with_reducible assumption); (case b_k => omega); (case F_k => k_asm); (case N_k => k_asm); k_whole; intro I'k h'k F'k N'k l1k; (try k_lt l1k); (try k_sweep)))))
  k_with "own call builtin:list.append" => ((k_here; k_dflt (refine' append_V ?k1_k ?k2_k ?k3_k ?_ ?z_k; (case k1_k => k_asm); (case k2_k => k_asm); (case k3_k => k_upd); (case z_k => first | omega | exact Nat.le_of_ble_eq_true rfl); k_whole); intro h'k F'k N'k; (try k_sweep)))
  k_with "own call ref" => ((k_here; k_dflt (refine' Spec.use (br_cnt ?x0_k ?x1_k ?x2_k ?x3_k ?x4_k ?x5_k) ?kB_k ?kF_k ?kX_k ?kN_k ?kT_k ?kk_k ?kd_k ?ku_k ?_; (case kB_k => k_asm); (case kF_k => k_asm); (case kX_k => k_asm); (case kN_k => k_asm); (case kT_k => k_asm); (case kk_k => first | exact rfl | assumption); (case kd_k => ktr_room); (case ku_k => ktr_units); (case x0_k => assumption); (case x1_k => with_reducible assumption); (case x2_k => k_mem); (case x3_k => with_reducible assumption); (case x4_k => with_reducible assumption); (case x5_k => (simp only [pcols_len]; omega)); k_whole); intro r9k news9k h9k tk9k F9k N9k P9k; (obtain ⟨e9k, t9k, f9k⟩ := P9k; subst e9k; subst f9k); (try dsimp only); (try k_fold)))
  trivial

variable {prog : Program} {w : World} {K : Frag} {p : Program} {loose : List Str} {mean : ExcName → Option Value} {mg mb : Str → Option Value}
set_option maxHeartbeats 8000000 in
theorem ca_spec {f : Addr} (hf : FunAt K 20 f .none .none)
   (b_range : nsIn K mainGlobals (Str.ofString "range") = some none) (b_len : nsIn K mainGlobals (Str.ofString "len") = some none) {fb : Addr} (hfb : FunBAt K 2 fb) {dn : Nat} {d x out : Int} {td tx : Tok} (hd : d = dn) (hd4 : dn ≤ 4) (hrun : cascRun dn x 0 = some out) {news : Led} :
   Spec prog w K p loose mean mg mb f [.int x tx, .int d td] (news) 4 60
     (fun r news' => news' = news ∧ ∃ t, r = .int out t) := by
  w_on
  obtain ⟨⟨oc20, od20, osl20, pm20, doc20, cdv20, ct20, an20, hK20, hcode20⟩, hkeep20, hname20⟩ := hf
  dsimp only [top, sN, sA, sB, sS, nth, PySem.Challenge.pw_pg0194_01] at hK20 hcode20 hname20
  subst hd
  have hkeepB := FunBAt.keep hfb
  have hnameB := FunBAt.name hfb
  dsimp only [top, sN, nth, PySem.Challenge.pw_pg0194_01] at hnameB
  unfold Spec
  intro dp un gd cn cs ca9 ccd cl outer A₀ base h₀ L m s Q E B F X N T hk hdp hun hret
  refine wpAny_call ?_
  refine' code_def (binds := [(Str.ofString "count", .int x tx), (Str.ofString "degree", .int dn td)]) B F X N T rfl rfl hk hK20 hcode20 ?k8 (BindsTo.of_eq rfl) (locs rfl) ?_ rfl rfl rfl (by decide)
  (case k8 => ktr_room)
  clear hK20 hcode20 hkeep20 hname20
  intro g' L' h' FG' F' N' B' X' T'
  try dsimp only
  try k_fold
  k_steps
  refine' for_inv1 (σ := List Value × Nat × Led) (fun c => listOf c.1.toArray c.2.1) (fun c => c.2.2) (fun _ => []) [Str.ofString "column", Str.ofString "n", Str.ofString "i"] (fun i c => c.1.length = i + 1 ∧ Cols c.2.2 c.1 ∧ (∀ p ∈ news, p ∈ c.2.2)) ([_], _, _) (src_up (n := dn + 1)) ?z6_0 ?z6_1 ?z6_2 ?z6_3 ?z6_4 ?z6_5 ?z6_6 ?z6_7 ?z6_8 ?z6_9 ?z6_10 ?z6_11 ?z6_12
  (case z6_0 => exact rfl)
  (case z6_1 => exact rfl)
  (case z6_2 => exact rfl)
  (case z6_3 => k_asm)
  (case z6_4 => k_asm)
  (case z6_5 => simp)
  (case z6_6 => k_all)
  (case z6_7 => k_all)
  (case z6_8 => exact List.forall_mem_nil _)
  (case z6_9 => exact ⟨rfl, Cols.push (vs := []) (g := []) (fun i hi => absurd hi (Nat.not_lt_zero i)) (List.forall_mem_nil _) List.mem_cons_self (ones_are _), (by intro p hp; repeat (first | exact hp | refine List.mem_cons_of_mem _ ?_))⟩)
  (case z6_10 => exact fun _ _ _ => trivial)
  (case z6_11 =>
    intro i v c u h tk o' E' hi hv hP off offI offD F5 N5
    obtain ⟨vs, k, gx⟩ := c
    obtain ⟨hl, hc, hg⟩ := hP
    obtain ⟨t, rfl⟩ := hv
    dsimp only at hl hc hg off offD F5 N5
    obtain ⟨a, ws, n, h1, h2, h3⟩ := hc i (by omega)
    have h1' : vs[(i : Int).toNat]? = some (.ref a) := by rw [Int.toNat_natCast]; exact h1
    try k_fold
    k_steps
    refine' for_colL ?z2_0 ?z2_1 ?z2_2 ?z2_3 ?z2_4 ?z2_5 ?z2_6 ?z2_7 ?z2_8 ?z2_9 ?z2_10 ?z2_11 ?z2_12 ?_
    (case z2_0 => with_reducible assumption)
    (case z2_1 => exact rfl)
    (case z2_2 => exact rfl)
    (case z2_3 => exact rfl)
    (case z2_4 => k_asm)
    (case z2_5 => k_asm)
    (case z2_6 => decide)
    (case z2_7 => exact rfl)
    (case z2_8 => exact ⟨_, rfl⟩)
    (case z2_9 => k_ne)
    (case z2_10 => k_all)
    (case z2_11 => k_all)
    (case z2_12 =>
      intro j9 t9 s9 vs9 n9 i9 E9 p9 q9 F9 N9 v9 l9 z9
      k_steps
      refine' col_end (n' := n9 + 1) ?z1_0 ?z1_1 ?z1_2 ?z1_3
      (case z1_0 => k_asm)
      (case z1_1 => with_reducible assumption)
      (case z1_2 => k_asm)
      (case z1_3 => exact rfl))
    intro vs9 n9 t9 h9 tk9 F9 N9 i9
    try k_sweep
    k_steps
    refine' f_end (_, _, (_, _) :: gx) ?z3_0 ?z3_1 ?z3_2 ?z3_3 ?z3_4 ?z3_5
    (case z3_0 => k_asm)
    (case z3_1 => exact news_sub (by k_asm) (List.forall_mem_cons.mpr ⟨by k_mem, List.forall_mem_cons.mpr ⟨by k_mem, List.forall_mem_cons.mpr ⟨by k_mem, (by intro p hp; repeat (first | exact hp | refine List.mem_cons_of_mem _ ?_))⟩⟩⟩))
    (case z3_2 => exact List.forall_mem_nil _)
    (case z3_3 => exact (by intro z h2 h3; first | rfl | (simp only [List.forall_mem_cons, List.not_mem_nil, false_implies, implies_true, and_true, ne_eq] at h2; simp only [List.contains_cons, List.contains_nil, Bool.or_false, Bool.or_eq_false_iff, beq_eq_false_iff_ne, ne_eq] at h3; simp [kstB, h2, h3])))
    (case z3_4 => k_all)
    (case z3_5 => exact ⟨⟨by rw [List.length_append, hl]; rfl, Cols.push hc (fun p hp => List.mem_cons_of_mem _ hp) List.mem_cons_self (by rw [hl]; assumption), fun p hp => List.mem_cons_of_mem _ (hg p hp)⟩, by k_all⟩))
  (case z6_12 =>
    intro c u h tk hP offD F5 N5
    obtain ⟨vs, k, gx⟩ := c
    obtain ⟨hl, hc, hg⟩ := hP
    dsimp only at hl hc hg offD F5 N5 ⊢
    k_steps
    refine' for_inv0 (σ := Int × Int × Tok × Tok) (fun c => [(Str.ofString "total", .int c.2.1 c.2.2.1), (Str.ofString "count", .int c.1 c.2.2.2)]) [Str.ofString "n", Str.ofString "i"] (fun i c => i ≤ dn ∧ cascRun (dn - i) c.1 c.2.1 = some out) (x, 0, _, _) (src_down (n := dn)) ?z5_0 ?z5_1 ?z5_2 ?z5_3 ?z5_4 ?z5_5 ?z5_6 ?z5_7 ?z5_8 ?z5_9 ?z5_10 ?z5_11
    (case z5_0 => exact rfl)
    (case z5_1 => exact rfl)
    (case z5_2 => exact rfl)
    (case z5_3 => k_asm)
    (case z5_4 => k_asm)
    (case z5_5 => simp)
    (case z5_6 => k_all)
    (case z5_7 => refine List.forall_mem_cons.mpr ⟨?_, List.forall_mem_cons.mpr ⟨?_, List.forall_mem_nil _⟩⟩ <;> (dsimp only; rfl))
    (case z5_8 => exact ⟨Nat.zero_le _, hrun⟩)
    (case z5_9 => exact trivial)
    (case z5_10 =>
      intro i v c u h tk o' E' hi hv hP F5 N5
      obtain ⟨cnt, tot, t1, t2⟩ := c
      obtain ⟨hi', hr⟩ := hP
      obtain ⟨t, rfl⟩ := hv
      dsimp only at hr F5 N5
      obtain ⟨j, hj⟩ : ∃ j, dn - i = j + 1 := ⟨dn - i - 1, by omega⟩
      rw [hj] at hr
      obtain ⟨hb, hup, hr'⟩ := casc_step hr
      have ej : (dn : Int) - i = ((j + 1 : Nat) : Int) := by omega
      rw [ej] at F5
      obtain ⟨a, ws, n, h1, h2, h3⟩ := hc (j + 1) (by omega)
      obtain ⟨a', ws', n', h1', h2', h3'⟩ := hc (j + 2) (by omega)
      have g1 : vs[((j + 1 : Nat) : Int).toNat]? = some (.ref a) := by rw [Int.toNat_natCast]; exact h1
      have g2 : vs[(((j + 1 : Nat) : Int) + 1).toNat]? = some (.ref a') := by rw [show (((j + 1 : Nat) : Int) + 1).toNat = j + 2 by omega]; exact h1'
      try k_fold
      k_steps
      refine' f_end (_, _, _, _) ?z4_0 ?z4_1 ?z4_2 ?z4_3 ?z4_4 ?z4_5
      (case z4_0 => k_asm)
      (case z4_1 => k_asm)
      (case z4_2 => refine List.forall_mem_cons.mpr ⟨?_, List.forall_mem_cons.mpr ⟨?_, List.forall_mem_nil _⟩⟩ <;> (dsimp only; rfl))
      (case z4_3 => exact (by intro z h2 h3; first | rfl | (simp only [List.forall_mem_cons, List.not_mem_nil, false_implies, implies_true, and_true, ne_eq] at h2; simp only [List.contains_cons, List.contains_nil, Bool.or_false, Bool.or_eq_false_iff, beq_eq_false_iff_ne, ne_eq] at h3; simp [kstB, h2, h3])))
      (case z4_4 => k_all)
      (case z4_5 => exact ⟨by omega, by rw [show dn - (i + 1) = j by omega]; exact hr'⟩))
    (case z5_11 =>
      intro c u h tk hP F5 N5
      obtain ⟨cnt, tot, t1, t2⟩ := c
      obtain ⟨_, hr⟩ := hP
      dsimp only at hr F5 N5
      rw [Nat.sub_self, cascRun, Option.some.injEq] at hr
      subst hr
      k_steps
      exact hret _ _ _ _ (by k_asm) (news_sub (by k_asm) (fun p hp => List.mem_cons_of_mem _ (hg p hp))) ⟨rfl, _, rfl⟩))
theorem words16 : True := by
  k_with "own pyIter ref" => ((k_here; k_dflt (first
  | (refine' iter_rit ?N_k ?m_k ?_; (case N_k => k_asm); (case m_k => k_mem); k_whole)
  | (refine' iter_lst ?F_k ?N_k ?m_k ?_; (case F_k => k_asm); (case N_k => k_asm); (case m_k => k_mem); k_whole; intro I'k h'k o'k F'k N'k ho'k l1k; (try k_lt l1k); (try k_sweep))
  | (refine' iter_tup ?F_k ?N_k ?m_k ?_; (case F_k => k_asm); (case N_k => k_asm); (case m_k => k_mem); k_whole; intro I'k h'k o'k F'k N'k ho'k l1k; (try k_lt l1k); (try k_sweep))
  | (refine' iter_rng ?r_k ?s_k ?n_k ?F_k ?N_k ?_; (case r_k => with_reducible assumption); (case s_k => decide); (case n_k => exact Eq.refl _); (case F_k => k_asm); (case N_k => k_asm); k_whole; intro I'k h'k F'k N'k l1k; (try k_lt l1k); (try k_sweep)))))
  k_with "own eval Name" => ((k_here; (with_reducible show wpAny _ _ (eval (Expr.Name _ _) (compEnvC _ _ _ _)) _ _ _); k_dflt (first
  | (refine' comp_local ?N_k ?m_k ?n_k ?x_k ?_ ?a_k ?b_k ?c_k; (case a_k => exact rfl); (case b_k => exact rfl); (case c_k => decide); (case N_k => k_asm); (case m_k => k_mem); (case n_k => with_reducible assumption); (case x_k => exact rfl); k_whole)
  | (refine' comp_cell ?N_k ?l_k ?m_k ?d_k ?_ ?a_k ?b_k ?c_k; (case a_k => exact rfl); (case b_k => exact rfl); (case c_k => decide); (case l_k => exact rfl); (case N_k => k_asm); (case m_k => k_mem); (case d_k => with_reducible assumption); k_whole)
  | (refine' comp_free ?N_k ?l_k ?m_k ?d_k ?_ ?a_k ?b_k ?c_k ?e_k; (case a_k => exact rfl); (case b_k => exact rfl); (case c_k => decide); (case e_k => decide); (case l_k => exact rfl); (case N_k => k_asm); (case m_k => k_mem); (case d_k => with_reducible assumption); k_whole))))
  k_with "own call ref" => ((k_here; k_dflt (refine' Spec.use (al_gen ?x0_k ?x1_k ?x2_k ?x3_k) ?kB_k ?kF_k ?kX_k ?kN_k ?kT_k ?kk_k ?kd_k ?ku_k ?_; (case kB_k => k_asm); (case kF_k => k_asm); (case kX_k => k_asm); (case kN_k => k_asm); (case kT_k => k_asm); (case kk_k => first | exact rfl | assumption); (case kd_k => ktr_room); (case ku_k => ktr_units); (case x0_k => assumption); (case x1_k => assumption); (case x2_k => assumption); (case x3_k => omega); k_whole); intro r9k news9k h9k tk9k F9k N9k P9k; (obtain ⟨vs9k, n9k, a9k, e9k, f9k, l9k, i9k⟩ := P9k; subst e9k; subst f9k; (try k_lt l9k)); (try dsimp only); (try k_fold)))
  k_with "own truthy ref" => ((k_here; k_dflt (refine' truthy_lst ?N_k ?m_k ?z_k ?b_k ?_; (case N_k => k_asm); (case m_k => k_mem); (case z_k => first | omega | exact Nat.le_of_ble_eq_true rfl | (simp only [List.length_cons, List.length_map, List.length_append, List.length_reverse, List.length_nil]; omega)); (case b_k => first | exact rfl | assumption); k_whole)))
  k_with "own call builtin:list.append" => ((k_here; k_dflt (refine' append_V ?k1_k ?k2_k ?k3_k ?_ ?z_k; (case k1_k => k_asm); (case k2_k => k_asm); (case k3_k => k_upd); (case z_k => first | omega | exact Nat.le_of_ble_eq_true rfl | (simp only [List.length_append, List.length_map, List.length_reverse, List.length_singleton]; omega)); k_whole); intro h'k F'k N'k; (try k_sweep)))
  k_with "own call type:zip" => ((k_here; k_dflt (refine' call_zip ?F_k ?N_k ?l_k ?q_k ?_; (case F_k => k_asm); (case N_k => k_asm); (case l_k => k_mem); (case q_k => decide +kernel); k_whole); intro Z'k TI'k TO'k S'k T'k oS'k oT'k h'k F'k N'k hS'k hT'k hd'k l1k; have lz'k := l1k; have hZ'k := hd'k; (dsimp only [zipL] at N'k); (unfold ZOrd at hZ'k); (try k_lt l1k); (try k_sweep)))
  k_with "own pyIter ref" => ((k_here; k_dflt (refine' iter_zip ?N_k ?m_k ?_; (case N_k => k_asm); (case m_k => k_mem); k_whole)))
  k_with "own compareOp In int ref" => ((k_here; k_dflt (refine' in_ints ?N_k ?m_k ?i_k ?u_k ?_; (case N_k => k_asm); (case m_k => k_mem); (case i_k => with_reducible assumption); (case u_k => ktr_units); k_whole)))
  k_with "own eval Name" => ((k_here; (with_reducible show wpAny _ _ (eval (Expr.Name _ _) (compEnvC _ _ _ _)) _ _ _); k_dflt (first
  | (refine' comp_glob ?F_k ?X_k ?T_k ?e_k ?_ ?a_k ?b_k ?c_k ?d_k; (case a_k => exact rfl); (case b_k => exact rfl); (case c_k => exact rfl); (case d_k => decide); (case F_k => k_asm); (case X_k => k_asm); (case T_k => k_asm); (case e_k => with_reducible assumption); k_whole)
  | (refine' comp_bi ?F_k ?X_k ?T_k ?e_k ?v_k ?n_k ?_ ?a_k ?b_k ?c_k ?g_k ?d_k; (case a_k => exact rfl); (case b_k => exact rfl); (case c_k => exact rfl); (case g_k => exact rfl); (case d_k => decide); (case F_k => k_asm); (case X_k => k_asm); (case T_k => k_asm); (case e_k => with_reducible assumption); (case v_k => boot_fast); (case n_k => decide); k_whole))))
  k_with "own eval Name" => ((k_here; (with_reducible show wpAny _ _ (eval (Expr.Name _ _) (compEnvC _ _ _ _)) _ _ _); k_dflt (first
  | (refine' comp_local ?N_k ?m_k ?n_k ?x_k ?_ ?a_k ?b_k ?c_k; (case a_k => exact rfl); (case b_k => exact rfl); (case c_k => decide); (case N_k => k_asm); (case m_k => k_mem); (case n_k => with_reducible assumption); (case x_k => exact rfl); k_whole)
  | (refine' comp_cell ?N_k ?l_k ?m_k ?d_k ?_ ?a_k ?b_k ?c_k; (case a_k => exact rfl); (case b_k => exact rfl); (case c_k => decide); (case l_k => exact rfl); (case N_k => k_asm); (case m_k => k_mem); (case d_k => with_reducible assumption); k_whole)
  | (refine' comp_free ?N_k ?l_k ?m_k ?d_k ?_ ?a_k ?b_k ?c_k ?e_k; (case a_k => exact rfl); (case b_k => exact rfl); (case c_k => decide); (case e_k => decide); (case l_k => exact rfl); (case N_k => k_asm); (case m_k => k_mem); (case d_k => with_reducible assumption); k_whole))))
  k_with "own call ref" => ((k_here; k_dflt (refine' Spec.use (wt_gen ?x0_k ?x1_k ?x2_k ?x3_k ?x4_k ?x5_k ?x6_k ?x7_k ?x8_k) ?kB_k ?kF_k ?kX_k ?kN_k ?kT_k ?kk_k ?kd_k ?ku_k ?_; (case kB_k => k_asm); (case kF_k => k_asm); (case kX_k => k_asm); (case kN_k => k_asm); (case kT_k => k_asm); (case kk_k => first | exact rfl | assumption); (case kd_k => ktr_room); (case ku_k => ktr_units); (case x0_k => assumption); (case x1_k => exact EntIs.mono (by assumption) (by intro pk hpk; repeat (first | exact hpk | refine List.mem_cons_of_mem _ ?_))); (case x2_k => k_mem); (case x3_k => assumption); (case x4_k => assumption); (case x5_k => assumption); (case x6_k => assumption); (case x7_k => assumption); (case x8_k => assumption); k_whole); intro r9k news9k h9k tk9k F9k N9k P9k; (obtain ⟨e9k, t9k, f9k⟩ := P9k; subst e9k; subst f9k); (try dsimp only); (try k_fold)))
  k_with "own subscriptTail Name Constant ref int" => ((k_here; (with_reducible show wpAny _ _ (subscriptTail _ _ (Value.ref _) (Value.int _ _)) _ _ _); k_dflt (refine' tup_at ?N_k ?m_k ?a_k ?b_k ?x_k ?_ ?z_k; (case z_k => with_unfolding_all rfl); (case N_k => k_asm); (case m_k => k_mem); (case a_k => decide); (case b_k => decide); (case x_k => exact rfl); k_whole)))
  k_with "own call type:list" => ((k_here; k_dflt (refine' list_items ?H_k ?F_k ?N_k ?V_k ?d_k ?l_k ?_; (case H_k => exact rfl); (case F_k => k_asm); (case N_k => k_asm); (case V_k => k_mem); (case d_k => exact DIL.mono (by assumption) (by intro pk hpk; repeat (first | exact hpk | refine List.mem_cons_of_mem _ ?_))); (case l_k => omega); k_whole); intro S'k nl'k h'k tk'k F'k N'k ab'k dt'k; (try k_sweep)))
  k_with "own compareOp Eq ref ref" => ((k_here; k_dflt (refine eq_mark ?_)))
  trivial

set_option maxHeartbeats 8000000 in
theorem are_spec {f : Addr} (hf : FunAt K 19 f .none .none)
   (b_range : nsIn K mainGlobals (Str.ofString "range") = some none) (b_zip : nsIn K mainGlobals (Str.ofString "zip") = some none) (b_list : nsIn K mainGlobals (Str.ofString "list") = some none) {fl fw : Addr} (hfl : FunAt K 15 fl .none .none) (hfw : FunAt K 16 fw .none .none) {tl wl ul : Addr} {tas : List Addr} {es : List Ent} {wvs : List Value} {ws : List Int} {tn wn nu : Nat} {u0 u1 u2 d : Int} {dn : Nat} {q0 q1 q2 td : Tok} {news : Led} (htl : (tl, listOf (refs tas) tn) ∈ news) (hes : EntsAre prog w news tas es) (hwl : (wl, listOf wvs.toArray wn) ∈ news) (hws : IntsAre wvs ws) (hul : (ul, tupOf [.int u0 q0, .int u1 q1, .int u2 q2] nu) ∈ news) (hb : ∀ e ∈ es, (0 ≤ e.1 ∧ e.1 ≤ 10) ∧ (0 ≤ e.2.1 ∧ e.2.1 ≤ 10) ∧ (0 ≤ e.2.2.1 ∧ e.2.2.1 ≤ 10) ∧ e.2.2.2.2.length ≤ 3) (hlen : es.length ≤ 100) (c0 : 0 ≤ u0 ∧ u0 ≤ 100) (c1 : 0 ≤ u1 ∧ u1 ≤ 100) (c2 : 0 ≤ u2 ∧ u2 ≤ 100) (hd : d = dn) (hdn : 2 ≤ dn ∧ dn ≤ 5) (heq : es.map (toldD u0 u1 u2) = (allP dn).flatMap (dueL (usF u0 u1 u2) ws d)) :
   Spec prog w K p loose mean mg mb f [.ref tl, .ref wl, .int d td, .ref ul] (news) 6 200
     (fun r news' => news' = news ∧ r = .bool true) := by
  w_on
  obtain ⟨⟨oc19, od19, osl19, pm19, doc19, cdv19, ct19, an19, hK19, hcode19⟩, hkeep19, hname19⟩ := hf
  dsimp only [top, sN, sA, sB, sS, nth, PySem.Challenge.pw_pg0194_01] at hK19 hcode19 hname19
  have hkeep15 := FunAt.keep hfl
  have hname15 := FunAt.name hfl
  dsimp only [top, sN, nth, PySem.Challenge.pw_pg0194_01] at hname15
  have hkeep16 := FunAt.keep hfw
  have hname16 := FunAt.name hfw
  dsimp only [top, sN, nth, PySem.Challenge.pw_pg0194_01] at hname16
  unfold Spec
  intro dp un gd cn cs ca9 ccd cl outer A₀ base h₀ L m s Q E B F X N T hk hdp hun hret
  refine wpAny_call ?_
  refine' code_defC (binds := [(Str.ofString "told", .ref tl), (Str.ofString "weights", .ref wl), (Str.ofString "degree", .int d td), (Str.ofString "units", .ref ul)]) B F X N T rfl rfl hk hK19 hcode19 ?k8 (BindsTo.of_eq rfl) rfl (by decide +kernel) ?_ rfl rfl rfl
  (case k8 => ktr_room)
  clear hK19 hcode19 hkeep19 hname19
  intro g' L' h' tk' cells' FG' F' N' Y' B' X' T' l1
  try k_lt l1
  k_cells Y'
  try simp only [List.cons_append, List.nil_append] at N'
  try dsimp only
  try k_fold
  have of1 : ∀ p ∈ news, p.1 ≠ L' + 1 := fun p hp => Nat.ne_of_lt (Nat.lt_of_lt_of_le (l1 p hp) (Nat.le_add_right L' 1))
  have of2 : ∀ p ∈ news, p.1 ≠ L' + 1 + 1 := fun p hp => Nat.ne_of_lt (Nat.lt_of_lt_of_le (l1 p hp) (Nat.le_add_right L' 2))
  have of3 : ∀ p ∈ news, p.1 ≠ L' + 1 + 1 + 1 := fun p hp => Nat.ne_of_lt (Nat.lt_of_lt_of_le (l1 p hp) (Nat.le_add_right L' 3))
  k_steps
  refine' for_cell1 (W := L' + 1 + 1 + 1) (σ := List Value × Nat × Led) (fun c => listOf c.1.toArray c.2.1) (fun c => c.2.2) (fun _ => []) [Str.ofString "down"] (fun i c => DatAll c.2.2 c.1 (((allP dn).take i).flatMap (dueL (usF u0 u1 u2) ws d)) ∧ c.1.length ≤ i) ([], _, _) src_lst ?z13_0 ?z13_1 ?z13_2 ?z13_3 ?z13_4 ?z13_5 ?z13_6 ?z13_7 ?z13_8 ?z13_9 ?z13_10 ?z13_11 ?z13_12 ?z13_13 ?z13_14 ?z13_15 ?z13_16
  (case z13_0 => exact fun F N off hd h => storeX_C F N rfl (.head off) hd h)
  (case z13_1 => exact rfl)
  (case z13_2 => k_asm)
  (case z13_3 => exact pull3 (by k_asm) (by k_upd) (by k_upd) (by k_upd))
  (case z13_4 => with_reducible assumption)
  (case z13_5 => assumption)
  (case z13_6 => k_ne)
  (case z13_7 => k_ne)
  (case z13_8 => k_ne)
  (case z13_9 => k_all)
  (case z13_10 => k_all)
  (case z13_11 => k_all)
  (case z13_12 => exact List.forall_mem_nil _)
  (case z13_13 => exact ⟨.nil, Nat.le_refl _⟩)
  (case z13_14 => exact fun c oW hB => List.mem_cons_of_mem _ (List.mem_cons_of_mem _ (hB _ (by k_mem))))
  (case z13_15 =>
    intro i v c u h tk o' oW E' hi hv hP hB oI oWg oD hWI hDI hDW hoW F5 N5
    obtain ⟨vs, k, gx⟩ := c
    obtain ⟨hA, hl⟩ := hP
    dsimp only at hA hl hB oI oWg oD F5 N5
    replace hWI := neN hWI
    replace hDI := neN hDI
    replace hDW := neN hDW
    obtain ⟨wt, t, hwt, rfl⟩ := ints_get (by assumption) hv
    have hlw : vs.length ≤ 100 := by
      have q1 : ∀ k : Nat, k < 6 → (allP k).length ≤ 100 := by decide
      have q2 := q1 dn (by omega)
      have q3 : i < (allP dn).length := by
        rcases Nat.lt_or_ge i (allP dn).length with q | q
        · exact q
        · rw [List.getElem?_eq_none q] at hwt; cases hwt
      omega
    have m1 := hB (L' + 1 + 1, _) (by k_mem)
    have m2 := hB (L' + 1, _) (by k_mem)
    have hN : ∀ p ∈ news, p ∈ gx := fun p hp => hB p (by repeat (first | exact hp | refine List.mem_cons_of_mem _ ?_))
    have m3 := hN _ hwl
    have m4 := hN _ hul
    try dsimp only
    try k_fold
    k_steps
    refine' comp_zip (x := Str.ofString "xyz") (its := [.int u0 q0, .int u1 q1, .int u2 q2]) (fun i g' vs => DatAll g' vs ((downL (usF u0 u1 u2) ws wt i).map pairD)) ?z7_0 ?z7_1 ?z7_2 ?z7_3 ?z7_4 ?z7_5 ?z7_6 ?z7_7 ?z7_8 ?z7_9 ?z7_10 ?z7_11 ?z7_12 ?z7_13 ?z7_14 ?z7_15 ?z7_16 ?z7_17 ?_
    (case z7_0 => exact rfl)
    (case z7_1 => exact rfl)
    (case z7_2 => exact rfl)
    (case z7_3 => exact rfl)
    (case z7_4 => exact (show (Str.ofString "xyz").cps.size = 3 from by decide +kernel))
    (case z7_5 => exact Nat.le_of_ble_eq_true rfl)
    (case z7_6 => k_asm)
    (case z7_7 => k_asm)
    (case z7_8 => assumption)
    (case z7_9 => assumption)
    (case z7_10 => k_mem)
    (case z7_11 => assumption)
    (case z7_12 => assumption)
    (case z7_13 => assumption)
    (case z7_14 => omega)
    (case z7_15 => omega)
    (case z7_16 => exact .nil)
    (case z7_17 =>
      intro j c v t' vs' nw fz k' h' tk' oC' E9 hc hv' hP9 F9 N9 hC9
      obtain ⟨hj, ec⟩ := xyz_at hc
      obtain ⟨_, q, rfl⟩ := us_at hv'
      simp only [List.cons_append] at N9
      have hg9 := sub3 N9
      have w1 := hg9 (L' + 1 + 1 + 1, oW) (by k_mem)
      have w2 := hg9 (L' + 1, _) (by k_mem)
      have w3 := hg9 (wl, _) (by k_mem)
      try dsimp only
      try k_fold
      k_steps
      generalize hbq : decide (wt - usF u0 u1 u2 j ∈ ws) = bq
      cases bq with
      | false =>
        refine ⟨_, _, rfl, by k_asm, by k_asm, ?_⟩
        rw [down_step hbq]
        simpa using hP9
      | true =>
        unfold ZEnd
        rw [if_pos rfl]
        try k_fold
        k_steps
        refine' zelt_tup ?zF ?zN ?zl ?zp
        (case zF => k_asm)
        (case zN => k_asm)
        (case zl => exact allLt_lt (by assumption))
        (case zp =>
          rw [down_step hbq, if_pos rfl, List.map_append]
          refine DatAll.append (hP9.mono fun p hp => List.mem_cons_of_mem _ hp) (DatAll.one ?_)
          show DatIn _ _ (.tuple [.str (nmL j), .int 1])
          rw [← ec]
          exact DatIn.tuple List.mem_cons_self (.cons (.str _ _) (.cons (.int 1 _) .nil))))
    intro vs9 new9 k9 oC9 mC9 h9 tk9 hP9 F9 N9 hC9 lC9
    try dsimp only
    obtain ⟨gy, N8, sg, sn, yC, yI, yW, yD⟩ := regroup N9 lC9 (by refine ⟨?_, ?_, ?_⟩ <;> omega) (by k_all) oI oWg oD
    clear N9
    replace hP9 := hP9.mono sn
    have hn1 := sg _ m1
    have hn2 := sg _ m2
    have hlen9 := hP9.length
    rw [List.length_map] at hlen9
    have hd3 : ∀ n, (downL (usF u0 u1 u2) ws wt n).length ≤ n := fun n => downL_len n
    have hd4 := hd3 3
    have hlen8 : vs9.length ≤ 1000 := by rw [hlen9]; exact Nat.le_trans hd4 (by decide)
    generalize hbe : (!vs9.isEmpty) = bq
    have hbe' : (!(downL (usF u0 u1 u2) ws wt 3).isEmpty) = bq := by
      rw [← hbe]
      have e9 : vs9.length = (downL (usF u0 u1 u2) ws wt 3).length := hlen9
      cases vs9 <;> cases hq : downL (usF u0 u1 u2) ws wt 3 <;> first | rfl | (rw [hq] at e9; exact absurd e9 (by simp))
    cases bq with
    | false =>
      k_steps
      refine' f_end (vs, k, (_, _) :: gy) ?z8_0 ?z8_1 ?z8_2 ?z8_3 ?z8_4 ?z8_5
      (case z8_0 => k_asm)
      (case z8_1 => exact news_sub (by k_asm) (by refine List.forall_mem_cons.mpr ⟨by k_mem, ?_⟩; refine List.forall_mem_cons.mpr ⟨by k_mem, ?_⟩; refine List.forall_mem_cons.mpr ⟨by k_mem, ?_⟩; refine List.forall_mem_cons.mpr ⟨by k_mem, ?_⟩; intro p hp; repeat (first | exact hp | refine List.mem_cons_of_mem _ ?_)))
      (case z8_2 => exact List.forall_mem_nil _)
      (case z8_3 => exact (by intro z h2 h3; first | rfl | (simp only [List.forall_mem_cons, List.not_mem_nil, false_implies, implies_true, and_true, ne_eq] at h2; simp only [List.contains_cons, List.contains_nil, Bool.or_false, Bool.or_eq_false_iff, beq_eq_false_iff_ne, ne_eq] at h3; simp [kstB, h2, h3])))
      (case z8_4 => repeat (first | assumption | refine off_cons (by k_ne) ?_))
      (case z8_5 => exact ⟨⟨by rw [take_flat _ hwt, dueL_eq, if_pos (by simpa using hbe'), List.append_nil]; exact hA.mono (fun p hp => List.mem_cons_of_mem _ (sg p hp)), Nat.le_succ_of_le hl⟩, fun p hp => List.mem_cons_of_mem _ (sg p (hB p hp)), off_cons (by k_ne) yW, off_cons (by k_ne) yD⟩)
    | true =>
      k_steps
      refine' f_end (_, _, (_, tupOf [.int wt _, .int d _, .ref _] _) :: (_, listOf vs9.toArray _) :: gy) ?z9_0 ?z9_1 ?z9_2 ?z9_3 ?z9_4 ?z9_5
      (case z9_0 => k_asm)
      (case z9_1 => exact news_sub (by k_asm) (by refine List.forall_mem_cons.mpr ⟨by k_mem, ?_⟩; refine List.forall_mem_cons.mpr ⟨by k_mem, ?_⟩; refine List.forall_mem_cons.mpr ⟨by k_mem, ?_⟩; refine List.forall_mem_cons.mpr ⟨by k_mem, ?_⟩; refine List.forall_mem_cons.mpr ⟨by k_mem, ?_⟩; intro p hp; repeat (first | exact hp | refine List.mem_cons_of_mem _ ?_)))
      (case z9_2 => exact List.forall_mem_nil _)
      (case z9_3 => exact (by intro z h2 h3; first | rfl | (simp only [List.forall_mem_cons, List.not_mem_nil, false_implies, implies_true, and_true, ne_eq] at h2; simp only [List.contains_cons, List.contains_nil, Bool.or_false, Bool.or_eq_false_iff, beq_eq_false_iff_ne, ne_eq] at h3; simp [kstB, h2, h3])))
      (case z9_4 => repeat (first | assumption | refine off_cons (by k_ne) ?_))
      (case z9_5 =>
        refine ⟨⟨?_, ?_⟩, fun p hp => List.mem_cons_of_mem _ (List.mem_cons_of_mem _ (sg p (hB p hp))), off_cons (by k_ne) (off_cons (by k_ne) yW), off_cons (by k_ne) (off_cons (by k_ne) yD)⟩
        · rw [take_flat _ hwt, dueL_eq, if_neg (by simpa using hbe')]
          refine DatAll.append (hA.mono (fun p hp => List.mem_cons_of_mem _ (List.mem_cons_of_mem _ (sg p hp)))) (DatAll.one ?_)
          exact DatIn.tuple List.mem_cons_self (.cons (.int wt _) (.cons (.int d _) (.cons (DatIn.list (List.mem_cons_of_mem _ List.mem_cons_self) (hP9.mono (fun p hp => List.mem_cons_of_mem _ (List.mem_cons_of_mem _ hp)))) .nil)))
        · show (vs ++ [_]).length ≤ i + 1
          rw [List.length_append, List.length_singleton]
          exact Nat.succ_le_succ hl))
  (case z13_16 =>
    intro c u h tk oW hP hB oWg oD F5 N5 hoW
    obtain ⟨vs, k, gx⟩ := c
    obtain ⟨hA, hl⟩ := hP
    obtain ⟨vW, hoW⟩ := hoW
    dsimp only at hA hl hB oWg oD F5 N5 ⊢
    rw [IntsAre.length (by assumption : IntsAre _ (allP dn)), List.take_length] at hA
    have m1 := hB (L' + 1 + 1, _) (by k_mem)
    have hN : ∀ p ∈ news, p ∈ gx := fun p hp => hB p (by repeat (first | exact hp | refine List.mem_cons_of_mem _ ?_))
    have m3 := hN _ htl
    have m4 := hN _ hul
    replace hes := hes.mono hN
    unfold refs at m3
    k_steps
    refine' comp_map (fun g i y => ∃ e, es[i]? = some e ∧ DatIn g y (toldD u0 u1 u2 e)) ?z11_0 ?z11_1 ?z11_2 ?z11_3 ?z11_4 ?z11_5 ?z11_6 ?z11_7 ?z11_8 ?z11_9 ?z11_10 ?z11_11 ?z11_12 ?z11_13 ?z11_14 ?z11_15 ?z11_16 ?z11_17 ?_
    (case z11_0 => exact fun g g9 i v hs h => h.elim fun e h => ⟨e, h.1, h.2.mono hs⟩)
    (case z11_1 => exact src_lst (l := tl) (vs := tas.map Value.ref) (k := tn))
    (case z11_2 => exact rfl)
    (case z11_3 => exact rfl)
    (case z11_4 => exact rfl)
    (case z11_5 => rw [List.length_map, hes.length]; omega)
    (case z11_6 => k_asm)
    (case z11_7 => exact pull3 (by k_asm) (by k_upd) (by k_upd) (by k_upd))
    (case z11_8 => with_reducible assumption)
    (case z11_9 => assumption)
    (case z11_10 => k_ne)
    (case z11_11 => k_ne)
    (case z11_12 => k_ne)
    (case z11_13 => k_all)
    (case z11_14 => k_all)
    (case z11_15 => k_all)
    (case z11_16 => exact fun g9 hs => hs _ (by k_mem))
    (case z11_17 =>
      intro j v vs' nw k' h' tk' oC' o9 E9 hj hv' n1 n2 n3 F9 N9 hC9
      rw [List.getElem?_map] at hv'
      obtain ⟨x, e, hx1, he1, hx2⟩ := hes.get (i := j) (by rw [List.length_map, hes.length] at hj; exact hj)
      rw [hx1] at hv'
      cases hv'
      have hg9 := sub4 N9
      replace hx2 := hx2.mono (fun p hp => hg9 p (by repeat (first | exact hp | refine List.mem_cons_of_mem _ ?_)))
      have w1 := hg9 (L' + 1 + 1, _) (by k_mem)
      have w2 := hg9 (ul, _) (by k_mem)
      obtain ⟨b1, b2, b3, b4⟩ := hb e (List.mem_iff_getElem?.mpr ⟨j, he1⟩)
      have hx3 := hx2
      obtain ⟨dd, k0, k1, k2, k3, nn, hxm, hdd⟩ := hx3
      have hd3 := hdd
      obtain ⟨kvs, hkv, od, Dd, hod, hdict, hflat, hsys⟩ := hd3
      try dsimp only
      try k_fold
      k_steps
      refine' cend_tup (front := [_, _, _]) ?z10_0 ?z10_1 ?z10_2 ?z10_3 ?z10_4
      (case z10_0 => k_asm)
      (case z10_1 => k_asm)
      (case z10_2 => assumption)
      (case z10_3 => assumption)
      (case z10_4 => exact ⟨e, he1, DatIn.tuple (List.mem_cons_self) (.cons (.int _ _) (.cons (.int _ _) (.cons (DatIn.mono (fun p hp => List.mem_cons_of_mem _ (List.mem_append.mpr (.inl hp))) (by assumption)) .nil)))⟩))
    intro vs9 new9 k9 oC9 mC9 h9 tk9 hl9 hR9 F9 N9 hC9 oC9' oD9' ab9
    have hA2 : DatAll _ vs9 (es.map (toldD u0 u1 u2)) := datAll_of (by rw [hl9, List.length_map, List.length_map, hes.length]) fun j v dd h1 h2 => by
      obtain ⟨e, he, hD⟩ := hR9 j v h1
      rw [List.getElem?_map, he] at h2
      cases h2
      exact hD
    have sb := sub2 N9
    have hn1 := sb (_, listOf vs.toArray k) (by k_mem)
    have hg1 : ∀ p ∈ gx, p ∈ new9 ++ _ := fun p hp => sb p (List.mem_cons_of_mem _ (List.mem_cons_of_mem _ hp))
    have hA3 := hA.mono hg1
    try dsimp only
    k_steps
    refine' eq_due ?z12_0 ?z12_1 ?z12_2 ?z12_3 ?z12_4 ?z12_5 ?z12_6 ?z12_7 ?z12_8 ?z12_9 ?_
    (case z12_0 => k_asm)
    (case z12_1 => k_mem)
    (case z12_2 => k_mem)
    (case z12_3 => exact hA2)
    (case z12_4 => exact fun p hp => List.mem_cons_of_mem _ hp)
    (case z12_5 => exact hA3)
    (case z12_6 => exact fun p hp => List.mem_cons_of_mem _ hp)
    (case z12_7 => exact heq)
    (case z12_8 =>
        intro q hq
        obtain ⟨e, _, rfl⟩ := List.mem_map.mp hq
        exact okDue _ _ _)
    (case z12_9 => ktr_units)
    try dsimp only
    k_steps
    exact hret _ _ _ _ (by k_asm) (news_sub (by k_asm) (fun p hp => List.mem_cons_of_mem _ (hg1 p (hN p hp)))) ⟨rfl, rfl⟩)
end P3
section P4
theorem words17 : True := by
  k_with_none
  k_with "own k_ne" => (first | with_reducible assumption | exact neL0 (by with_reducible assumption) | exact neG0 (by with_reducible assumption) | exact neL1 (by with_reducible assumption) | exact neG1 (by with_reducible assumption) | exact neL2 (by with_reducible assumption) | exact neG2 (by with_reducible assumption) | exact neL3 (by with_reducible assumption) | exact neG3 (by with_reducible assumption) | exact neL4 (by with_reducible assumption) | exact neG4 (by with_reducible assumption) | exact neL5 (by with_reducible assumption) | exact neG5 (by with_reducible assumption) | exact neL6 (by with_reducible assumption) | exact neG6 (by with_reducible assumption) | exact neL7 (by with_reducible assumption) | exact neG7 (by with_reducible assumption) | exact neL8 (by with_reducible assumption) | exact neG8 (by with_reducible assumption) | exact neL9 (by with_reducible assumption) | exact neG9 (by with_reducible assumption) | exact neL10 (by with_reducible assumption) | exact neG10 (by with_reducible assumption) | exact neL11 (by with_reducible assumption) | exact neG11 (by with_reducible assumption) | exact neL12 (by with_reducible assumption) | exact neG12 (by with_reducible assumption) | exact neL13 (by with_reducible assumption) | exact neG13 (by with_reducible assumption) | (refine neN ?_; (try dsimp only); omega))
  k_with "own k_all" => (first | with_reducible assumption | exact allLt_ne (by with_reducible assumption) | exact allLt_ne (And.right (by with_reducible assumption)) | exact allLt_ne (And.right (And.right (by with_reducible assumption))) | exact allLt_ne (And.right (And.right (And.right (by with_reducible assumption)))) | exact allLt_ne (And.right (And.right (And.right (And.right (by with_reducible assumption))))) | exact allLt_ne (And.right (And.right (And.right (And.right (And.right (by with_reducible assumption)))))) | exact allLt_ne (And.right (And.right (And.right (And.right (And.right (And.right (by with_reducible assumption))))))) | exact allLt_ne (And.right (And.right (And.right (And.right (And.right (And.right (And.right (by with_reducible assumption)))))))) | exact allLt_ne (And.right (And.right (And.right (And.right (And.right (And.right (And.right (And.right (by with_reducible assumption))))))))))
  k_with "own exec For" => ((k_here; k_dflt (refine for_start ?_)))
  k_with "own exec For Name Name cons nil" => ((k_here; k_dflt (refine for_start ?_)))
  k_with "own exec For Name Call cons nil" => ((k_here; k_dflt (refine for_start ?_)))
  k_with "own exec For Tuple Attribute cons nil" => ((k_here; k_dflt (refine for_start ?_)))
  k_with "own exec For Tuple Call cons nil" => ((k_here; k_dflt (refine for_start ?_)))
  k_with "own exec For Tuple" => ((k_here; k_dflt (refine for_start ?_)))
  k_with "own exec For Name" => ((k_here; k_dflt (refine for_start ?_)))
  k_with "own ForPost" => ((dsimp only [ForPost]))
  k_with "own ForNext" => ((k_dflt (first | with_reducible refine for_done ?_ | with_reducible refine for_name ?_)))
  k_with "own pyNext ref" => ((k_here; k_dflt (first
  | (refine' next_rng ?F_k ?N_k ?U_k ?l_k ?_; (case F_k => k_asm); (case N_k => k_asm); (case U_k => k_upd); (case l_k => decide); k_whole; intro h'k t'k tk'k F'k N'k; (try k_sweep))
  | (refine' next_rng_end ?H_k ?F_k ?N_k ?m_k ?D_k ?l_k ?_; (case H_k => exact rfl); (case F_k => k_asm); (case N_k => k_asm); (case m_k => k_mem); (case D_k => k_upd); (case l_k => decide); k_whole; intro h'k F'k N'k; (try k_sweep))
  | (refine' next_lst ?F_k ?N_k ?U_k ?o_k ?m_k ?x_k ?_; (case F_k => k_asm); (case N_k => k_asm); (case U_k => k_updF); (case o_k => with_reducible assumption); (case m_k => k_mem); (case x_k => first | (simp only [List.getElem?_toArray, List.getElem?_cons_zero, List.getElem?_cons_succ]; done) | (simp only [List.getElem?_toArray, List.getElem?_cons_zero, List.getElem?_cons_succ]; exact rfl)); k_whole; intro h'k o'k F'k N'k ho'k; (try k_sweep))
  | (refine' next_lst_end ?H_k ?F_k ?N_k ?I_k ?D_k ?o_k ?m_k ?x_k ?_; (case H_k => exact rfl); (case F_k => k_asm); (case N_k => k_asm); (case I_k => k_mem); (case D_k => k_upd); (case o_k => with_reducible assumption); (case m_k => k_mem); (case x_k => rfl); k_whole; intro h'k F'k N'k; (try k_sweep))
  | (refine' next_tup ?F_k ?N_k ?U_k ?o_k ?m_k ?x_k ?_; (case F_k => k_asm); (case N_k => k_asm); (case U_k => k_updF); (case o_k => with_reducible assumption); (case m_k => k_mem); (case x_k => first | (simp only [List.getElem?_cons_zero, List.getElem?_cons_succ]; done) | (simp only [List.getElem?_cons_zero, List.getElem?_cons_succ]; exact rfl)); k_whole; intro h'k o'k F'k N'k ho'k; (try k_sweep))
  | (refine' next_tup_end ?H_k ?F_k ?N_k ?I_k ?D_k ?o_k ?m_k ?x_k ?_; (case H_k => exact rfl); (case F_k => k_asm); (case N_k => k_asm); (case I_k => k_mem); (case D_k => k_upd); (case o_k => with_reducible assumption); (case m_k => k_mem); (case x_k => rfl); k_whole; intro h'k F'k N'k; (try k_sweep)))))
  k_with "own pyIter ref" => ((k_here; k_dflt (first
  | (refine' iter_rit ?N_k ?m_k ?_; (case N_k => k_asm); (case m_k => k_mem); k_whole)
  | (refine' iter_lst ?F_k ?N_k ?m_k ?_; (case F_k => k_asm); (case N_k => k_asm); (case m_k => k_mem); k_whole; intro I'k h'k o'k F'k N'k ho'k l1k; (try k_lt l1k); (try k_sweep))
  | (refine' iter_tup ?F_k ?N_k ?m_k ?_; (case F_k => k_asm); (case N_k => k_asm); (case m_k => k_mem); k_whole; intro I'k h'k o'k F'k N'k ho'k l1k; (try k_lt l1k); (try k_sweep))
  | (refine' iter_rng ?r_k ?s_k ?n_k ?F_k ?N_k ?_; (case r_k => with_reducible assumption); (case s_k => decide); (case n_k => exact Eq.refl _); (case F_k => k_asm); (case N_k => k_asm); k_whole; intro I'k h'k F'k N'k l1k; (try k_lt l1k); (try k_sweep)))))
  k_with "own call type:reversed" => ((k_here; k_dflt (refine' rev_rng ?F_k ?N_k ?r_k ?n_k ?s_k ?_; (case F_k => k_asm); (case N_k => k_asm); (case r_k => with_reducible assumption); (case n_k => exact Eq.refl _); (case s_k => decide); k_whole; intro I'k h'k F'k N'k l1k; (try k_lt l1k); (try k_sweep))))
  k_with "own call builtin:dict.items" => ((k_here; k_dflt (refine' items_call ?F_k ?N_k ?m_k ?d_k ?l_k ?_; (case F_k => k_asm); (case N_k => k_asm); (case m_k => k_mem); (case d_k => with_reducible assumption); (case l_k => with_reducible assumption); k_whole; intro V'k h'k F'k N'k l1k; (try k_lt l1k); (try k_sweep))))
  k_with "own getMethod ref" => ((k_here; (with_reducible show wpAny _ _ (getMethod (Value.ref _) (PySem.Str.ofString "items") _) _ _ _); k_dflt (refine' getMethod_tab_any (knd := PySem.strKind _ _) (enc := PyData.str) ?k1_k ?k2_k ?_; (case k1_k => exact rfl); (case k2_k => k_tabat); k_whole)))
  k_with "own call builtin:len" => ((k_here; (with_reducible show wpAny _ _ (call (Value.builtin "len") [Value.ref _]) _ _ _); k_dflt (refine' kst_len ?N_k ?m_k ?e_k ?f_k ?_; (case N_k => k_asm); (case m_k => k_mem); (case e_k => first | exact IntsAre.length (by with_reducible assumption) | with_reducible assumption); (case f_k => omega); k_whole)))
  k_with "own eval ListComp" => ((k_here; k_dflt (refine comp_eval (by with_unfolding_all rfl) (by decide) (by rfl) (by decide) ?_)))
  k_with "own exec Assign cons ListComp" => ((k_here; k_dflt (refine comp_assign (by with_unfolding_all rfl) (by with_unfolding_all rfl) (by decide) (by rfl) (by decide) ?_)))
  k_with "own Exists" => ((k_here; k_dflt (refine' ⟨_, _, _, _, _, _, rfl, ?F_k, ?N_k, ?m_k, ?s_k, ?_⟩; (case F_k => k_asm); (case N_k => k_asm); (case m_k => k_mem); (case s_k => first | exact .inl ⟨_, _, by with_reducible assumption⟩ | exact .inr (.inl ⟨_, _, by with_reducible assumption⟩) | exact .inr (.inr (.inl ⟨_, _, _, rfl⟩)) | exact .inr (.inr (.inr ⟨_, _, _, rfl⟩))); k_whole); intro C'k D'k oC'k h'k tk'k F'k N'k hC'k l1k l2k; (try k_lt l1k); (try k_lt l2k); (try k_sweep)))
  k_with "own CompNext" => ((k_dflt (first | with_reducible refine comp_next ?_ | with_reducible refine comp_name ?_)))
  k_with "own storeName" => ((k_here; k_dflt (refine' comp_store ?a_k ?b_k ?F_k ?N_k ?U_k ?n_k ?_; (case a_k => exact rfl); (case b_k => exact rfl); (case F_k => k_asm); (case N_k => k_asm); (case U_k => k_updF); (case n_k => with_reducible assumption); k_whole; intro h'k oC'k F'k N'k hC'k; (try k_sweep))))
  k_with "own eval Name" => ((k_here; (with_reducible show wpAny _ _ (eval (Expr.Name _ _) (compEnvC _ _ _ _)) _ _ _); k_dflt (first
  | (refine' comp_local ?N_k ?m_k ?n_k ?x_k ?_ ?a_k ?b_k ?c_k; (case a_k => exact rfl); (case b_k => exact rfl); (case c_k => decide); (case N_k => k_asm); (case m_k => k_mem); (case n_k => with_reducible assumption); (case x_k => exact rfl); k_whole)
  | (refine' comp_cell ?N_k ?l_k ?m_k ?d_k ?_ ?a_k ?b_k ?c_k; (case a_k => exact rfl); (case b_k => exact rfl); (case c_k => decide); (case l_k => exact rfl); (case N_k => k_asm); (case m_k => k_mem); (case d_k => with_reducible assumption); k_whole)
  | (refine' comp_free ?N_k ?l_k ?m_k ?d_k ?_ ?a_k ?b_k ?c_k ?e_k; (case a_k => exact rfl); (case b_k => exact rfl); (case c_k => decide); (case e_k => decide); (case l_k => exact rfl); (case N_k => k_asm); (case m_k => k_mem); (case d_k => with_reducible assumption); k_whole))))
  k_with "own compPost" => ((k_here; k_dflt (first
  | (refine' comp_done ?F_k ?N_k ?C_k ?n_k ?D_k ?_; (case F_k => k_asm); (case N_k => k_asm); (case C_k => k_mem); (case n_k => with_reducible assumption); (case D_k => k_upd); k_whole; intro h'k F'k N'k; (try k_sweep))
  | (refine' comp_doneA ?a_k ?b_k ?F_k ?N_k ?C_k ?n_k ?D_k ?_; (case a_k => exact rfl); (case b_k => exact rfl); (case F_k => k_asm); (case N_k => k_asm); (case C_k => k_mem); (case n_k => with_reducible assumption); (case D_k => k_upd); k_whole; intro h'k tk'k F'k N'k; (try k_sweep)))))
  k_with "own call builtin:list.append" => ((k_here; k_dflt (refine' append_V ?k1_k ?k2_k ?k3_k ?_ ?z_k; (case k1_k => k_asm); (case k2_k => k_asm); (case k3_k => k_upd); (case z_k => first | omega | exact Nat.le_of_ble_eq_true rfl | (simp only [List.length_append, List.length_map, List.length_reverse, List.length_singleton]; omega)); k_whole); intro h'k F'k N'k; (try k_sweep)))
  k_with "own eval Name" => ((k_here; (with_reducible show wpAny _ _ (eval (Expr.Name _ _) (compEnvC _ _ _ _)) _ _ _); k_dflt (first
  | (refine' comp_glob ?F_k ?X_k ?T_k ?e_k ?_ ?a_k ?b_k ?c_k ?d_k; (case a_k => exact rfl); (case b_k => exact rfl); (case c_k => exact rfl); (case d_k => decide); (case F_k => k_asm); (case X_k => k_asm); (case T_k => k_asm); (case e_k => with_reducible assumption); k_whole)
  | (refine' comp_bi ?F_k ?X_k ?T_k ?e_k ?v_k ?n_k ?_ ?a_k ?b_k ?c_k ?g_k ?d_k; (case a_k => exact rfl); (case b_k => exact rfl); (case c_k => exact rfl); (case g_k => exact rfl); (case d_k => decide); (case F_k => k_asm); (case X_k => k_asm); (case T_k => k_asm); (case e_k => with_reducible assumption); (case v_k => boot_fast); (case n_k => decide); k_whole))))
  k_with "own newTuple" => ((k_here; k_dflt (refine' newTup ?F_k ?N_k ?_ ?z_k; (case F_k => k_asm); (case N_k => k_asm); (case z_k => exact Nat.le_of_ble_eq_true rfl); k_whole); intro T'k h'k F'k N'k l1k; (try k_lt l1k); (try k_sweep)))
  trivial
open PySem PySem.W PyProof.Rows
theorem letter_callers {e : Ent} {v : Int} (h : 0 ≤ v ∧ v < 3) : (mulE e v.toNat).2.2.2.2 = [v.toNat] := by
  have : v = 0 ∨ v = 1 ∨ v = 2 := three_int h
  rcases this with rfl | rfl | rfl <;> rfl
theorem words18 : True := by
  k_with "own call ref" => ((k_here; k_dflt (refine call_mark ?_)))
  k_with "own truthy ref" => ((k_here; k_dflt (first
  | (refine' truthy_consL ?N_k ?m_k ?z_k ?_; (case N_k => k_asm); (case m_k => k_mem); (case z_k => (try simp only [List.length_map]); omega); k_whole)
  | (refine' truthy_nilL ?N_k ?m_k ?_; (case N_k => k_asm); (case m_k => k_mem); k_whole)
  | (refine' truthy_snocL ?N_k ?m_k ?z_k ?_; (case N_k => k_asm); (case m_k => k_mem); (case z_k => (try simp only [List.length_map, List.length_reverse]); omega); k_whole))))
  k_with "own subscriptTail Name Constant ref int" => ((k_here; (with_reducible show wpAny _ _ (subscriptTail _ _ (Value.ref _) (Value.int _ _)) _ _ _); k_dflt (first
  | (refine' lst_at ?N_k ?m_k ?a_k ?b_k ?x_k ?_ ?z_k; (case z_k => with_unfolding_all rfl); (case N_k => k_asm); (case m_k => k_mem); (case a_k => decide); (case b_k => decide); (case x_k => exact rfl); k_whole)
  | (refine' tup_at ?N_k ?m_k ?a_k ?b_k ?x_k ?_ ?z_k; (case z_k => with_unfolding_all rfl); (case N_k => k_asm); (case m_k => k_mem); (case a_k => decide); (case b_k => decide); (case x_k => exact rfl); k_whole))))
  k_with "own subscriptTail Subscript" => ((k_here; (with_reducible show wpAny _ _ (subscriptTail _ _ (Value.ref _) (Value.int _ _)) _ _ _); k_dflt (refine' tup_at ?N_k ?m_k ?a_k ?b_k ?x_k ?_ ?z_k; (case z_k => with_unfolding_all rfl); (case N_k => k_asm); (case m_k => k_mem); (case a_k => decide); (case b_k => decide); (case x_k => exact rfl); k_whole)))
  k_with "own subscriptTail Name Subscript" => ((k_here; (with_reducible show wpAny _ _ (subscriptTail _ _ (Value.ref _) (Value.int _ _)) _ _ _); k_dflt (refine' lst_at ?N_k ?m_k ?a_k ?b_k ?x_k ?_ ?z_k; (case z_k => with_unfolding_all rfl); (case N_k => k_asm); (case m_k => k_mem); (case x_k => with_reducible assumption); (case a_k => omega); (case b_k => omega); k_whole)))
  k_with "own subscriptTail Name UnaryOp ref int" => ((k_here; (with_reducible show wpAny _ _ (subscriptTail _ _ (Value.ref _) (Value.int _ _)) _ _ _); k_dflt (refine' lst_last ?N_k ?m_k ?_ ?z_k; (case z_k => with_unfolding_all rfl); (case N_k => k_asm); (case m_k => k_mem); k_whole)))
  k_with "own call builtin:list.pop" => ((k_here; k_dflt (refine' pop_last ?F_k ?N_k ?U_k ?z_k ?_; (case F_k => k_asm); (case N_k => k_asm); (case U_k => k_upd); (case z_k => (try simp only [List.length_map, List.length_reverse]); omega); k_whole); intro h'k F'k N'k; (try k_sweep)))
  k_with "own subscriptTail Name Name ref int" => ((k_here; (with_reducible show wpAny _ _ (subscriptTail _ _ (Value.ref _) (Value.int _ _)) _ _ _); k_dflt (first
  | (refine' tup_at ?N_k ?m_k ?a_k ?b_k ?x_k ?_ ?z_k; (case z_k => with_unfolding_all rfl); (case N_k => k_asm); (case m_k => k_mem); (case x_k => with_reducible assumption); (case a_k => omega); (case b_k => omega); k_whole)
  | (refine' int_at ?N_k ?m_k ?i_k ?k_k ?l_k ?_ ?z_k; (case z_k => with_unfolding_all rfl); (case N_k => k_asm); (case m_k => k_mem); (case i_k => with_reducible assumption); (case k_k => omega); (case l_k => omega); k_whole; intro _))))
  k_with "own subscriptTail Name Slice ref ref" => ((k_here; k_dflt (refine' slice_tuple_upto (s := ⟨_, _, _, _, _⟩) (b := 4) ?F_k ?N_k ?m_k ?b_k ?z_k ?_ ?h_k ?g_k; (case h_k => with_unfolding_all rfl); (case g_k => (intro _; with_unfolding_all rfl)); (case F_k => k_asm); (case N_k => k_asm); (case m_k => k_mem); (case b_k => exact Nat.le_of_ble_eq_true rfl); (case z_k => exact Nat.le_of_ble_eq_true rfl); k_whole); intro T'k h'k F'k N'k l1k; (try dsimp only [List.take] at N'k); (try k_lt l1k); (try k_sweep)))
  k_with "own binaryOp Add ref ref" => ((k_here; k_dflt (refine' add_tups ?F_k ?N_k ?a_k ?b_k ?z_k ?_; (case F_k => k_asm); (case N_k => k_asm); (case a_k => k_mem); (case b_k => k_mem); (case z_k => exact Nat.le_of_ble_eq_true rfl); k_whole); intro T'k h'k F'k N'k l1k; (try dsimp only [List.append] at N'k); (try k_lt l1k); (try k_sweep)))
  trivial

variable {prog : Program} {w : World} {K : Frag} {p : Program} {loose : List Str} {mean : ExcName → Option Value} {mg mb : Str → Option Value}
set_option maxHeartbeats 8000000 in
theorem ab_half {dp un : Nat} {gd : Option (List Code)} {cn : Str} {cs : Scope} {L ca9 : Addr} {ccd : Value} {cl : List (Str × Addr)} {outer : List Env} {base g' : Heap} {L' f : Addr} {cdv : Value} {m0 : Str → Option Value} {s : Shared} {Q : Flow → Shared → Prop} {E : Value → Shared → Prop}
   (B' : Below (ktrTop dp un gd cn cs L ca9 ccd cl outer) base (envX cn cs L ca9 ccd cl :: outer) g') (X' : K.In g') (T' : Top p loose mean mg mb g') (hk : cs.kind = .function)
   (b_range : nsIn K mainGlobals (Str.ofString "range") = some none) (b_len : nsIn K mainGlobals (Str.ofString "len") = some none) (b_reversed : nsIn K mainGlobals (Str.ofString "reversed") = some none) (b_sum : nsIn K mainGlobals (Str.ofString "sum") = some none) (b_isinstance : nsIn K mainGlobals (Str.ofString "isinstance") = some none) (b_tuple : nsIn K mainGlobals (Str.ofString "tuple") = some none) (b_zip : nsIn K mainGlobals (Str.ofString "zip") = some none) {C fi fc : Addr} (hC : ClsAt K C fi fc) {fe fy fs fr fq fd fu fa : Addr} (hfe : FunAt K 17 fe .none .none) (hfy : FunAt K 7 fy .none .none) (hfs : FunAt K 12 fs .none .none) (hfr : FunAt K 6 fr .none .none) (hfq : FunAt K 5 fq .none .none) (hfd : FunAt K 8 fd .none .none) (hfu : FunAt K 9 fu .none .none) (hfa : FunAt K 13 fa .none .none) {tl hp xf el a1 xfl ll rl : Addr} {tas : List Addr} {fas : List Addr} {told told' : List Ent} {tn hn nf nl nk1 : Nat} {hvs : Array Value} {e0 e1 e2 : Addr} {u0 u1 u2 i0 i1 i2 wt9 p9 v9 b9 : Int} {tk1 tk2 tk3 : Tok} {gc : Led} {mm : Str → Option Value} (hR : RuleIs gc C rl i0 i1 i2) (hperm : Perm3 i0 i1 i2) (hll : (ll, listOf #[.ref e0, .ref e1, .ref e2] nl) ∈ gc) (hfm : (xfl, listOf (fas.map Value.ref).toArray nf) ∈ gc) (hxf : (fas.map Value.ref)[b9.toNat]? = some (.ref xf)) (hEx : EntIs prog w gc xf (entP u0 u1 u2 wt9)) (hel : [Value.ref e0, .ref e1, .ref e2][v9.toNat]? = some (.ref el)) (hEl : EntIs prog w gc el (letterE v9.toNat)) (hk1 : (a1, tupOf [.int p9 tk1, .int v9 tk2, .int b9 tk3] nk1) ∈ gc) (hv9 : 0 ≤ v9 ∧ v9 < 3) (hb9 : 0 ≤ b9 ∧ b9 ≤ 100) (hEnt : EntsAre prog w gc tas told) (htn : tas.length ≤ 800) (hput : putE (mulE (entP u0 u1 u2 wt9) v9.toNat) v9.toNat told = some told') (ofT : ∀ p ∈ gc, p.1 ≠ tl) (ofH : ∀ p ∈ gc, p.1 ≠ hp) (hne : tl ≠ hp) (m1 : mm (Str.ofString "head") = some (.ref a1)) (m2 : mm (Str.ofString "letters") = some (.ref ll)) (m3 : mm (Str.ofString "family") = some (.ref xfl)) (m4 : mm (Str.ofString "rule") = some (.ref rl)) (m5 : mm (Str.ofString "told") = some (.ref tl))
   (hdp : dp + 8 < recursionLimit) (hun : un + 300 < cLine)
   (F : Fr g' L' s.heap (mm)) (N : News g' L' s.heap ((tl, listOf (refs tas.reverse) tn) :: (hp, listOf hvs hn) :: gc))
   (ret : ∀ tas' tn' nw h' tk m', Fr g' L' h' m' → News g' L' h' ((tl, listOf (refs tas'.reverse) tn') :: (hp, listOf hvs hn) :: (nw ++ gc)) → Abv ((tl, listOf (refs tas.reverse) tn) :: (hp, listOf hvs hn) :: gc) nw → EntsAre prog w (nw ++ gc) tas' told' → tas'.length ≤ tas.length + 1 → (∀ z, z ≠ Str.ofString "product" → z ≠ Str.ofString "like" → m' z = mm z) → Q .next { s with heap := h', toks := tk }) :
   wpAny (model prog w) ((ktrTop dp un gd cn cs L ca9 ccd cl outer).deeper (envOfC (sN (top 18)) (sS (top 18)) L' f cdv)) (execs ((wB (nth (sB (top 18)) 6)).drop 2) (envOfC (sN (top 18)) (sS (top 18)) L' f cdv)) Q E s := by
  w_on
  have hC9 := hC
  obtain ⟨cName, cKeep, cMakes, cInit, cInitFn, cInitIs, cCmp, cCmpFn, cCmpKeep, cCmpIs, cPlainC, cPlainL, cHasD, cOver, cTaker, cSetter, cOwn⟩ := hC
  clear cCmpIs cInitIs
  have hkeep12 := FunAt.keep hfs
  have hname12 := FunAt.name hfs
  dsimp only [top, sN, nth, PySem.Challenge.pw_pg0194_01] at hname12
  have hkeep13 := FunAt.keep hfa
  have hname13 := FunAt.name hfa
  dsimp only [top, sN, nth, PySem.Challenge.pw_pg0194_01] at hname13
  dsimp only [top, wB, sN, sA, sB, sS, nth, PySem.Challenge.pw_pg0194_01, List.drop, List.take]
  try k_fold
  have hR9 := hR
  have hneN : @Ne Nat tl hp := hne
  obtain ⟨dx, lx, y0, y1, y2, hh9, z0, z1, z2, z3, z4, z5, z6, v0, v1, v2, v3, v4, r1, r2, r3, r4, r5, r6⟩ := hR
  replace F := fr_name (x := Str.ofString "head") (v := .ref a1) F m1
  replace F := fr_name (x := Str.ofString "letters") (v := .ref ll) F (by rw [if_neg (by decide)]; exact m2)
  replace F := fr_name (x := Str.ofString "family") (v := .ref xfl) F (by rw [if_neg (by decide), if_neg (by decide)]; exact m3)
  replace F := fr_name (x := Str.ofString "rule") (v := .ref rl) F (by rw [if_neg (by decide), if_neg (by decide), if_neg (by decide)]; exact m4)
  replace F := fr_name (x := Str.ofString "told") (v := .ref tl) F (by rw [if_neg (by decide), if_neg (by decide), if_neg (by decide), if_neg (by decide)]; exact m5)
  k_steps
  refine' Spec.use (st_gen hfs b_isinstance b_tuple b_zip hfa (x := xf) (u := el) (e := entP u0 u1 u2 wt9) (v := v9.toNat) ?z21_8 ?z21_9 ?z21_10 ?z21_11) ?z21_0 ?z21_1 ?z21_2 ?z21_3 ?z21_4 ?z21_5 ?z21_6 ?z21_7 ?_
  (case z21_0 => k_asm)
  (case z21_1 => k_asm)
  (case z21_2 => k_asm)
  (case z21_3 => k_asm)
  (case z21_4 => k_asm)
  (case z21_5 => first | exact rfl | assumption)
  (case z21_6 => ktr_room)
  (case z21_7 => ktr_units)
  (case z21_8 => omega)
  (case z21_9 => exact EntIs.mono hEx (by intro p hp; repeat (first | exact hp | refine List.mem_cons_of_mem _ ?_)))
  (case z21_10 => exact rfl)
  (case z21_11 => exact EntIs.mono hEl (by intro p hp; repeat (first | exact hp | refine List.mem_cons_of_mem _ ?_)))
  intro r7 G7 h7 tk7 F7 N7 P7
  obtain ⟨nl7, eG7, ab7, xp, e7, hEp⟩ := P7
  subst e7 eG7
  try dsimp only
  obtain ⟨G8, hG8⟩ : ∃ G8, nl7 ++ gc = G8 := ⟨_, rfl⟩
  have hG : ∀ p ∈ gc, p ∈ G8 := fun p hp => hG8 ▸ List.mem_append.mpr (.inr hp)
  have oT : ∀ p ∈ G8, p.1 ≠ tl := by
    intro p hp
    rcases List.mem_append.mp (hG8 ▸ hp) with h | h
    · exact Nat.ne_of_gt (ab7 _ List.mem_cons_self _ h)
    · exact ofT p h
  have oH : ∀ p ∈ G8, p.1 ≠ hp := by
    intro p hp9
    rcases List.mem_append.mp (hG8 ▸ hp9) with h | h
    · exact Nat.ne_of_gt (ab7 _ (List.mem_cons_of_mem _ List.mem_cons_self) _ h)
    · exact ofH p h
  have hEp8 : EntIs prog w G8 xp _ := hEp.mono fun p hp => hG8 ▸ List.mem_append.mpr (.inl hp)
  replace N7 := news_sub (news' := (tl, listOf (refs tas.reverse) tn) :: (hp, listOf hvs hn) :: G8) N7 (by
    intro p hp
    rcases List.mem_cons.mp hp with h | h
    · exact List.mem_append.mpr (.inr (h ▸ List.mem_cons_self))
    rcases List.mem_cons.mp h with h | h
    · exact List.mem_append.mpr (.inr (h ▸ List.mem_cons_of_mem _ List.mem_cons_self))
    rcases List.mem_append.mp (hG8 ▸ h) with h | h
    · exact List.mem_append.mpr (.inl h)
    · exact List.mem_append.mpr (.inr (List.mem_cons_of_mem _ (List.mem_cons_of_mem _ h))))
  replace r1 := hG _ r1
  replace r2 := hG _ r2
  replace r3 := hG _ r3
  replace r4 := hG _ r4
  replace r5 := hG _ r5
  replace r6 := hG _ r6
  have hR8 := hR9.mono hG
  replace hll := hG _ hll
  replace hfm := hG _ hfm
  replace hk1 := hG _ hk1
  have hEnt8 := EntsAre.mono hG hEnt
  have ab8 : ∀ p ∈ nl7, p.1 ≠ tl := fun p hp => Nat.ne_of_gt (ab7 _ List.mem_cons_self _ hp)
  cases tas with
  | nil =>
    cases hEnt
    rw [putE] at hput
    cases hput
    unfold refs at N7
    simp only [List.reverse_nil, List.map_nil] at N7
    k_steps
    refine ret [xp] (tn + 1) nl7 _ _ _ (by k_asm) ?_ ab7 (.cons (hG8 ▸ hEp8) .nil) (Nat.le_refl _) ?_
    · rw [hG8]; exact (by k_asm)
    · intro z h1 h2
      simp only [if_neg h1, if_neg h2]
      by_cases qm5 : z = Str.ofString "told"
      · subst qm5; rw [if_pos rfl]; exact m5.symm
      rw [if_neg qm5]
      by_cases qm4 : z = Str.ofString "rule"
      · subst qm4; rw [if_pos rfl]; exact m4.symm
      rw [if_neg qm4]
      by_cases qm3 : z = Str.ofString "family"
      · subst qm3; rw [if_pos rfl]; exact m3.symm
      rw [if_neg qm3]
      by_cases qm2 : z = Str.ofString "letters"
      · subst qm2; rw [if_pos rfl]; exact m2.symm
      rw [if_neg qm2]
      by_cases qm1 : z = Str.ofString "head"
      · subst qm1; rw [if_pos rfl]; exact m1.symm
      rw [if_neg qm1]
  | cons ta tr =>
    have htr : tr.length ≤ 799 := by rw [List.length_cons] at htn; omega
    unfold refs at N7
    simp only [List.reverse_cons, List.map_append, List.map_cons, List.map_nil] at N7
    cases told with
    | nil => cases hEnt
    | cons t0 ts =>
    cases hEnt8 with
    | cons hEt hEr =>
    k_steps
    refine' Spec.use (cmp_gen hC9 (x := rl) (a := ta) (b := xp) ?z22_8 ?z22_9 ?z22_10 ?z22_11) ?z22_0 ?z22_1 ?z22_2 ?z22_3 ?z22_4 ?z22_5 ?z22_6 ?z22_7 ?_
    (case z22_0 => k_asm)
    (case z22_1 => k_asm)
    (case z22_2 => k_asm)
    (case z22_3 => k_asm)
    (case z22_4 => k_asm)
    (case z22_5 => first | exact rfl | assumption)
    (case z22_6 => ktr_room)
    (case z22_7 => ktr_units)
    (case z22_8 => exact hR8.mono (by intro p hp; repeat (first | exact hp | refine List.mem_cons_of_mem _ ?_)))
    (case z22_9 => assumption)
    (case z22_10 => exact EntIs.mono hEt (by intro p hp; repeat (first | exact hp | refine List.mem_cons_of_mem _ ?_)))
    (case z22_11 => exact EntIs.mono hEp8 (by intro p hp; repeat (first | exact hp | refine List.mem_cons_of_mem _ ?_)))
    intro r8 G9 h8 tk8 F8 N8 P8
    obtain ⟨eG9, c9, t9, e9, hc9⟩ := P8
    subst e9 eG9
    try dsimp only
    have hEt' := hEt
    have hEp' := hEp8
    obtain ⟨dt, s0, s1, s2, s3, ns, hmt, hDt⟩ := hEt'
    obtain ⟨dp', s4, s5, s6, s7, np', hmp, hDp⟩ := hEp'
    have hDp9 : DIL prog w G8 dp' [v9.toNat] := letter_callers hv9 ▸ hDp
    k_steps
    · have hlike := hc9.mp (by assumption)
      rw [putE, if_pos (likeB_iff.mpr hlike)] at hput
      split at hput
      case h_2 => cases hput
      rename_i l9 hm9
      cases hput
      k_steps
      refine' Spec.use (ac_gen hfa b_isinstance b_tuple b_zip (d1 := dt) (d2 := dp') hm9 ?z23_8 ?z23_9) ?z23_0 ?z23_1 ?z23_2 ?z23_3 ?z23_4 ?z23_5 ?z23_6 ?z23_7 ?_
      (case z23_0 => k_asm)
      (case z23_1 => k_asm)
      (case z23_2 => k_asm)
      (case z23_3 => k_asm)
      (case z23_4 => k_asm)
      (case z23_5 => first | exact rfl | assumption)
      (case z23_6 => ktr_room)
      (case z23_7 => ktr_units)
      (case z23_8 => exact DIL.mono hDt (by intro p hp; repeat (first | exact hp | refine List.mem_cons_of_mem _ ?_)))
      (case z23_9 => exact DIL.mono hDp9 (by intro p hp; repeat (first | exact hp | refine List.mem_cons_of_mem _ ?_)))
      intro rA GA hA tkA FA NA PA
      obtain ⟨nlA, eGA, abA, dA, eA, hDA⟩ := PA
      subst eA eGA
      try dsimp only
      obtain ⟨G9, e9, N9, oT9, oH9, g89, gA9, hTm⟩ := half_led NA abA (by assumption) oT oH
      clear NA
      have hDA9 := hDA.mono gA9
      k_steps
      obtain ⟨nw, N10, ab10, g10, hm3⟩ := half_fin e9 hG8 (by k_asm) ab7 abA (by assumption) (by assumption) (by assumption)
      refine ret (_ :: tr) (tn + 1 + 1) nw _ _ _ (by k_asm) ?_ ab10 (.cons ⟨dA, s0, s1, s2, s3, 0, hm3, hDA9.mono g10⟩ (hEr.mono fun p hp => g10 p (g89 p hp))) (by simp only [List.length_cons]; omega) ?_
      · unfold refs
        simp only [List.reverse_cons, List.map_append, List.map_cons, List.map_nil]
        exact N10
      · intro z h1 h2
        simp only [if_neg h1, if_neg h2]
        by_cases qm5 : z = Str.ofString "told"
        · subst qm5; rw [if_pos rfl]; exact m5.symm
        rw [if_neg qm5]
        by_cases qm4 : z = Str.ofString "rule"
        · subst qm4; rw [if_pos rfl]; exact m4.symm
        rw [if_neg qm4]
        by_cases qm3 : z = Str.ofString "family"
        · subst qm3; rw [if_pos rfl]; exact m3.symm
        rw [if_neg qm3]
        by_cases qm2 : z = Str.ofString "letters"
        · subst qm2; rw [if_pos rfl]; exact m2.symm
        rw [if_neg qm2]
        by_cases qm1 : z = Str.ofString "head"
        · subst qm1; rw [if_pos rfl]; exact m1.symm
        rw [if_neg qm1]
    · have hlike : ¬ like3 _ _ := fun h => (by assumption : c9 ≠ 0) (hc9.mpr h)
      rw [putE, if_neg (fun h => hlike (likeB_iff.mp h))] at hput
      cases hput
      refine ret (xp :: ta :: tr) (tn + 1) nl7 _ _ _ (by k_asm) ?_ ab7 (.cons (hG8 ▸ hEp8) (.cons (hG8 ▸ hEt) (hG8 ▸ hEr))) (Nat.le_refl _) ?_
      · rw [hG8]; unfold refs; simp only [List.reverse_cons, List.map_append, List.map_cons, List.map_nil]; exact (by k_asm)
      · intro z h1 h2
        simp only [if_neg h1, if_neg h2]
        by_cases qm5 : z = Str.ofString "told"
        · subst qm5; rw [if_pos rfl]; exact m5.symm
        rw [if_neg qm5]
        by_cases qm4 : z = Str.ofString "rule"
        · subst qm4; rw [if_pos rfl]; exact m4.symm
        rw [if_neg qm4]
        by_cases qm3 : z = Str.ofString "family"
        · subst qm3; rw [if_pos rfl]; exact m3.symm
        rw [if_neg qm3]
        by_cases qm2 : z = Str.ofString "letters"
        · subst qm2; rw [if_pos rfl]; exact m2.symm
        rw [if_neg qm2]
        by_cases qm1 : z = Str.ofString "head"
        · subst qm1; rw [if_pos rfl]; exact m1.symm
        rw [if_neg qm1]
theorem turn_abv2 {tl hp Ta Tb : Addr} {x y y2 oa ob : Obj} {gc nw : Led} (ab : ∀ q ∈ (tl, x) :: (hp, y2) :: (Tb, ob) :: (Ta, oa) :: gc, ∀ p ∈ nw, q.1 < p.1) (la : tl < Ta ∧ hp < Ta ∧ AllLt Ta gc) (lb : Ta < Tb ∧ tl < Tb ∧ hp < Tb ∧ AllLt Tb gc) : ∀ q ∈ (tl, x) :: (hp, y) :: gc, ∀ p ∈ nw ++ [(Tb, ob), (Ta, oa)], q.1 < p.1 := by
  intro q hq p hp9
  rcases List.mem_append.mp hp9 with h | h
  · rcases List.mem_cons.mp hq with rfl | hq
    · exact ab _ List.mem_cons_self _ h
    rcases List.mem_cons.mp hq with rfl | hq
    · exact ab (hp, y2) (List.mem_cons_of_mem _ List.mem_cons_self) _ h
    · exact ab _ (by simp [hq]) _ h
  · simp only [List.mem_cons, List.not_mem_nil, or_false] at h
    rcases h with rfl | rfl
    · rcases List.mem_cons.mp hq with rfl | hq
      · exact lb.2.1
      rcases List.mem_cons.mp hq with rfl | hq
      · exact lb.2.2.1
      · exact allLt_lt lb.2.2.2 _ hq
    · rcases List.mem_cons.mp hq with rfl | hq
      · exact la.1
      rcases List.mem_cons.mp hq with rfl | hq
      · exact la.2.1
      · exact allLt_lt la.2.2 _ hq
theorem turn_abv1 {tl hp Ta : Addr} {x y y2 oa : Obj} {gc nw : Led} (ab : ∀ q ∈ (tl, x) :: (hp, y2) :: (Ta, oa) :: gc, ∀ p ∈ nw, q.1 < p.1) (la : tl < Ta ∧ hp < Ta ∧ AllLt Ta gc) : ∀ q ∈ (tl, x) :: (hp, y) :: gc, ∀ p ∈ nw ++ [(Ta, oa)], q.1 < p.1 := by
  intro q hq p hp9
  rcases List.mem_append.mp hp9 with h | h
  · rcases List.mem_cons.mp hq with rfl | hq
    · exact ab _ List.mem_cons_self _ h
    rcases List.mem_cons.mp hq with rfl | hq
    · exact ab (hp, y2) (List.mem_cons_of_mem _ List.mem_cons_self) _ h
    · exact ab _ (by simp [hq]) _ h
  · rcases List.mem_singleton.mp h with rfl
    rcases List.mem_cons.mp hq with rfl | hq
    · exact la.1
    rcases List.mem_cons.mp hq with rfl | hq
    · exact la.2.1
    · exact allLt_lt la.2.2 _ hq
theorem HI.sub {g g' : Led} {a : Addr} {k : Key} (h : HI g a k) (hs : ∀ p ∈ g, p ∈ g' ∨ ∃ vs n, p.2 = listOf vs n) : HI g' a k := by
  obtain ⟨s, t, u, n, hm⟩ := h
  rcases hs _ hm with h | ⟨vs, n', e⟩
  · exact ⟨s, t, u, n, h⟩
  · have e2 := congrArg Obj.cls e
    exact absurd e2 (by simp [tupOf, W.listOf])
theorem turn_HI2 {Ta Tb tl a : Addr} {oa ob : Obj} {vs : Array Value} {n : Nat} {gc nw : Led} {k : Key} (h : HI ((Tb, ob) :: (Ta, oa) :: (tl, listOf vs n) :: gc) a k) : HI ((nw ++ [(Tb, ob), (Ta, oa)]) ++ gc) a k := by
  refine h.sub fun p hp => ?_
  simp only [List.mem_cons] at hp
  rcases hp with rfl | rfl | rfl | h
  · exact .inl (by simp)
  · exact .inl (by simp)
  · exact .inr ⟨_, _, rfl⟩
  · exact .inl (by simp [h])
theorem turn_HI1 {Ta tl a : Addr} {oa : Obj} {vs : Array Value} {n : Nat} {gc nw : Led} {k : Key} (h : HI ((Ta, oa) :: (tl, listOf vs n) :: gc) a k) : HI ((nw ++ [(Ta, oa)]) ++ gc) a k := by
  refine h.sub fun p hp => ?_
  simp only [List.mem_cons] at hp
  rcases hp with rfl | rfl | h
  · exact .inl (by simp)
  · exact .inr ⟨_, _, rfl⟩
  · exact .inl (by simp [h])
theorem words19 : True := by
  k_with "own subscriptTail Name Constant ref int" => ((k_here; (with_reducible show wpAny _ _ (subscriptTail _ _ (Value.ref _) (Value.int _ _)) _ _ _); k_dflt (refine' int_at ?N_k ?m_k ?i_k ?k_k ?l_k ?_ ?z_k; (case z_k => with_unfolding_all rfl); (case N_k => k_asm); (case m_k => k_mem); (case i_k => with_reducible assumption); (case k_k => omega); (case l_k => omega); k_whole); intro _))
  k_with "own subscriptTail Name Name ref int" => ((k_here; (with_reducible show wpAny _ _ (subscriptTail _ _ (Value.ref _) (Value.int _ _)) _ _ _); k_dflt (refine' tup_at ?N_k ?m_k ?a_k ?b_k ?x_k ?_ ?z_k; (case z_k => with_unfolding_all rfl); (case N_k => k_asm); (case m_k => k_mem); (case x_k => with_reducible assumption); (case a_k => omega); (case b_k => omega); k_whole)))
  k_with "own subscriptTail Name Constant ref int" => ((k_here; (with_reducible show wpAny _ _ (subscriptTail _ _ (Value.ref _) (Value.int _ _)) _ _ _); k_dflt (first
  | (refine' lst_at ?N_k ?m_k ?a_k ?b_k ?x_k ?_ ?z_k; (case z_k => with_unfolding_all rfl); (case N_k => k_asm); (case m_k => k_mem); (case a_k => decide); (case b_k => decide); (case x_k => exact rfl); k_whole)
  | (refine' tup_at ?N_k ?m_k ?a_k ?b_k ?x_k ?_ ?z_k; (case z_k => with_unfolding_all rfl); (case N_k => k_asm); (case m_k => k_mem); (case a_k => decide); (case b_k => decide); (case x_k => exact rfl); k_whole))))
  k_with "own subscriptTail Name Name ref int" => ((k_here; (with_reducible show wpAny _ _ (subscriptTail _ _ (Value.ref _) (Value.int _ _)) _ _ _); k_dflt (first
  | (refine' tup_at ?N_k ?m_k ?a_k ?b_k ?x_k ?_ ?z_k; (case z_k => with_unfolding_all rfl); (case N_k => k_asm); (case m_k => k_mem); (case x_k => with_reducible assumption); (case a_k => omega); (case b_k => omega); k_whole)
  | (refine' int_at ?N_k ?m_k ?i_k ?k_k ?l_k ?_ ?z_k; (case z_k => with_unfolding_all rfl); (case N_k => k_asm); (case m_k => k_mem); (case i_k => with_reducible assumption); (case k_k => omega); (case l_k => omega); k_whole; intro _))))
  trivial

set_option maxHeartbeats 8000000 in
theorem ab_turn {dp un : Nat} {gd : Option (List Code)} {cn : Str} {cs : Scope} {L ca9 : Addr} {ccd : Value} {cl : List (Str × Addr)} {outer : List Env} {base g' : Heap} {L' f : Addr} {cdv : Value} {m0 : Str → Option Value} {s : Shared} {Q : Flow → Shared → Prop} {E : Value → Shared → Prop}
   (B' : Below (ktrTop dp un gd cn cs L ca9 ccd cl outer) base (envX cn cs L ca9 ccd cl :: outer) g') (X' : K.In g') (T' : Top p loose mean mg mb g') (hk : cs.kind = .function)
   (b_range : nsIn K mainGlobals (Str.ofString "range") = some none) (b_len : nsIn K mainGlobals (Str.ofString "len") = some none) (b_reversed : nsIn K mainGlobals (Str.ofString "reversed") = some none) (b_sum : nsIn K mainGlobals (Str.ofString "sum") = some none) (b_isinstance : nsIn K mainGlobals (Str.ofString "isinstance") = some none) (b_tuple : nsIn K mainGlobals (Str.ofString "tuple") = some none) (b_zip : nsIn K mainGlobals (Str.ofString "zip") = some none) {C fi fc : Addr} (hC : ClsAt K C fi fc) {fe fy fs fr fq fd fu fa : Addr} (hfe : FunAt K 17 fe .none .none) (hfy : FunAt K 7 fy .none .none) (hfs : FunAt K 12 fs .none .none) (hfr : FunAt K 6 fr .none .none) (hfq : FunAt K 5 fq .none .none) (hfd : FunAt K 8 fd .none .none) (hfu : FunAt K 9 fu .none .none) (hfa : FunAt K 13 fa .none .none) {tl hp a1 xfl ll rl wl ul e0 e1 e2 : Addr} {tas as fas : List Addr} {told told' : List Ent} {tn hn nf nl wn nu : Nat} {u0 u1 u2 i0 i1 i2 p9 v9 b9 : Int} {q0 q1 q2 : Tok} {wvs : List Value} {ws : List Int} {gc : Led} {o1 o2 : Obj} {kq : Addr → Key} {mm : Str → Option Value} (hwl : (wl, listOf wvs.toArray wn) ∈ gc) (hws : IntsAre wvs ws) (hul : (ul, tupOf [.int u0 q0, .int u1 q1, .int u2 q2] nu) ∈ gc) (hc1 : (cel1 L', o1) ∈ gc) (hd1 : o1.data = .cell (some (.ref wl))) (hc2 : (cel2 L', o2) ∈ gc) (hd2 : o2.data = .cell (some (.ref ul))) (hwn : 1 ≤ ws.length ∧ ws.length ≤ 100) (c0 : 1 ≤ u0 ∧ u0 ≤ 100) (c1 : 1 ≤ u1 ∧ u1 ≤ 100) (c2 : 1 ≤ u2 ∧ u2 ≤ 100) (hwb : ∀ x ∈ ws, 0 ≤ x ∧ x ≤ 1000) (hR : RuleIs gc C rl i0 i1 i2) (hperm : Perm3 i0 i1 i2) (hll : (ll, listOf #[.ref e0, .ref e1, .ref e2] nl) ∈ gc) (hE0 : EntIs prog w gc e0 (letterE 0)) (hE1 : EntIs prog w gc e1 (letterE 1)) (hE2 : EntIs prog w gc e2 (letterE 2)) (hfm : (xfl, listOf (fas.map Value.ref).toArray nf) ∈ gc) (hfl : fas.length = ws.length) (hfam : ∀ (i : Nat) (x : Addr), fas[i]? = some x → ∃ wt, ws[i]? = some wt ∧ EntIs prog w gc x (entP u0 u1 u2 wt)) (hHI : ∀ a ∈ a1 :: as, HI gc a (kq a)) (hkq : kq a1 = (p9, v9, b9)) (has : as.length ≤ 2) (hv9 : 0 ≤ v9 ∧ v9 < 3) (hb9 : 0 ≤ b9 ∧ b9 < ws.length) (hEnt : EntsAre prog w gc tas told) (htn : tas.length ≤ 800) (hput : putE (mulE (entP u0 u1 u2 (ws.getD b9.toNat 0)) v9.toNat) v9.toNat told = some told') (ofT : ∀ p ∈ gc, p.1 ≠ tl) (ofH : ∀ p ∈ gc, p.1 ≠ hp) (hne : tl ≠ hp) (m1 : mm (Str.ofString "heap") = some (.ref hp)) (m2 : mm (Str.ofString "letters") = some (.ref ll)) (m3 : mm (Str.ofString "family") = some (.ref xfl)) (m4 : mm (Str.ofString "rule") = some (.ref rl)) (m5 : mm (Str.ofString "told") = some (.ref tl))
   (hdp : dp + 9 < recursionLimit) (hun : un + 300 < cLine)
   (F : Fr g' L' s.heap (mm)) (N : News g' L' s.heap ((tl, listOf (refs tas.reverse) tn) :: (hp, listOf (refs (a1 :: as)) hn) :: gc))
   (ret : ∀ tas' tn' as' hn' kq' nw h' tk m', Fr g' L' h' m' → News g' L' h' ((tl, listOf (refs tas'.reverse) tn') :: (hp, listOf (refs as') hn') :: (nw ++ gc)) → (∀ q ∈ (tl, listOf (refs tas.reverse) tn) :: (hp, listOf (refs (a1 :: as)) hn) :: gc, ∀ p ∈ nw, q.1 < p.1) → EntsAre prog w (nw ++ gc) tas' told' → tas'.length ≤ tas.length + 1 → as'.length ≤ 3 → (∀ a ∈ as', HI (nw ++ gc) a (kq' a)) → as'.map kq' = (if b9 + 1 < (ws.length : Int) then siftK ((-(ws.getD (b9 + 1).toNat 0) - usF u0 u1 u2 v9.toNat, v9, b9 + 1) :: as.map kq) else siftK (popL ((p9, v9, b9) :: as.map kq))) → (∀ z, [Str.ofString "v", Str.ofString "behind", Str.ofString "head", Str.ofString "product", Str.ofString "like"].contains z = false → m' z = mm z) → Q .next { s with heap := h', toks := tk }) :
   wpAny (model prog w) ((ktrTop dp un gd cn cs L ca9 ccd cl outer).deeper (envOfC (sN (top 18)) (sS (top 18)) L' f cdv)) (execs (wB (nth (sB (top 18)) 6)) (envOfC (sN (top 18)) (sS (top 18)) L' f cdv)) Q E s := by
  w_on
  have hC9 := hC
  obtain ⟨cName, cKeep, cMakes, cInit, cInitFn, cInitIs, cCmp, cCmpFn, cCmpKeep, cCmpIs, cPlainC, cPlainL, cHasD, cOver, cTaker, cSetter, cOwn⟩ := hC
  clear cCmpIs cInitIs
  have hkeep12 := FunAt.keep hfs
  have hname12 := FunAt.name hfs
  dsimp only [top, sN, nth, PySem.Challenge.pw_pg0194_01] at hname12
  have hkeep13 := FunAt.keep hfa
  have hname13 := FunAt.name hfa
  dsimp only [top, sN, nth, PySem.Challenge.pw_pg0194_01] at hname13
  have hkeep6 := FunAt.keep hfr
  have hname6 := FunAt.name hfr
  dsimp only [top, sN, nth, PySem.Challenge.pw_pg0194_01] at hname6
  have hkeep5 := FunAt.keep hfq
  have hname5 := FunAt.name hfq
  dsimp only [top, sN, nth, PySem.Challenge.pw_pg0194_01] at hname5
  dsimp only [cel1, cel2] at hc1 hc2
  dsimp only [top, wB, sN, sA, sB, sS, nth, PySem.Challenge.pw_pg0194_01, List.drop, List.take]
  try k_fold
  have hneN : @Ne Nat tl hp := hne
  replace F := fr_name (x := Str.ofString "heap") (v := .ref hp) F m1
  replace F := fr_name (x := Str.ofString "letters") (v := .ref ll) F (by rw [if_neg (by decide)]; exact m2)
  replace F := fr_name (x := Str.ofString "family") (v := .ref xfl) F (by rw [if_neg (by decide), if_neg (by decide)]; exact m3)
  replace F := fr_name (x := Str.ofString "rule") (v := .ref rl) F (by rw [if_neg (by decide), if_neg (by decide), if_neg (by decide)]; exact m4)
  replace F := fr_name (x := Str.ofString "told") (v := .ref tl) F (by rw [if_neg (by decide), if_neg (by decide), if_neg (by decide), if_neg (by decide)]; exact m5)
  obtain ⟨hk1, hk2⟩ := List.forall_mem_cons.mp hHI
  have hk1' := hk1
  rw [hkq] at hk1'
  obtain ⟨tk1, tk2, tk3, nk1, hk1'⟩ := hk1'
  dsimp only at hk1'
  obtain ⟨q9, hq9⟩ := us_get (u0 := u0) (u1 := u1) (u2 := u2) (q0 := q0) (q1 := q1) (q2 := q2) hv9
  obtain ⟨xf, hxf⟩ : ∃ xf, fas[b9.toNat]? = some xf := ⟨_, List.getElem?_eq_getElem (by rw [hfl]; omega)⟩
  obtain ⟨wt9, hwt9, hEx⟩ := hfam _ _ hxf
  have hxf' : (fas.map Value.ref)[b9.toNat]? = some (.ref xf) := by rw [List.getElem?_map, hxf]; rfl
  have hgw : ws.getD b9.toNat 0 = wt9 := by rw [List.getD_eq_getElem?_getD, hwt9]; rfl
  rw [hgw] at hput
  obtain ⟨el, hel, hEl⟩ : ∃ el, [Value.ref e0, .ref e1, .ref e2][v9.toNat]? = some (.ref el) ∧ EntIs prog w gc el (letterE v9.toNat) := by
    have : v9 = 0 ∨ v9 = 1 ∨ v9 = 2 := by omega
    rcases this with rfl | rfl | rfl
    · exact ⟨_, rfl, hE0⟩
    · exact ⟨_, rfl, hE1⟩
    · exact ⟨_, rfl, hE2⟩
  unfold refs at N
  simp only [List.map_cons] at N
  refine execs_split 2 ?_
  dsimp only [List.take]
  by_cases hlt : b9 + 1 < (ws.length : Int)
  · rw [if_pos hlt] at ret
    k_steps
    refine' Spec.use (hr_upd hfr b_len hfd hfu (as := as) (kq := kq) (key := (-(ws.getD (b9 + 1).toNat 0) - usF u0 u1 u2 v9.toNat, v9, b9 + 1)) ?z24_8 ?z24_9 ?z24_10 ?z24_11 ?z24_12) ?z24_0 ?z24_1 ?z24_2 ?z24_3 ?z24_4 ?z24_5 ?z24_6 ?z24_7 ?_
    (case z24_0 => k_asm)
    (case z24_1 => k_asm)
    (case z24_2 => k_asm)
    (case z24_3 => exact Pull.news (by k_asm) (by k_upd))
    (case z24_4 => k_asm)
    (case z24_5 => first | exact rfl | assumption)
    (case z24_6 => ktr_room)
    (case z24_7 => ktr_units)
    (case z24_8 => k_all)
    (case z24_9 => exact has)
    (case z24_10 => exact fun a h => HI.mono (hk2 a h) (by intro p hp; repeat (first | exact hp | refine List.mem_cons_of_mem _ ?_)))
    (case z24_11 => exact fun a h => HI.lt (hk2 a h) (allLt_lt (And.right (And.right (And.right (by assumption : _ ∧ _ ∧ _ ∧ AllLt _ gc))))))
    (case z24_12 => exact ⟨_, _, _, _, by k_mem⟩)
    intro r8 G8 h8 tk8 F8 N8 P8
    obtain ⟨e8, as2, hn2, k2, eG8, has2, hHI2, hmap2⟩ := P8
    subst e8 eG8
    try dsimp only
    k_steps
    refine split_next ?_
    refine' ab_half (m0 := fun _ => none) (tas := tas) (a1 := a1) B' X' T' hk b_range b_len b_reversed b_sum b_isinstance b_tuple b_zip hC9 hfe hfy hfs hfr hfq hfd hfu hfa ?z25_0 ?z25_1 ?z25_2 ?z25_3 ?z25_4 ?z25_5 ?z25_6 ?z25_7 ?z25_8 ?z25_9 ?z25_10 ?z25_11 ?z25_12 ?z25_13 ?z25_14 ?z25_15 ?z25_16 ?z25_17 ?z25_18 ?z25_19 ?z25_20 ?z25_21 ?z25_22 ?z25_23 ?z25_24 ?z25_25 ?_
    (case z25_25 => exact Pull.news (by k_asm) (by k_upd))
    (case z25_24 => k_asm)
    (case z25_0 => exact hR.mono (by intro p hp9; exact List.mem_cons_of_mem _ (List.mem_cons_of_mem _ (hp9))))
    (case z25_1 => exact hperm)
    (case z25_2 => k_mem)
    (case z25_3 => k_mem)
    (case z25_4 => exact hxf')
    (case z25_5 => exact hEx.mono (by intro p hp9; exact List.mem_cons_of_mem _ (List.mem_cons_of_mem _ (hp9))))
    (case z25_6 => exact hel)
    (case z25_7 => exact hEl.mono (by intro p hp9; exact List.mem_cons_of_mem _ (List.mem_cons_of_mem _ (hp9))))
    (case z25_8 => k_mem)
    (case z25_9 => exact hv9)
    (case z25_10 => exact ⟨hb9.1, by omega⟩)
    (case z25_11 => exact hEnt.mono (by intro p hp9; exact List.mem_cons_of_mem _ (List.mem_cons_of_mem _ (hp9))))
    (case z25_12 => exact htn)
    (case z25_13 => exact hput)
    (case z25_14 => k_all)
    (case z25_15 => k_all)
    (case z25_16 => exact hne)
    (case z25_17 => (try dsimp only); repeat (first | exact if_pos rfl | refine (if_neg (by decide)).trans ?_))
    (case z25_18 => (try dsimp only); repeat (first | exact if_pos rfl | refine (if_neg (by decide)).trans ?_))
    (case z25_19 => (try dsimp only); repeat (first | exact if_pos rfl | refine (if_neg (by decide)).trans ?_))
    (case z25_20 => (try dsimp only); repeat (first | exact if_pos rfl | refine (if_neg (by decide)).trans ?_))
    (case z25_21 => (try dsimp only); repeat (first | exact if_pos rfl | refine (if_neg (by decide)).trans ?_))
    (case z25_22 => omega)
    (case z25_23 => omega)
    intro tas' tn' nw h' tk m' Fz Nz abz hEz hlz hmz
    refine ret tas' tn' as2 hn2 k2 (nw ++ [_, _]) h' tk m' Fz (by rw [List.append_assoc]; exact Nz) ?_ (by rw [List.append_assoc]; exact hEz) hlz has2 ?_ hmap2 ?_
    · refine turn_abv2 abz (by assumption) (by assumption)
    · exact fun a ha => turn_HI2 (hHI2 a ha)
    · intro z hz9
      simp only [List.contains_cons, List.contains_nil, Bool.or_false, Bool.or_eq_false_iff, beq_eq_false_iff_ne, ne_eq] at hz9
      obtain ⟨y1, y2, y3, y4, y5⟩ := hz9
      refine (hmz z y4 y5).trans ?_
      simp only [if_neg y1, if_neg y2, if_neg y3]
      by_cases qm5 : z = Str.ofString "told"
      · subst qm5; rw [if_pos rfl]; exact m5.symm
      rw [if_neg qm5]
      by_cases qm4 : z = Str.ofString "rule"
      · subst qm4; rw [if_pos rfl]; exact m4.symm
      rw [if_neg qm4]
      by_cases qm3 : z = Str.ofString "family"
      · subst qm3; rw [if_pos rfl]; exact m3.symm
      rw [if_neg qm3]
      by_cases qm2 : z = Str.ofString "letters"
      · subst qm2; rw [if_pos rfl]; exact m2.symm
      rw [if_neg qm2]
      by_cases qm1 : z = Str.ofString "heap"
      · subst qm1; rw [if_pos rfl]; exact m1.symm
      rw [if_neg qm1]
  · rw [if_neg hlt] at ret
    k_steps
    refine' Spec.use (hq_upd hfq b_len hfd hfu (a1 := a1) (as := as) (kq := kq) ?z26_8 ?z26_9 ?z26_10) ?z26_0 ?z26_1 ?z26_2 ?z26_3 ?z26_4 ?z26_5 ?z26_6 ?z26_7 ?_
    (case z26_0 => k_asm)
    (case z26_1 => k_asm)
    (case z26_2 => k_asm)
    (case z26_3 => exact Pull.news (by k_asm) (by k_upd))
    (case z26_4 => k_asm)
    (case z26_5 => first | exact rfl | assumption)
    (case z26_6 => ktr_room)
    (case z26_7 => ktr_units)
    (case z26_8 => k_all)
    (case z26_9 => exact has)
    (case z26_10 => exact fun a h => HI.mono (hHI a h) (by intro p hp; repeat (first | exact hp | refine List.mem_cons_of_mem _ ?_)))
    intro r8 G8 h8 tk8 F8 N8 P8
    obtain ⟨e8, as2, hn2, k2, eG8, has2, hHI2, hmap2⟩ := P8
    subst e8 eG8
    rw [hkq] at hmap2
    try dsimp only
    k_steps
    refine split_next ?_
    refine' ab_half (m0 := fun _ => none) (tas := tas) (a1 := a1) B' X' T' hk b_range b_len b_reversed b_sum b_isinstance b_tuple b_zip hC9 hfe hfy hfs hfr hfq hfd hfu hfa ?z27_0 ?z27_1 ?z27_2 ?z27_3 ?z27_4 ?z27_5 ?z27_6 ?z27_7 ?z27_8 ?z27_9 ?z27_10 ?z27_11 ?z27_12 ?z27_13 ?z27_14 ?z27_15 ?z27_16 ?z27_17 ?z27_18 ?z27_19 ?z27_20 ?z27_21 ?z27_22 ?z27_23 ?z27_24 ?z27_25 ?_
    (case z27_25 => exact Pull.news (by k_asm) (by k_upd))
    (case z27_24 => k_asm)
    (case z27_0 => exact hR.mono (by intro p hp9; exact List.mem_cons_of_mem _ (hp9)))
    (case z27_1 => exact hperm)
    (case z27_2 => k_mem)
    (case z27_3 => k_mem)
    (case z27_4 => exact hxf')
    (case z27_5 => exact hEx.mono (by intro p hp9; exact List.mem_cons_of_mem _ (hp9)))
    (case z27_6 => exact hel)
    (case z27_7 => exact hEl.mono (by intro p hp9; exact List.mem_cons_of_mem _ (hp9)))
    (case z27_8 => k_mem)
    (case z27_9 => exact hv9)
    (case z27_10 => exact ⟨hb9.1, by omega⟩)
    (case z27_11 => exact hEnt.mono (by intro p hp9; exact List.mem_cons_of_mem _ (hp9)))
    (case z27_12 => exact htn)
    (case z27_13 => exact hput)
    (case z27_14 => k_all)
    (case z27_15 => k_all)
    (case z27_16 => exact hne)
    (case z27_17 => (try dsimp only); repeat (first | exact if_pos rfl | refine (if_neg (by decide)).trans ?_))
    (case z27_18 => (try dsimp only); repeat (first | exact if_pos rfl | refine (if_neg (by decide)).trans ?_))
    (case z27_19 => (try dsimp only); repeat (first | exact if_pos rfl | refine (if_neg (by decide)).trans ?_))
    (case z27_20 => (try dsimp only); repeat (first | exact if_pos rfl | refine (if_neg (by decide)).trans ?_))
    (case z27_21 => (try dsimp only); repeat (first | exact if_pos rfl | refine (if_neg (by decide)).trans ?_))
    (case z27_22 => omega)
    (case z27_23 => omega)
    intro tas' tn' nw h' tk m' Fz Nz abz hEz hlz hmz
    refine ret tas' tn' as2 hn2 k2 (nw ++ [_]) h' tk m' Fz (by rw [List.append_assoc]; exact Nz) ?_ (by rw [List.append_assoc]; exact hEz) hlz has2 ?_ hmap2 ?_
    · refine turn_abv1 abz (by assumption)
    · exact fun a ha => turn_HI1 (hHI2 a ha)
    · intro z hz9
      simp only [List.contains_cons, List.contains_nil, Bool.or_false, Bool.or_eq_false_iff, beq_eq_false_iff_ne, ne_eq] at hz9
      obtain ⟨y1, y2, y3, y4, y5⟩ := hz9
      refine (hmz z y4 y5).trans ?_
      simp only [if_neg y1, if_neg y2, if_neg y3]
      by_cases qm5 : z = Str.ofString "told"
      · subst qm5; rw [if_pos rfl]; exact m5.symm
      rw [if_neg qm5]
      by_cases qm4 : z = Str.ofString "rule"
      · subst qm4; rw [if_pos rfl]; exact m4.symm
      rw [if_neg qm4]
      by_cases qm3 : z = Str.ofString "family"
      · subst qm3; rw [if_pos rfl]; exact m3.symm
      rw [if_neg qm3]
      by_cases qm2 : z = Str.ofString "letters"
      · subst qm2; rw [if_pos rfl]; exact m2.symm
      rw [if_neg qm2]
      by_cases qm1 : z = Str.ofString "heap"
      · subst qm1; rw [if_pos rfl]; exact m1.symm
      rw [if_neg qm1]
theorem words20 : True := by
  k_with "own eval Name" => ((k_here; (with_reducible show wpAny _ _ (eval (Expr.Name _ _) (compEnvC _ _ _ _)) _ _ _); k_dflt (first
  | (refine' comp_local ?N_k ?m_k ?n_k ?x_k ?_ ?a_k ?b_k ?c_k; (case a_k => exact rfl); (case b_k => exact rfl); (case c_k => decide); (case N_k => k_asm); (case m_k => k_mem); (case n_k => with_reducible assumption); (case x_k => exact rfl); k_whole)
  | (refine' comp_cell ?N_k ?l_k ?m_k ?d_k ?_ ?a_k ?b_k ?c_k; (case a_k => exact rfl); (case b_k => exact rfl); (case c_k => decide); (case l_k => exact rfl); (case N_k => k_asm); (case m_k => k_mem); (case d_k => with_reducible assumption); k_whole)
  | (refine' comp_free ?N_k ?l_k ?m_k ?d_k ?_ ?a_k ?b_k ?c_k ?e_k; (case a_k => exact rfl); (case b_k => exact rfl); (case c_k => decide); (case e_k => decide); (case l_k => exact rfl); (case N_k => k_asm); (case m_k => k_mem); (case d_k => with_reducible assumption); k_whole))))
  k_with "own eval Name" => ((k_here; (with_reducible show wpAny _ _ (eval (Expr.Name _ _) (compEnvC _ _ _ _)) _ _ _); k_dflt (first
  | (refine' comp_local ?N_k ?m_k ?n_k ?x_k ?_ ?a_k ?b_k ?c_k; (case a_k => exact rfl); (case b_k => exact rfl); (case c_k => decide); (case N_k => k_asm); (case m_k => k_mem); (case n_k => with_reducible assumption); (case x_k => exact rfl); k_whole)
  | (refine' comp_cell ?N_k ?l_k ?m_k ?d_k ?_ ?a_k ?b_k ?c_k; (case a_k => exact rfl); (case b_k => exact rfl); (case c_k => decide); (case l_k => exact rfl); (case N_k => k_asm); (case m_k => k_mem); (case d_k => with_reducible assumption); k_whole)
  | (refine' comp_free ?N_k ?l_k ?m_k ?d_k ?_ ?a_k ?b_k ?c_k ?e_k; (case a_k => exact rfl); (case b_k => exact rfl); (case c_k => decide); (case e_k => decide); (case l_k => exact rfl); (case N_k => k_asm); (case m_k => k_mem); (case d_k => with_reducible assumption); k_whole))))
  k_with "own eval Name" => ((k_here; (with_reducible show wpAny _ _ (eval (Expr.Name _ _) (compEnvC _ _ _ _)) _ _ _); k_dflt (first
  | (refine' comp_glob ?F_k ?X_k ?T_k ?e_k ?_ ?a_k ?b_k ?c_k ?d_k; (case a_k => exact rfl); (case b_k => exact rfl); (case c_k => exact rfl); (case d_k => decide); (case F_k => k_asm); (case X_k => k_asm); (case T_k => k_asm); (case e_k => with_reducible assumption); k_whole)
  | (refine' comp_bi ?F_k ?X_k ?T_k ?e_k ?v_k ?n_k ?_ ?a_k ?b_k ?c_k ?g_k ?d_k; (case a_k => exact rfl); (case b_k => exact rfl); (case c_k => exact rfl); (case g_k => exact rfl); (case d_k => decide); (case F_k => k_asm); (case X_k => k_asm); (case T_k => k_asm); (case e_k => with_reducible assumption); (case v_k => boot_fast); (case n_k => decide); k_whole))))
  k_with "own call ref" => ((k_here; k_dflt (refine call_mark ?_)))
  k_with "own call ref" => ((k_here; k_dflt (refine' Spec.use (en_gen ?x0_k ?x1_k ?x2_k ?x3_k ?x4_k ?x5_k ?x6_k) ?kB_k ?kF_k ?kX_k ?kN_k ?kT_k ?kk_k ?kd_k ?ku_k ?_; (case kB_k => k_asm); (case kF_k => k_asm); (case kX_k => k_asm); (case kN_k => k_asm); (case kT_k => k_asm); (case kk_k => first | exact rfl | assumption); (case kd_k => ktr_room); (case ku_k => ktr_units); (case x0_k => assumption); (case x1_k => assumption); (case x2_k => k_mem); (case x3_k => assumption); (case x4_k => assumption); (case x5_k => assumption); (case x6_k => assumption); k_whole); intro r9k news9k h9k tk9k F9k N9k P9k; (obtain ⟨nl9k, e9k, ab9k, a9k, f9k, E9k⟩ := P9k; subst e9k; subst f9k); (try dsimp only); (try k_fold)))
  k_with "own call ref" => ((k_here; k_dflt (refine' Spec.use (hy3 ?x0_k ?x1_k ?x2_k ?x3_k ?x4_k ?x5_k ?x6_k ?x7_k ?x8_k ?x9_k) ?kB_k ?kF_k ?kX_k ?kN_k ?kT_k ?kk_k ?kd_k ?ku_k ?_; (case kB_k => k_asm); (case kF_k => k_asm); (case kX_k => k_asm); (case kN_k => exact Pull.news (by k_asm) (by k_upd)); (case kT_k => k_asm); (case kk_k => first | exact rfl | assumption); (case kd_k => ktr_room); (case ku_k => ktr_units); (case x0_k => assumption); (case x1_k => assumption); (case x2_k => assumption); (case x3_k => assumption); (case x4_k => assumption); (case x5_k => assumption); (case x6_k => k_all); (case x7_k => first | assumption | exact HI.cons (by assumption)); (case x8_k => first | assumption | exact HI.cons (by assumption)); (case x9_k => first | assumption | exact HI.cons (by assumption)); k_whole); intro r9k news9k h9k tk9k F9k N9k P9k; (obtain ⟨e9k, n9k, f9k⟩ := P9k; subst e9k; subst f9k); (try dsimp only); (try k_fold)))
  k_with "own exec While Name cons nil" => ((k_here; k_dflt (refine while_mark ?_)))
  trivial

set_option maxHeartbeats 8000000 in
theorem ab_rest {dp un : Nat} {gd : Option (List Code)} {cn : Str} {cs : Scope} {L ca9 : Addr} {ccd : Value} {cl : List (Str × Addr)} {outer : List Env} {base g' : Heap} {L' f : Addr} {cdv : Value} {m0 : Str → Option Value} {s : Shared} {Q : Flow → Shared → Prop} {E : Value → Shared → Prop}
   (B' : Below (ktrTop dp un gd cn cs L ca9 ccd cl outer) base (envX cn cs L ca9 ccd cl :: outer) g') (X' : K.In g') (T' : Top p loose mean mg mb g') (hk : cs.kind = .function)
   (b_range : nsIn K mainGlobals (Str.ofString "range") = some none) (b_len : nsIn K mainGlobals (Str.ofString "len") = some none) (b_reversed : nsIn K mainGlobals (Str.ofString "reversed") = some none) (b_sum : nsIn K mainGlobals (Str.ofString "sum") = some none) (b_isinstance : nsIn K mainGlobals (Str.ofString "isinstance") = some none) (b_tuple : nsIn K mainGlobals (Str.ofString "tuple") = some none) (b_zip : nsIn K mainGlobals (Str.ofString "zip") = some none) {C fi fc : Addr} (hC : ClsAt K C fi fc) {fe fy fs fr fq fd fu fa : Addr} (hfe : FunAt K 17 fe .none .none) (hfy : FunAt K 7 fy .none .none) (hfs : FunAt K 12 fs .none .none) (hfr : FunAt K 6 fr .none .none) (hfq : FunAt K 5 fq .none .none) (hfd : FunAt K 8 fd .none .none) (hfu : FunAt K 9 fu .none .none) (hfa : FunAt K 13 fa .none .none) {wl ul ll rl e0 e1 e2 : Addr} {wvs : List Value} {ws : List Int} {wn nu nl : Nat} {u0 u1 u2 i0 i1 i2 : Int} {q0 q1 q2 : Tok} {gx : Led} {o1 o2 : Obj} {out : List Ent} {fuel : Nat} (hwl : (wl, listOf wvs.toArray wn) ∈ gx) (hws : IntsAre wvs ws) (hul : (ul, tupOf [.int u0 q0, .int u1 q1, .int u2 q2] nu) ∈ gx) (hR : RuleIs gx C rl i0 i1 i2) (hperm : Perm3 i0 i1 i2) (hll : (ll, listOf #[.ref e0, .ref e1, .ref e2] nl) ∈ gx) (hE0 : EntIs prog w gx e0 (letterE 0)) (hE1 : EntIs prog w gx e1 (letterE 1)) (hE2 : EntIs prog w gx e2 (letterE 2)) (hc1 : (cel1 L', o1) ∈ gx) (hd1 : o1.data = .cell (some (.ref wl))) (hc2 : (cel2 L', o2) ∈ gx) (hd2 : o2.data = .cell (some (.ref ul))) (hwb : ∀ x ∈ ws, 0 ≤ x ∧ x ≤ 1000) (hwn : 1 ≤ ws.length ∧ ws.length ≤ 100) (c0 : 1 ≤ u0 ∧ u0 ≤ 100) (c1 : 1 ≤ u1 ∧ u1 ≤ 100) (c2 : 1 ≤ u2 ∧ u2 ≤ 100) (hfuel : fuel ≤ 700) (hrun : abGo (usF u0 u1 u2) ws (entP u0 u1 u2) fuel (siftK [(-(ws.getD 0 0) - u0, 0, 0), (-(ws.getD 0 0) - u1, 1, 0), (-(ws.getD 0 0) - u2, 2, 0)]) [] = some out)
   (hdp : dp + 10 < recursionLimit) (hun : un + 300 < cLine)
   (F : Fr g' L' s.heap (fun y => if y = Str.ofString "letters" then some (.ref ll) else if y = Str.ofString "rule" then some (.ref rl) else m0 y)) (N : News g' L' s.heap (gx))
   (hE : PassesOwn (model prog w) ((ktrTop dp un gd cn cs L ca9 ccd cl outer).deeper (envOfC (sN (top 18)) (sS (top 18)) L' f cdv)) (envOfC (sN (top 18)) (sS (top 18)) L' f cdv) E) (ret : ∀ a tas n G h' tk m', Fr g' L' h' m' → News g' L' h' G → (∀ p ∈ gx, p ∈ G) → Trk gx G → (a, listOf (refs tas) n) ∈ G → EntsAre prog w G tas out.reverse → Q (.ret (.ref a)) { s with heap := h', toks := tk }) :
   wpAny (model prog w) ((ktrTop dp un gd cn cs L ca9 ccd cl outer).deeper (envOfC (sN (top 18)) (sS (top 18)) L' f cdv)) (execs ((sB (top 18)).drop 2) (envOfC (sN (top 18)) (sS (top 18)) L' f cdv)) Q E s := by
  w_on
  have hC9 := hC
  obtain ⟨cName, cKeep, cMakes, cInit, cInitFn, cInitIs, cCmp, cCmpFn, cCmpKeep, cCmpIs, cPlainC, cPlainL, cHasD, cOver, cTaker, cSetter, cOwn⟩ := hC
  clear cCmpIs cInitIs
  have hkeep17 := FunAt.keep hfe
  have hname17 := FunAt.name hfe
  dsimp only [top, sN, nth, PySem.Challenge.pw_pg0194_01] at hname17
  have hkeep7 := FunAt.keep hfy
  have hname7 := FunAt.name hfy
  dsimp only [top, sN, nth, PySem.Challenge.pw_pg0194_01] at hname7
  have hkeep12 := FunAt.keep hfs
  have hname12 := FunAt.name hfs
  dsimp only [top, sN, nth, PySem.Challenge.pw_pg0194_01] at hname12
  have hkeep6 := FunAt.keep hfr
  have hname6 := FunAt.name hfr
  dsimp only [top, sN, nth, PySem.Challenge.pw_pg0194_01] at hname6
  have hkeep5 := FunAt.keep hfq
  have hname5 := FunAt.name hfq
  dsimp only [top, sN, nth, PySem.Challenge.pw_pg0194_01] at hname5
  have hkeep13 := FunAt.keep hfa
  have hname13 := FunAt.name hfa
  dsimp only [top, sN, nth, PySem.Challenge.pw_pg0194_01] at hname13
  have hCls9 := hC9
  dsimp only [cel1, cel2] at hc1 hc2
  dsimp only [top, sN, sS, nth, PySem.Challenge.pw_pg0194_01] at hE
  dsimp only [top, sN, sA, sB, sS, nth, PySem.Challenge.pw_pg0194_01, List.drop, List.take]
  try k_fold
  k_steps
  refine' comp_map (fun g i y => ∃ x, y = .ref x ∧ ∃ wt, ws[i]? = some wt ∧ EntIs prog w g x (entP u0 u1 u2 wt)) ?z16_0 ?z16_1 ?z16_2 ?z16_3 ?z16_4 ?z16_5 ?z16_6 ?z16_7 ?z16_8 ?z16_9 ?z16_10 ?z16_11 ?z16_12 ?z16_13 ?z16_14 ?z16_15 ?z16_16 ?z16_17 ?_
  (case z16_0 => exact fun g g9 i v hs h => h.elim fun x h => ⟨x, h.1, h.2.elim fun wt h => ⟨wt, h.1, h.2.mono hs⟩⟩)
  (case z16_1 => exact src_lst (l := wl) (vs := wvs) (k := wn))
  (case z16_2 => exact rfl)
  (case z16_3 => exact rfl)
  (case z16_4 => exact rfl)
  (case z16_5 => rw [hws.length]; omega)
  (case z16_6 => k_asm)
  (case z16_7 => exact pull3 (by k_asm) (by k_upd) (by k_upd) (by k_upd))
  (case z16_8 => with_reducible assumption)
  (case z16_9 => assumption)
  (case z16_10 => k_ne)
  (case z16_11 => k_ne)
  (case z16_12 => k_ne)
  (case z16_13 => k_all)
  (case z16_14 => k_all)
  (case z16_15 => k_all)
  (case z16_16 => exact fun g9 hs => hs _ hwl)
  (case z16_17 =>
    intro j v vs' nw k' h' tk' oC' o9 E9 hj hv' n1 n2 n3 F9 N9 hC9
    obtain ⟨wt, t, hwt, rfl⟩ := ints_get (by assumption) hv'
    have hg9 := sub4 N9
    have w1 := hg9 _ hc2
    have w2 := hg9 _ hul
    have hb9 := hwb wt (mem_of_get hwt)
    try dsimp only
    try k_fold
    k_steps
    refine' cend_new (front := [_, _, _]) ?z15_0 ?z15_1 ?z15_2 ?z15_3
    (case z15_0 => k_asm)
    (case z15_1 => k_asm)
    (case z15_2 => assumption)
    (case z15_3 => exact ⟨_, rfl, wt, hwt, EntIs.mono (by assumption) (fun p hp => List.mem_append.mpr (.inl hp))⟩))
  intro vsf nwf kf oC9 mC9 h9 tk9 hl9 hR9 F9 N9 hC9 oC9' oD9' ab9
  obtain ⟨fas, rfl, hfl, hfam⟩ := refs_of hl9 hR9
  clear hR9
  try dsimp only
  have hN : ∀ p ∈ gx, p ∈ nwf ++ gx := fun p hp => List.mem_append.mpr (.inr hp)
  have p1 := hN _ hc1
  have p2 := hN _ hc2
  have p3 := hN _ hul
  have p4 := hN _ hwl
  k_steps
  refine' comp_map (fun g i y => ∃ x, y = .ref x ∧ HI g x (-(ws.getD 0 0) - usF u0 u1 u2 i, (i : Int), 0)) ?z18_0 ?z18_1 ?z18_2 ?z18_3 ?z18_4 ?z18_5 ?z18_6 ?z18_7 ?z18_8 ?z18_9 ?z18_10 ?z18_11 ?z18_12 ?z18_13 ?z18_14 ?z18_15 ?z18_16 ?z18_17 ?_
  (case z18_0 => exact fun g g9 i v hs h => h.elim fun x h => ⟨x, h.1, h.2.mono hs⟩)
  (case z18_1 => exact src_up (n := 3))
  (case z18_2 => exact rfl)
  (case z18_3 => exact rfl)
  (case z18_4 => exact rfl)
  (case z18_5 => exact Nat.le_of_ble_eq_true rfl)
  (case z18_6 => k_asm)
  (case z18_7 => exact pull3 (by k_asm) (by k_upd) (by k_upd) (by k_upd))
  (case z18_8 => exact rfl)
  (case z18_9 => assumption)
  (case z18_10 => k_ne)
  (case z18_11 => k_ne)
  (case z18_12 => k_ne)
  (case z18_13 => k_all)
  (case z18_14 => k_all)
  (case z18_15 => k_all)
  (case z18_16 => exact fun _ _ => trivial)
  (case z18_17 =>
    intro j v vs' nw k' h' tk' oC' o9 E9 hj hv' n1 n2 n3 F9 N9 hC9
    obtain ⟨t, rfl⟩ := hv'
    obtain ⟨q, hq⟩ := us_get (u0 := u0) (u1 := u1) (u2 := u2) (q0 := q0) (q1 := q1) (q2 := q2) (v := (j : Int)) (by omega)
    have hg9 := sub4 N9
    have w1 := hg9 (_, o1) (by k_mem)
    have w2 := hg9 (_, o2) (by k_mem)
    have w3 := hg9 (ul, _) (by k_mem)
    have w4 := hg9 (wl, _) (by k_mem)
    try dsimp only
    try k_fold
    k_steps
    refine' cend_one (front := [_, _, _]) ?z17_0 ?z17_1 ?z17_2 ?z17_3
    (case z17_0 => k_asm)
    (case z17_1 => k_asm)
    (case z17_2 => exact allLt_lt (by assumption))
    (case z17_3 => exact ⟨_, rfl, _, _, _, _, List.mem_cons_self⟩))
  intro vsh nwh kh oC8 mC8 h8 tk8 hl8 hR8 F8 N8 hC8 oC8' oD8' ab8
  obtain ⟨a1, a2, a3, rfl, hi1, hi2, hi3⟩ := three_refs hl8 hR8
  clear hR8
  obtain ⟨kf9, hk1, hk2, hk3, ek1, ek2, ek3⟩ := key_fun (news_tail (news_tail N8)) hi1 hi2 hi3 (by simp) (by simp) (by simp)
  have l1f := And.right (by assumption : _ ∧ AllLt _ gx)
  have tr9 : Trk gx (nwf ++ gx) := Trk.app (fun p hp q hq => ab9 q (List.mem_cons_of_mem _ (List.mem_cons_of_mem _ (List.mem_cons_of_mem _ hq))) p hp) Trk.refl
  try dsimp only
  k_steps
  refine' while_two (σ := List Addr × Nat × List Addr × Nat × Led × (Addr → Key) × List Ent × Nat) (fun c => listOf (refs c.1.reverse) c.2.1) (fun c => listOf (refs c.2.2.1) c.2.2.2.1) (fun c => c.2.2.2.2.1) [Str.ofString "v", Str.ofString "behind", Str.ofString "head", Str.ofString "product", Str.ofString "like"] (fun c => c.2.2.1.length ≤ 3 ∧ (∀ a ∈ c.2.2.1, HI c.2.2.2.2.1 a (c.2.2.2.2.2.1 a)) ∧ EntsAre prog w c.2.2.2.2.1 c.1 c.2.2.2.2.2.2.1 ∧ abGo (usF u0 u1 u2) ws (entP u0 u1 u2) c.2.2.2.2.2.2.2 (c.2.2.1.map c.2.2.2.2.2.1) c.2.2.2.2.2.2.1 = some out ∧ Trk gx c.2.2.2.2.1 ∧ c.1.length + c.2.2.2.2.2.2.2 ≤ 700) (fun c => c.2.2.2.2.2.2.2) ([], 0, sift kf9 [a1, a2, a3], _, _, kf9, [], fuel) ?z20_0 ?z20_1 ?z20_2 ?z20_3 ?z20_4 ?z20_5 ?z20_6 ?z20_7
  (case z20_0 => k_asm)
  (case z20_1 => k_asm)
  (case z20_2 => k_ne)
  (case z20_3 => k_all)
  (case z20_4 => k_all)
  (case z20_5 =>
    refine ⟨?_, ?_, .nil, ?_, ?_, by simpa using hfuel⟩
    · show (sift kf9 [a1, a2, a3]).length ≤ 3
      rw [sift_len]; exact Nat.le_refl 3
    · intro a ha
      have ha' := sift_mem (show a ∈ sift kf9 [a1, a2, a3] from ha)
      simp only [List.mem_cons, List.not_mem_nil, or_false] at ha'
      rcases ha' with rfl | rfl | rfl
      · exact hk1
      · exact hk2
      · exact hk3
    · show abGo _ _ _ fuel ((sift kf9 [a1, a2, a3]).map kf9) [] = some out
      rw [sift_map (l := [a1, a2, a3]) (Nat.le_refl 3), List.map_cons, List.map_cons, List.map_cons, List.map_nil, ek1, ek2, ek3]
      exact hrun
    · refine Trk.app (fun p hp q hq => ab8 q ?_ p hp) (Trk.cons ?_ tr9)
      · exact List.mem_cons_of_mem _ (List.mem_cons_of_mem _ (List.mem_cons_of_mem _ (List.mem_cons_of_mem _ (List.mem_append.mpr (.inr hq)))))
      · exact allLt_lt l1f)
  (case z20_6 =>
    intro tl hp etl ehp c u h tk hP hB hne ofT ofH F5 N5
    subst etl ehp
    obtain ⟨tas, tn, as, hn, gc, kq, told, fl⟩ := c
    obtain ⟨has, hHI, hEnt, hgo, hTrk, hfu9⟩ := hP
    dsimp only at has hHI hEnt hgo hTrk hB ofT ofH F5 N5 hfu9
    have hB9 := hB
    have hg : ∀ p ∈ gx, p ∈ gc := fun p hp => hB p (List.mem_append.mpr (.inr (List.mem_cons_of_mem _ (List.mem_append.mpr (.inr hp)))))
    have hfm := hB (_, listOf (fas.map Value.ref).toArray kf) (List.mem_append.mpr (.inr List.mem_cons_self))
    have hfam9 : ∀ i x, fas[i]? = some x → ∃ wt, ws[i]? = some wt ∧ EntIs prog w gc x (entP u0 u1 u2 wt) := fun i x e => (hfam i x e).elim fun wt h => ⟨wt, h.1, h.2.mono fun p hp => hB p (List.mem_append.mpr (.inr (List.mem_cons_of_mem _ hp)))⟩
    have n1 := hg _ hc1
    have n2 := hg _ hc2
    have n3 := hg _ hul
    have n4 := hg _ hwl
    have n5 := hg _ hll
    have hR9 := hR.mono hg
    have hE0' := hE0.mono hg
    have hE1' := hE1.mono hg
    have hE2' := hE2.mono hg
    have lt1 : ∀ q ∈ gx, q.1 < tl := fun q hq => allLt_lt (And.right (by assumption : @LT.lt Nat _ hp tl ∧ AllLt tl _)) q (List.mem_append.mpr (.inr (List.mem_cons_of_mem _ (List.mem_append.mpr (.inr hq)))))
    clear hB hfam
    cases as with
    | nil =>
      have et := abGo_end hgo
      subst et
      try dsimp only
      k_steps
      exact ret tl tas.reverse _ _ _ _ _ (by k_asm) (news_sub (by k_asm) (fun p hp => (List.mem_cons.mp hp).elim (fun e => List.mem_cons.mpr (.inl e)) fun h => List.mem_cons_of_mem _ (List.mem_cons_of_mem _ h))) (fun p hp => List.mem_cons_of_mem _ (hg p hp)) (Trk.cons lt1 hTrk) List.mem_cons_self (EntsAre.mono (fun p hp => List.mem_cons_of_mem _ hp) hEnt.rev)
    | cons a1 as =>
      rw [List.map_cons] at hgo
      rcases hkq : kq a1 with ⟨p9, v9, b9⟩
      rw [hkq] at hgo
      obtain ⟨fl', rfl, hv9, hb9, told', hput, hgo'⟩ := abGo_step hgo
      have has' : as.length ≤ 2 := by simpa using has
      have N5' := N5
      unfold refs at N5
      simp only [List.map_cons] at N5
      try dsimp only
      k_steps
      refine' ab_turn (m0 := fun _ => none) (kq := kq) B' X' T' hk b_range b_len b_reversed b_sum b_isinstance b_tuple b_zip hCls9 hfe hfy hfs hfr hfq hfd hfu hfa ?z19_0 ?z19_1 ?z19_2 ?z19_3 ?z19_4 ?z19_5 ?z19_6 ?z19_7 ?z19_8 ?z19_9 ?z19_10 ?z19_11 ?z19_12 ?z19_13 ?z19_14 ?z19_15 ?z19_16 ?z19_17 ?z19_18 ?z19_19 ?z19_20 ?z19_21 ?z19_22 ?z19_23 ?z19_24 ?z19_25 ?z19_26 ?z19_27 ?z19_28 ?z19_29 ?z19_30 ?z19_31 ?z19_32 ?z19_33 ?z19_34 ?z19_35 ?z19_36 ?z19_37 ?z19_38 ?z19_39 ?z19_40 ?_
      (case z19_39 => k_asm)
      (case z19_0 => exact n4)
      (case z19_1 => assumption)
      (case z19_2 => exact n3)
      (case z19_3 => exact n1)
      (case z19_4 => exact hd1)
      (case z19_5 => exact n2)
      (case z19_6 => exact hd2)
      (case z19_7 => exact hwn)
      (case z19_8 => exact c0)
      (case z19_9 => exact c1)
      (case z19_10 => exact c2)
      (case z19_11 => exact hwb)
      (case z19_12 => exact hR9)
      (case z19_13 => exact hperm)
      (case z19_14 => exact n5)
      (case z19_15 => exact hE0')
      (case z19_16 => exact hE1')
      (case z19_17 => exact hE2')
      (case z19_18 => exact hfm)
      (case z19_19 => rw [hfl]; exact IntsAre.length (by assumption : IntsAre wvs ws))
      (case z19_20 => exact hfam9)
      (case z19_21 => exact hHI)
      (case z19_22 => exact hkq)
      (case z19_23 => exact has')
      (case z19_24 => exact hv9)
      (case z19_25 => exact hb9)
      (case z19_26 => exact hEnt)
      (case z19_27 => omega)
      (case z19_28 => exact hput)
      (case z19_29 => exact ofT)
      (case z19_30 => exact ofH)
      (case z19_31 => exact hne)
      (case z19_32 => (try dsimp only); repeat (first | exact if_pos rfl | refine (if_neg (by decide)).trans ?_))
      (case z19_33 => (try dsimp only); repeat (first | exact if_pos rfl | refine (if_neg (by decide)).trans ?_))
      (case z19_34 => (try dsimp only); repeat (first | exact if_pos rfl | refine (if_neg (by decide)).trans ?_))
      (case z19_35 => (try dsimp only); repeat (first | exact if_pos rfl | refine (if_neg (by decide)).trans ?_))
      (case z19_36 => (try dsimp only); repeat (first | exact if_pos rfl | refine (if_neg (by decide)).trans ?_))
      (case z19_37 => omega)
      (case z19_38 => omega)
      (case z19_40 => exact N5')
      intro tas' tn' as' hn' kq' nw h' tk m' Fz Nz abz hEz hlz has9 hHIz hmapz hmz
      rw [← hmapz] at hgo'
      refine wt_end (tas', tn', as', hn', nw ++ gc, kq', told', fl') Fz Nz (fun z hz => (hmz z hz).trans (if_neg (by rw [hz]; exact Bool.false_ne_true))) (fun p hp => List.mem_append.mpr (.inr (hB9 p hp))) ?_ ?_ ⟨has9, hHIz, hEz, hgo', Trk.app (fun p hp q hq => abz q (List.mem_cons_of_mem _ (List.mem_cons_of_mem _ (hg q hq))) p hp) hTrk, ?_⟩ (Nat.lt_succ_self _)
      · intro p hp9
        rcases List.mem_append.mp hp9 with h | h
        · exact Nat.ne_of_gt (abz _ List.mem_cons_self _ h)
        · exact ofT p h
      · intro p hp9
        rcases List.mem_append.mp hp9 with h | h
        · exact Nat.ne_of_gt (abz _ (List.mem_cons_of_mem _ List.mem_cons_self) _ h)
        · exact ofH p h
      · show tas'.length + fl' ≤ 700
        omega)
  (case z20_7 => assumption)
end P4
section P5
theorem words21 : True := by
  k_with_none
  k_with "own k_ne" => (first | with_reducible assumption | exact neL0 (by with_reducible assumption) | exact neG0 (by with_reducible assumption) | exact neL1 (by with_reducible assumption) | exact neG1 (by with_reducible assumption) | exact neL2 (by with_reducible assumption) | exact neG2 (by with_reducible assumption) | exact neL3 (by with_reducible assumption) | exact neG3 (by with_reducible assumption) | exact neL4 (by with_reducible assumption) | exact neG4 (by with_reducible assumption) | exact neL5 (by with_reducible assumption) | exact neG5 (by with_reducible assumption) | exact neL6 (by with_reducible assumption) | exact neG6 (by with_reducible assumption) | exact neL7 (by with_reducible assumption) | exact neG7 (by with_reducible assumption) | exact neL8 (by with_reducible assumption) | exact neG8 (by with_reducible assumption) | exact neL9 (by with_reducible assumption) | exact neG9 (by with_reducible assumption) | exact neL10 (by with_reducible assumption) | exact neG10 (by with_reducible assumption) | exact neL11 (by with_reducible assumption) | exact neG11 (by with_reducible assumption) | exact neL12 (by with_reducible assumption) | exact neG12 (by with_reducible assumption) | exact neL13 (by with_reducible assumption) | exact neG13 (by with_reducible assumption) | (refine neN ?_; (try dsimp only); omega))
  k_with "own k_all" => (first | with_reducible assumption | exact allLt_ne (by with_reducible assumption) | exact allLt_ne (And.right (by with_reducible assumption)) | exact allLt_ne (And.right (And.right (by with_reducible assumption))) | exact allLt_ne (And.right (And.right (And.right (by with_reducible assumption)))) | exact allLt_ne (And.right (And.right (And.right (And.right (by with_reducible assumption))))) | exact allLt_ne (And.right (And.right (And.right (And.right (And.right (by with_reducible assumption)))))) | exact allLt_ne (And.right (And.right (And.right (And.right (And.right (And.right (by with_reducible assumption))))))) | exact allLt_ne (And.right (And.right (And.right (And.right (And.right (And.right (And.right (by with_reducible assumption)))))))) | exact allLt_ne (And.right (And.right (And.right (And.right (And.right (And.right (And.right (And.right (by with_reducible assumption))))))))))
  k_with "own exec For" => ((k_here; k_dflt (refine for_start ?_)))
  k_with "own exec For Name Name cons nil" => ((k_here; k_dflt (refine for_start ?_)))
  k_with "own exec For Name Call cons nil" => ((k_here; k_dflt (refine for_start ?_)))
  k_with "own exec For Tuple Attribute cons nil" => ((k_here; k_dflt (refine for_start ?_)))
  k_with "own exec For Tuple Call cons nil" => ((k_here; k_dflt (refine for_start ?_)))
  k_with "own exec For Tuple" => ((k_here; k_dflt (refine for_start ?_)))
  k_with "own exec For Name" => ((k_here; k_dflt (refine for_start ?_)))
  k_with "own ForPost" => ((dsimp only [ForPost]))
  k_with "own ForNext" => ((k_dflt (first | with_reducible refine for_done ?_ | with_reducible refine for_name ?_)))
  k_with "own pyNext ref" => ((k_here; k_dflt (first
  | (refine' next_rng ?F_k ?N_k ?U_k ?l_k ?_; (case F_k => k_asm); (case N_k => k_asm); (case U_k => k_upd); (case l_k => decide); k_whole; intro h'k t'k tk'k F'k N'k; (try k_sweep))
  | (refine' next_rng_end ?H_k ?F_k ?N_k ?m_k ?D_k ?l_k ?_; (case H_k => exact rfl); (case F_k => k_asm); (case N_k => k_asm); (case m_k => k_mem); (case D_k => k_upd); (case l_k => decide); k_whole; intro h'k F'k N'k; (try k_sweep))
  | (refine' next_lst ?F_k ?N_k ?U_k ?o_k ?m_k ?x_k ?_; (case F_k => k_asm); (case N_k => k_asm); (case U_k => k_updF); (case o_k => with_reducible assumption); (case m_k => k_mem); (case x_k => first | (simp only [List.getElem?_toArray, List.getElem?_cons_zero, List.getElem?_cons_succ]; done) | (simp only [List.getElem?_toArray, List.getElem?_cons_zero, List.getElem?_cons_succ]; exact rfl)); k_whole; intro h'k o'k F'k N'k ho'k; (try k_sweep))
  | (refine' next_lst_end ?H_k ?F_k ?N_k ?I_k ?D_k ?o_k ?m_k ?x_k ?_; (case H_k => exact rfl); (case F_k => k_asm); (case N_k => k_asm); (case I_k => k_mem); (case D_k => k_upd); (case o_k => with_reducible assumption); (case m_k => k_mem); (case x_k => rfl); k_whole; intro h'k F'k N'k; (try k_sweep))
  | (refine' next_tup ?F_k ?N_k ?U_k ?o_k ?m_k ?x_k ?_; (case F_k => k_asm); (case N_k => k_asm); (case U_k => k_updF); (case o_k => with_reducible assumption); (case m_k => k_mem); (case x_k => first | (simp only [List.getElem?_cons_zero, List.getElem?_cons_succ]; done) | (simp only [List.getElem?_cons_zero, List.getElem?_cons_succ]; exact rfl)); k_whole; intro h'k o'k F'k N'k ho'k; (try k_sweep))
  | (refine' next_tup_end ?H_k ?F_k ?N_k ?I_k ?D_k ?o_k ?m_k ?x_k ?_; (case H_k => exact rfl); (case F_k => k_asm); (case N_k => k_asm); (case I_k => k_mem); (case D_k => k_upd); (case o_k => with_reducible assumption); (case m_k => k_mem); (case x_k => rfl); k_whole; intro h'k F'k N'k; (try k_sweep)))))
  k_with "own pyIter ref" => ((k_here; k_dflt (first
  | (refine' iter_rit ?N_k ?m_k ?_; (case N_k => k_asm); (case m_k => k_mem); k_whole)
  | (refine' iter_lst ?F_k ?N_k ?m_k ?_; (case F_k => k_asm); (case N_k => k_asm); (case m_k => k_mem); k_whole; intro I'k h'k o'k F'k N'k ho'k l1k; (try k_lt l1k); (try k_sweep))
  | (refine' iter_tup ?F_k ?N_k ?m_k ?_; (case F_k => k_asm); (case N_k => k_asm); (case m_k => k_mem); k_whole; intro I'k h'k o'k F'k N'k ho'k l1k; (try k_lt l1k); (try k_sweep))
  | (refine' iter_rng ?r_k ?s_k ?n_k ?F_k ?N_k ?_; (case r_k => with_reducible assumption); (case s_k => decide); (case n_k => exact Eq.refl _); (case F_k => k_asm); (case N_k => k_asm); k_whole; intro I'k h'k F'k N'k l1k; (try k_lt l1k); (try k_sweep)))))
  k_with "own call type:reversed" => ((k_here; k_dflt (refine' rev_rng ?F_k ?N_k ?r_k ?n_k ?s_k ?_; (case F_k => k_asm); (case N_k => k_asm); (case r_k => with_reducible assumption); (case n_k => exact Eq.refl _); (case s_k => decide); k_whole; intro I'k h'k F'k N'k l1k; (try k_lt l1k); (try k_sweep))))
  k_with "own call builtin:dict.items" => ((k_here; k_dflt (refine' items_call ?F_k ?N_k ?m_k ?d_k ?l_k ?_; (case F_k => k_asm); (case N_k => k_asm); (case m_k => k_mem); (case d_k => with_reducible assumption); (case l_k => with_reducible assumption); k_whole; intro V'k h'k F'k N'k l1k; (try k_lt l1k); (try k_sweep))))
  k_with "own getMethod ref" => ((k_here; (with_reducible show wpAny _ _ (getMethod (Value.ref _) (PySem.Str.ofString "items") _) _ _ _); k_dflt (refine' getMethod_tab_any (knd := PySem.strKind _ _) (enc := PyData.str) ?k1_k ?k2_k ?_; (case k1_k => exact rfl); (case k2_k => k_tabat); k_whole)))
  k_with "own call builtin:len" => ((k_here; (with_reducible show wpAny _ _ (call (Value.builtin "len") [Value.ref _]) _ _ _); k_dflt (refine' kst_len ?N_k ?m_k ?e_k ?f_k ?_; (case N_k => k_asm); (case m_k => k_mem); (case e_k => first | exact IntsAre.length (by with_reducible assumption) | with_reducible assumption); (case f_k => omega); k_whole)))
  k_with "own eval ListComp" => ((k_here; k_dflt (refine comp_eval (by with_unfolding_all rfl) (by decide) (by rfl) (by decide) ?_)))
  k_with "own exec Assign cons ListComp" => ((k_here; k_dflt (refine comp_assign (by with_unfolding_all rfl) (by with_unfolding_all rfl) (by decide) (by rfl) (by decide) ?_)))
  k_with "own Exists" => ((k_here; k_dflt (refine' ⟨_, _, _, _, _, _, rfl, ?F_k, ?N_k, ?m_k, ?s_k, ?_⟩; (case F_k => k_asm); (case N_k => k_asm); (case m_k => k_mem); (case s_k => first | exact .inl ⟨_, _, by with_reducible assumption⟩ | exact .inr (.inl ⟨_, _, by with_reducible assumption⟩) | exact .inr (.inr (.inl ⟨_, _, _, rfl⟩)) | exact .inr (.inr (.inr ⟨_, _, _, rfl⟩))); k_whole); intro C'k D'k oC'k h'k tk'k F'k N'k hC'k l1k l2k; (try k_lt l1k); (try k_lt l2k); (try k_sweep)))
  k_with "own CompNext" => ((k_dflt (first | with_reducible refine comp_next ?_ | with_reducible refine comp_name ?_)))
  k_with "own storeName" => ((k_here; k_dflt (refine' comp_store ?a_k ?b_k ?F_k ?N_k ?U_k ?n_k ?_; (case a_k => exact rfl); (case b_k => exact rfl); (case F_k => k_asm); (case N_k => k_asm); (case U_k => k_updF); (case n_k => with_reducible assumption); k_whole; intro h'k oC'k F'k N'k hC'k; (try k_sweep))))
  k_with "own eval Name" => ((k_here; (with_reducible show wpAny _ _ (eval (Expr.Name _ _) (compEnvC _ _ _ _)) _ _ _); k_dflt (first
  | (refine' comp_local ?N_k ?m_k ?n_k ?x_k ?_ ?a_k ?b_k ?c_k; (case a_k => exact rfl); (case b_k => exact rfl); (case c_k => decide); (case N_k => k_asm); (case m_k => k_mem); (case n_k => with_reducible assumption); (case x_k => exact rfl); k_whole)
  | (refine' comp_cell ?N_k ?l_k ?m_k ?d_k ?_ ?a_k ?b_k ?c_k; (case a_k => exact rfl); (case b_k => exact rfl); (case c_k => decide); (case l_k => exact rfl); (case N_k => k_asm); (case m_k => k_mem); (case d_k => with_reducible assumption); k_whole)
  | (refine' comp_free ?N_k ?l_k ?m_k ?d_k ?_ ?a_k ?b_k ?c_k ?e_k; (case a_k => exact rfl); (case b_k => exact rfl); (case c_k => decide); (case e_k => decide); (case l_k => exact rfl); (case N_k => k_asm); (case m_k => k_mem); (case d_k => with_reducible assumption); k_whole))))
  k_with "own compPost" => ((k_here; k_dflt (first
  | (refine' comp_done ?F_k ?N_k ?C_k ?n_k ?D_k ?_; (case F_k => k_asm); (case N_k => k_asm); (case C_k => k_mem); (case n_k => with_reducible assumption); (case D_k => k_upd); k_whole; intro h'k F'k N'k; (try k_sweep))
  | (refine' comp_doneA ?a_k ?b_k ?F_k ?N_k ?C_k ?n_k ?D_k ?_; (case a_k => exact rfl); (case b_k => exact rfl); (case F_k => k_asm); (case N_k => k_asm); (case C_k => k_mem); (case n_k => with_reducible assumption); (case D_k => k_upd); k_whole; intro h'k tk'k F'k N'k; (try k_sweep)))))
  k_with "own call builtin:list.append" => ((k_here; k_dflt (refine' append_V ?k1_k ?k2_k ?k3_k ?_ ?z_k; (case k1_k => k_asm); (case k2_k => k_asm); (case k3_k => k_upd); (case z_k => first | omega | exact Nat.le_of_ble_eq_true rfl | (simp only [List.length_append, List.length_map, List.length_reverse, List.length_singleton]; omega)); k_whole); intro h'k F'k N'k; (try k_sweep)))
  k_with "own eval Name" => ((k_here; (with_reducible show wpAny _ _ (eval (Expr.Name _ _) (compEnvC _ _ _ _)) _ _ _); k_dflt (first
  | (refine' comp_glob ?F_k ?X_k ?T_k ?e_k ?_ ?a_k ?b_k ?c_k ?d_k; (case a_k => exact rfl); (case b_k => exact rfl); (case c_k => exact rfl); (case d_k => decide); (case F_k => k_asm); (case X_k => k_asm); (case T_k => k_asm); (case e_k => with_reducible assumption); k_whole)
  | (refine' comp_bi ?F_k ?X_k ?T_k ?e_k ?v_k ?n_k ?_ ?a_k ?b_k ?c_k ?g_k ?d_k; (case a_k => exact rfl); (case b_k => exact rfl); (case c_k => exact rfl); (case g_k => exact rfl); (case d_k => decide); (case F_k => k_asm); (case X_k => k_asm); (case T_k => k_asm); (case e_k => with_reducible assumption); (case v_k => boot_fast); (case n_k => decide); k_whole))))
  k_with "own newTuple" => ((k_here; k_dflt (refine' newTup ?F_k ?N_k ?_ ?z_k; (case F_k => k_asm); (case N_k => k_asm); (case z_k => exact Nat.le_of_ble_eq_true rfl); k_whole); intro T'k h'k F'k N'k l1k; (try k_lt l1k); (try k_sweep)))
  trivial
open PySem PySem.W PyProof.Rows
theorem Trk.trans {old mid G : Led} (k : Trk mid G) (h : Trk old mid) (hs : ∀ p ∈ old, p ∈ mid) : Trk old G := fun p hp => by
  rcases k p hp with q | q
  · exact h p q
  · exact .inr fun x hx => q x (hs x hx)
theorem rule_is {g : Led} {C x : Addr} {i0 i1 i2 : Int} {dx l q0 q1 q2 : Addr} {hh : Int} {tl ti0 ti1 ti2 td0 td1 td2 : Tok} {nd nl n0 n1 n2 : Nat} (h1 : (x, instObj C dx) ∈ g) (h2 : (dx, dictOf [⟨hh, .str (Str.ofString "comp_select_list") tl, .ref l⟩] nd) ∈ g) (h3 : (l, listOf #[.ref q0, .ref q1, .ref q2] nl) ∈ g)
    (h4 : (q0, tupOf [.int i0 ti0, .int (-1) td0] n0) ∈ g) (h5 : (q1, tupOf [.int i1 ti1, .int (-1) td1] n1) ∈ g) (h6 : (q2, tupOf [.int i2 ti2, .int (-1) td2] n2) ∈ g) : RuleIs g C x i0 i1 i2 :=
  ⟨dx, l, q0, q1, q2, hh, tl, ti0, ti1, ti2, td0, td1, td2, nd, nl, n0, n1, n2, h1, h2, h3, h4, h5, h6⟩
open PyProof.V in
theorem letter_is {prog : Program} {w : World} {g : Led} {x d : Addr} {a b c k : Int} {k0 k1 k2 k3 t : Tok} {n : Nat} {o : Obj} {D : List (PyData × PyData)} (v : Nat) (hv : letterE v = (a, b, c, k, [v])) (hm : (x, tupOf [.int a k0, .int b k1, .int c k2, .int k k3, .ref d] n) ∈ g) (hd : (d, o) ∈ g) (h1 : o.IsDictOf (PySem.strKind prog w) [(nmL v, .int 1 t)]) (h2 : FlatPairs PyData.str [(nmL v, .int 1 t)] D) (h3 : (d == sysModules) = false) : EntIs prog w g x (letterE v) := by
  rw [hv]
  exact ⟨d, k0, k1, k2, k3, n, hm, _, .cons v t .nil, o, D, hd, h1, h2, h3⟩
theorem words22 : True := by
  k_with "own pyIter ref" => ((k_here; k_dflt (first
  | (refine' iter_rit ?N_k ?m_k ?_; (case N_k => k_asm); (case m_k => k_mem); k_whole)
  | (refine' iter_lst ?F_k ?N_k ?m_k ?_; (case F_k => k_asm); (case N_k => k_asm); (case m_k => k_mem); k_whole; intro I'k h'k o'k F'k N'k ho'k l1k; (try k_lt l1k); (try k_sweep))
  | (refine' iter_tup ?F_k ?N_k ?m_k ?_; (case F_k => k_asm); (case N_k => k_asm); (case m_k => k_mem); k_whole; intro I'k h'k o'k F'k N'k ho'k l1k; (try k_lt l1k); (try k_sweep))
  | (refine' iter_rng ?r_k ?s_k ?n_k ?F_k ?N_k ?_; (case r_k => with_reducible assumption); (case s_k => decide); (case n_k => exact Eq.refl _); (case F_k => k_asm); (case N_k => k_asm); k_whole; intro I'k h'k F'k N'k l1k; (try k_lt l1k); (try k_sweep)))))
  k_with "own eval Name" => ((k_here; (with_reducible show wpAny _ _ (eval (Expr.Name _ _) (compEnvC _ _ _ _)) _ _ _); k_dflt (first
  | (refine' comp_local ?N_k ?m_k ?n_k ?x_k ?_ ?a_k ?b_k ?c_k; (case a_k => exact rfl); (case b_k => exact rfl); (case c_k => decide); (case N_k => k_asm); (case m_k => k_mem); (case n_k => with_reducible assumption); (case x_k => exact rfl); k_whole)
  | (refine' comp_cell ?N_k ?l_k ?m_k ?d_k ?_ ?a_k ?b_k ?c_k; (case a_k => exact rfl); (case b_k => exact rfl); (case c_k => decide); (case l_k => exact rfl); (case N_k => k_asm); (case m_k => k_mem); (case d_k => with_reducible assumption); k_whole)
  | (refine' comp_free ?N_k ?l_k ?m_k ?d_k ?_ ?a_k ?b_k ?c_k ?e_k; (case a_k => exact rfl); (case b_k => exact rfl); (case c_k => decide); (case e_k => decide); (case l_k => exact rfl); (case N_k => k_asm); (case m_k => k_mem); (case d_k => with_reducible assumption); k_whole))))
  k_with "own getMethod ref" => ((k_here; (with_reducible show wpAny _ _ (getMethod (Value.ref _) (PySem.Str.ofString "index") _) _ _ _); k_dflt (refine' tup_method ?N_k ?m_k PySem.F.slot_tuple_index PySem.F.type_tuple_index ?_; (case N_k => k_asm); (case m_k => k_mem); k_whole)))
  k_with "own call builtin:tuple.index" => ((k_here; k_dflt (refine' tup_index ?N_k ?m_k ?i_k ?_; (case N_k => k_asm); (case m_k => k_mem); (case i_k => with_reducible assumption); k_whole); intro t'k tk'k))
  k_with "own pyIter ref" => ((k_here; k_dflt (refine iter_mark ?_)))
  trivial

variable {prog : Program} {w : World} {K : Frag} {p : Program} {loose : List Str} {mean : ExcName → Option Value} {mg mb : Str → Option Value}
set_option maxHeartbeats 8000000 in
theorem ab_spec {f : Addr} (hf : FunAt K 18 f .none .none)
   (b_range : nsIn K mainGlobals (Str.ofString "range") = some none) (b_len : nsIn K mainGlobals (Str.ofString "len") = some none) (b_reversed : nsIn K mainGlobals (Str.ofString "reversed") = some none) (b_sum : nsIn K mainGlobals (Str.ofString "sum") = some none) (b_isinstance : nsIn K mainGlobals (Str.ofString "isinstance") = some none) (b_tuple : nsIn K mainGlobals (Str.ofString "tuple") = some none) (b_zip : nsIn K mainGlobals (Str.ofString "zip") = some none) {C fi fc : Addr} (hC : ClsAt K C fi fc) {fe fy fs fr fq fd fu fa : Addr} (hfe : FunAt K 17 fe .none .none) (hfy : FunAt K 7 fy .none .none) (hfs : FunAt K 12 fs .none .none) (hfr : FunAt K 6 fr .none .none) (hfq : FunAt K 5 fq .none .none) (hfd : FunAt K 8 fd .none .none) (hfu : FunAt K 9 fu .none .none) (hfa : FunAt K 13 fa .none .none) {wl ul : Addr} {wvs : List Value} {ws : List Int} {wn nu : Nat} {u0 u1 u2 : Int} {q0 q1 q2 : Tok} {i64 i8 i1 : Nat} {news : Led} {out : List Ent} {fuel : Nat} (hwl : (wl, listOf wvs.toArray wn) ∈ news) (hws : IntsAre wvs ws) (hul : (ul, tupOf [.int u0 q0, .int u1 q1, .int u2 q2] nu) ∈ news) (p64 : (i64 = 0 ∧ u0 = 64) ∨ (i64 = 1 ∧ u0 ≠ 64 ∧ u1 = 64) ∨ (i64 = 2 ∧ u0 ≠ 64 ∧ u1 ≠ 64 ∧ u2 = 64)) (p8 : (i8 = 0 ∧ u0 = 8) ∨ (i8 = 1 ∧ u0 ≠ 8 ∧ u1 = 8) ∨ (i8 = 2 ∧ u0 ≠ 8 ∧ u1 ≠ 8 ∧ u2 = 8)) (p1 : (i1 = 0 ∧ u0 = 1) ∨ (i1 = 1 ∧ u0 ≠ 1 ∧ u1 = 1) ∨ (i1 = 2 ∧ u0 ≠ 1 ∧ u1 ≠ 1 ∧ u2 = 1)) (hperm : Perm3 i64 i8 i1) (hwb : ∀ x ∈ ws, 0 ≤ x ∧ x ≤ 1000) (hwn : 1 ≤ ws.length ∧ ws.length ≤ 100) (c0 : 1 ≤ u0 ∧ u0 ≤ 100) (c1 : 1 ≤ u1 ∧ u1 ≤ 100) (c2 : 1 ≤ u2 ∧ u2 ≤ 100) (hfuel : fuel ≤ 700) (hrun : abGo (usF u0 u1 u2) ws (entP u0 u1 u2) fuel (siftK [(-(ws.getD 0 0) - u0, 0, 0), (-(ws.getD 0 0) - u1, 1, 0), (-(ws.getD 0 0) - u2, 2, 0)]) [] = some out) :
   Spec prog w K p loose mean mg mb f [.ref wl, .ref ul] (news) 12 320
     (fun r news' => (∀ p ∈ news, p ∈ news') ∧ Trk news news' ∧ ∃ a tas n, r = .ref a ∧ (a, listOf (refs tas) n) ∈ news' ∧ EntsAre prog w news' tas out.reverse) := by
  w_on
  obtain ⟨⟨oc18, od18, osl18, pm18, doc18, cdv18, ct18, an18, hK18, hcode18⟩, hkeep18, hname18⟩ := hf
  dsimp only [top, sN, sA, sB, sS, nth, PySem.Challenge.pw_pg0194_01] at hK18 hcode18 hname18
  have hC9 := hC
  obtain ⟨cName, cKeep, cMakes, cInit, cInitFn, ⟨ioc, iod, iosl, ipm, idoc, icdv, ict, ian, iK, icode⟩, cCmp, cCmpFn, cCmpKeep, cCmpIs, cPlainC, cPlainL, cHasD, cOver, cTaker, cSetter, cOwn⟩ := hC
  dsimp only [top, sN, sA, sB, sS, nth, PySem.Challenge.pw_pg0194_01] at iK icode
  clear cCmpIs
  have hkeep17 := FunAt.keep hfe
  have hname17 := FunAt.name hfe
  dsimp only [top, sN, nth, PySem.Challenge.pw_pg0194_01] at hname17
  have hkeep7 := FunAt.keep hfy
  have hname7 := FunAt.name hfy
  dsimp only [top, sN, nth, PySem.Challenge.pw_pg0194_01] at hname7
  have hkeep12 := FunAt.keep hfs
  have hname12 := FunAt.name hfs
  dsimp only [top, sN, nth, PySem.Challenge.pw_pg0194_01] at hname12
  have hkeep6 := FunAt.keep hfr
  have hname6 := FunAt.name hfr
  dsimp only [top, sN, nth, PySem.Challenge.pw_pg0194_01] at hname6
  have hkeep5 := FunAt.keep hfq
  have hname5 := FunAt.name hfq
  dsimp only [top, sN, nth, PySem.Challenge.pw_pg0194_01] at hname5
  have hkeep13 := FunAt.keep hfa
  have hname13 := FunAt.name hfa
  dsimp only [top, sN, nth, PySem.Challenge.pw_pg0194_01] at hname13
  unfold Spec
  intro dp un gd cn cs ca9 ccd cl outer A₀ base h₀ L m s Q E B F X N T hk hdp hun hret
  refine wpAny_call ?_
  refine' code_defC (binds := [(Str.ofString "weights", .ref wl), (Str.ofString "units", .ref ul)]) B F X N T rfl rfl hk hK18 hcode18 ?k8 (BindsTo.of_eq rfl) rfl (by decide +kernel) ?_ rfl rfl rfl
  (case k8 => ktr_room)
  clear hK18 hcode18 hkeep18 hname18
  intro g' L' h' tk' cells' FG' F' N' Y' B' X' T' l1
  try k_lt l1
  k_cells Y'
  try simp only [List.cons_append, List.nil_append] at N'
  try dsimp only
  try k_fold
  refine execs_split 2 ?_
  dsimp only [List.take]
  k_steps
  rename News _ _ _ _ => N9
  dsimp only [List.length_cons, List.length_nil] at N9
  refine split_next ?_
  refine' ab_rest (m0 := _) (wvs := wvs) B' X' T' hk b_range b_len b_reversed b_sum b_isinstance b_tuple b_zip hC9 hfe hfy hfs hfr hfq hfd hfu hfa ?z14_0 ?z14_1 ?z14_2 ?z14_3 ?z14_4 ?z14_5 ?z14_6 ?z14_7 ?z14_8 ?z14_9 ?z14_10 ?z14_11 ?z14_12 ?z14_13 ?z14_14 ?z14_15 ?z14_16 ?z14_17 ?z14_18 ?z14_19 ?z14_20 ?z14_21 ?z14_22 ?z14_23 ?z14_24 ?_
  (case z14_23 => k_asm)
  (case z14_22 => k_asm)
  (case z14_0 => k_mem)
  (case z14_1 => with_reducible assumption)
  (case z14_2 => k_mem)
  (case z14_3 => (refine' rule_is ?y1 ?y2 ?y3 ?y4 ?y5 ?y6; (case y1 => k_mem); (case y2 => k_mem); (case y3 => k_mem); (case y4 => k_mem); (case y5 => k_mem); (case y6 => k_mem)))
  (case z14_4 => exact hperm)
  (case z14_5 => k_mem)
  (case z14_6 => (refine' letter_is 0 rfl ?y1 ?y2 ?y3 ?y4 ?y5; (case y1 => k_mem); (case y2 => k_mem); (case y3 => assumption); (case y4 => assumption); (case y5 => assumption)))
  (case z14_7 => (refine' letter_is 1 rfl ?y1 ?y2 ?y3 ?y4 ?y5; (case y1 => k_mem); (case y2 => k_mem); (case y3 => assumption); (case y4 => assumption); (case y5 => assumption)))
  (case z14_8 => (refine' letter_is 2 rfl ?y1 ?y2 ?y3 ?y4 ?y5; (case y1 => k_mem); (case y2 => k_mem); (case y3 => assumption); (case y4 => assumption); (case y5 => assumption)))
  (case z14_9 => k_mem)
  (case z14_10 => first | assumption | exact Eq.trans (by assumption) rfl)
  (case z14_11 => k_mem)
  (case z14_12 => first | assumption | exact Eq.trans (by assumption) rfl)
  (case z14_13 => exact hwb)
  (case z14_14 => exact hwn)
  (case z14_15 => exact c0)
  (case z14_16 => exact c1)
  (case z14_17 => exact c2)
  (case z14_18 => exact hfuel)
  (case z14_19 => exact hrun)
  (case z14_20 => omega)
  (case z14_21 => omega)
  (case z14_24 => passes_own)
  intro a tas n G h' tk m' Fz Nz hsub htrk hm hents
  k_steps
  exact hret _ G _ _ (by k_asm) (by k_asm) ⟨fun p hp => hsub p (by repeat (first | exact hp | refine List.mem_cons_of_mem _ ?_)), Trk.trans htrk (by repeat (first | exact Trk.refl | refine Trk.cons (fun q hq => Nat.lt_trans (l1 q hq) (by (with_reducible show @LT.lt Nat _ _ _); omega)) ?_)) (by intro p hp; repeat (first | exact hp | refine List.mem_cons_of_mem _ ?_)), a, tas, n, rfl, hm, hents⟩
end P5
section P6
section LawLem_part
open PySem PySem.W PyProof.Rows PyProof.Rows.LCg
section
theorem ints_of : ∀ {vs : List Value} {out : List Int}, vs.length = out.length → (∀ (i : Nat) (v : Value), vs[i]? = some v → ∃ k t, out[i]? = some k ∧ v = Value.int k t) → IntsAre vs out
  | [], [], _, _ => .nil
  | v :: vs, k :: out, hl, h => by
    obtain ⟨k', t, e1, rfl⟩ := h 0 v rfl
    cases e1
    exact .cons k t (ints_of (by simpa using hl) fun i v e => h (i + 1) v e)
end
section
theorem comp_drop {h₀ h : Heap} {L C D : Addr} {oC oD : Obj} {new g : Led} (N : News h₀ L h ((C, oC) :: (D, oD) :: (new ++ g))) (a : ∀ p ∈ new ++ g, p.1 ≠ C) (b : ∀ p ∈ new ++ g, p.1 ≠ D) :
    News h₀ L h ((C, oC) :: (D, oD) :: g) ∧ (∀ p ∈ g, p.1 ≠ C) ∧ (∀ p ∈ g, p.1 ≠ D) :=
  ⟨news_sub N fun p hp => by
    simp only [List.mem_cons, List.mem_append] at hp ⊢
    rcases hp with h | h | h <;> simp [h], fun p hp => a p (List.mem_append.mpr (.inr hp)), fun p hp => b p (List.mem_append.mpr (.inr hp))⟩
end
section
noncomputable def sixU : List (Int × Int × Int) := [(64, 8, 1), (8, 64, 1), (8, 1, 64), (64, 1, 8), (1, 64, 8), (1, 8, 64)]
end
section
noncomputable def ltC : List Int → Int → Nat
  | [], _ => 0
  | a :: l, x => if a < x then ltC l x + 1 else 0
theorem ltC_le : ∀ (l : List Int) (x : Int), ltC l x ≤ l.length
  | [], _ => Nat.le_refl _
  | a :: l, x => by
    have h := ltC_le l x
    rw [ltC]
    split
    · rw [List.length_cons]; omega
    · omega
theorem ltC_iff : ∀ {l : List Int} (x : Int), l.Pairwise (· < ·) → ∀ {k : Nat}, k < l.length → (l.getD k 0 < x ↔ k < ltC l x)
  | [], _, _, _, hk => absurd hk (Nat.not_lt_zero _)
  | a :: l, x, h, k, hk => by
    rw [List.pairwise_cons] at h
    rw [ltC]
    cases k with
    | zero =>
      show a < x ↔ _
      split <;> omega
    | succ k =>
      have hk' : k < l.length := by rw [List.length_cons] at hk; omega
      have e : (a :: l).getD (k + 1) 0 = l.getD k 0 := rfl
      rw [e]
      have ih := ltC_iff x h.2 hk'
      have hm : l.getD k 0 ∈ l := by rw [List.getD_eq_getElem?_getD, List.getElem?_eq_getElem hk']; exact List.getElem_mem hk'
      have ha := h.1 _ hm
      split
      · rw [ih]; omega
      · constructor
        · intro q; omega
        · intro q; omega
theorem ltC_mem : ∀ {l : List Int} {x : Int}, l.Pairwise (· < ·) → (x ∈ l.drop (ltC l x) ↔ x ∈ l)
  | [], _, _ => Iff.rfl
  | a :: l, x, h => by
    rw [List.pairwise_cons] at h
    rw [ltC]
    split
    · rename_i q
      rw [List.drop_succ_cons, ltC_mem h.2, List.mem_cons]
      constructor
      · exact Or.inr
      · rintro (rfl | e)
        · omega
        · exact e
    · exact Iff.rfl
theorem ltC_ins : ∀ {l : List Int} {x : Int}, l.Pairwise (· < ·) → x ∉ l → (l.take (ltC l x) ++ x :: l.drop (ltC l x)).Pairwise (· < ·)
  | [], _, _, _ => List.pairwise_singleton _ _
  | a :: l, x, h, hx => by
    have h0 := h
    rw [List.pairwise_cons] at h
    rw [List.mem_cons, not_or] at hx
    rw [ltC]
    split
    · rename_i q
      rw [List.take_succ_cons, List.drop_succ_cons, List.cons_append, List.pairwise_cons]
      refine ⟨fun y hy => ?_, ltC_ins h.2 hx.2⟩
      rcases List.mem_append.mp hy with hy | hy
      · exact h.1 y (List.mem_of_mem_take hy)
      · rcases List.mem_cons.mp hy with rfl | hy
        · exact q
        · exact h.1 y (List.mem_of_mem_drop hy)
    · rename_i q
      rw [List.take_zero, List.drop_zero, List.nil_append, List.pairwise_cons]
      refine ⟨fun y hy => ?_, h0⟩
      rcases List.mem_cons.mp hy with rfl | hy
      · omega
      · have := h.1 y hy; omega
theorem ins_mem {l : List Int} {c : Nat} {x y : Int} : y ∈ l.take c ++ x :: l.drop c ↔ y = x ∨ y ∈ l := by
  rw [List.mem_append, List.mem_cons]
  have := @List.mem_append _ y (l.take c) (l.drop c)
  rw [List.take_append_drop] at this
  rw [this]
  constructor
  · rintro (h | h | h)
    · exact .inr (.inl h)
    · exact .inl h
    · exact .inr (.inr h)
  · rintro (h | h | h)
    · exact .inr (.inl h)
    · exact .inl h
    · exact .inr (.inr h)
structure PlB (N : Int) (ds : List Int) (i : Nat) (qs : List Int) : Prop where
  sorted : qs.Pairwise (· < ·)
  rng : ∀ q ∈ qs, 0 ≤ q ∧ q < N
  hit : ∀ x ∈ ds.take i, x.fmod N ∈ qs
  len : qs.length ≤ i
theorem take_snoc {ds : List Int} {i : Nat} {x y : Int} (h : ds[i]? = some x) (hy : y ∈ ds.take (i + 1)) : y = x ∨ y ∈ ds.take i := by
  rw [List.take_succ, h] at hy
  rcases List.mem_append.mp hy with h | h
  · exact .inr h
  · exact .inl (by simpa using h)
theorem PlB.old {N : Int} {ds qs : List Int} {i : Nat} {x : Int} (P : PlB N ds i qs) (h : ds[i]? = some x) (hm : x.fmod N ∈ qs) : PlB N ds (i + 1) qs :=
  ⟨P.sorted, P.rng, fun y hy => by
    rcases take_snoc h hy with rfl | hy
    · exact hm
    · exact P.hit y hy, Nat.le_succ_of_le P.len⟩
theorem PlB.new {N : Int} {ds qs : List Int} {i : Nat} {x : Int} (P : PlB N ds i qs) (hN : 0 < N) (h : ds[i]? = some x) (hm : x.fmod N ∉ qs) : PlB N ds (i + 1) (qs.take (ltC qs (x.fmod N)) ++ x.fmod N :: qs.drop (ltC qs (x.fmod N))) := by
  refine ⟨ltC_ins P.sorted hm, fun q hq => ?_, fun y hy => ?_, ?_⟩
  · rcases ins_mem.mp hq with rfl | hq
    · exact ⟨Int.fmod_nonneg_of_pos _ hN, Int.fmod_lt_of_pos _ hN⟩
    · exact P.rng q hq
  · rcases take_snoc h hy with rfl | hy
    · exact ins_mem.mpr (.inl rfl)
    · exact ins_mem.mpr (.inr (P.hit y hy))
  · have := P.len
    have := ltC_le qs (x.fmod N)
    rw [List.length_append, List.length_cons, List.length_take, List.length_drop]
    omega
end
section
section
variable {prog : Program} {w : World} {A : Around} {E : Value → Shared → Prop} {s : Shared} {h₀ : Heap} {L : Addr} {m : Str → Option Value} {news : Led}
theorem slice_from_ints {value slice : Expr} {l : Addr} {vs : List Value} {ns : List Int} {n c : Nat} {u : Tok} {Q : Value → Shared → Prop} (F : Fr h₀ L s.heap m) (N : News h₀ L s.heap news) (hm : (l, listOf vs.toArray n) ∈ news) (hi : IntsAre vs ns) (hz : ns.length ≤ 900)
    (h : ∀ T h' ws, Fr h₀ L h' m → News h₀ L h' ((T, listOf ws.toArray 0) :: news) → (∀ p ∈ news, p.1 < T) → IntsAre ws (ns.drop c) → Q (.ref T) { s with heap := h' })
    (hs : subscripted slice false (.ref l) (.ref s.heap.objs.size) = operate [.ref s.heap.objs.size, .ref l] (getItem (.ref l) (.ref s.heap.objs.size)) := by with_unfolding_all rfl)
    (ht : ∀ r, letTemporaryGo value (.ref l) r = pure () := by intro _; with_unfolding_all rfl) :
    wpAny (model prog w) A (subscriptTail value slice (.ref l) (.ref s.heap.objs.size)) Q E { s with heap := s.heap.push { cls := .type "slice", data := .fields #[.int (c : Int) u, .none, .none] } } := by
  have hl : s.heap.IsList l vs.toArray := ⟨_, News.get N hm, rfl, _, rfl⟩
  refine slice_list F N hl (IsPart.int _ _) IsPart.none (fun h' F' N' => ?_) hs ht (by rw [List.size_toArray, hi.length, sizeLine_eq]; omega)
  have hi' := slice_ints_fromW hi (x := (c : Int)) (Int.natCast_nonneg c)
  rw [Int.toNat_natCast] at hi'
  exact h _ _ _ F' N' (fun p hp => Nat.lt_succ_of_lt (news_off N p hp)) hi'
theorem slice_upto_ints {value slice : Expr} {l : Addr} {vs : List Value} {ns : List Int} {n c : Nat} {u : Tok} {Q : Value → Shared → Prop} (F : Fr h₀ L s.heap m) (N : News h₀ L s.heap news) (hm : (l, listOf vs.toArray n) ∈ news) (hi : IntsAre vs ns) (hz : ns.length ≤ 900)
    (h : ∀ T h' ws, Fr h₀ L h' m → News h₀ L h' ((T, listOf ws.toArray 0) :: news) → (∀ p ∈ news, p.1 < T) → IntsAre ws (ns.take c) → Q (.ref T) { s with heap := h' })
    (hs : subscripted slice false (.ref l) (.ref s.heap.objs.size) = operate [.ref s.heap.objs.size, .ref l] (getItem (.ref l) (.ref s.heap.objs.size)) := by with_unfolding_all rfl)
    (ht : ∀ r, letTemporaryGo value (.ref l) r = pure () := by intro _; with_unfolding_all rfl) :
    wpAny (model prog w) A (subscriptTail value slice (.ref l) (.ref s.heap.objs.size)) Q E { s with heap := s.heap.push { cls := .type "slice", data := .fields #[.none, .int (c : Int) u, .none] } } := by
  have hl : s.heap.IsList l vs.toArray := ⟨_, News.get N hm, rfl, _, rfl⟩
  refine slice_list F N hl IsPart.none (IsPart.int _ _) (fun h' F' N' => ?_) hs ht (by rw [List.size_toArray, hi.length, sizeLine_eq]; omega)
  have hi' := slice_ints_uptoW hi (y := (c : Int)) (Int.natCast_nonneg c)
  rw [Int.toNat_natCast] at hi'
  exact h _ _ _ F' N' (fun p hp => Nat.lt_succ_of_lt (news_off N p hp)) hi'
end
end
section
theorem ltC_iff_le {l : List Int} (x : Int) (h : l.Pairwise (· < ·)) (hx : x ∉ l) {k : Nat} (hk : k < l.length) : l.getD k 0 ≤ x ↔ k < ltC l x := by
  rw [← ltC_iff x h hk]
  have hm : l.getD k 0 ∈ l := by rw [List.getD_eq_getElem?_getD, List.getElem?_eq_getElem hk]; exact List.getElem_mem hk
  have : l.getD k 0 ≠ x := fun e => hx (e ▸ hm)
  omega
end
section
structure AbOK (u0 u1 u2 : Int) (dn : Nat) (ws : List Int) (A : List Ent) : Prop where
  run : abGo (usF u0 u1 u2) ws (entP u0 u1 u2) 100 (siftK [(-(ws.getD 0 0) - u0, 0, 0), (-(ws.getD 0 0) - u1, 1, 0), (-(ws.getD 0 0) - u2, 2, 0)]) [] = some A
  wb : ∀ x ∈ ws, 0 ≤ x ∧ x ≤ 1000
  wn : 1 ≤ ws.length ∧ ws.length ≤ 100
  bnd : ∀ e ∈ A.reverse, (0 ≤ e.1 ∧ e.1 ≤ 10) ∧ (0 ≤ e.2.1 ∧ e.2.1 ≤ 10) ∧ (0 ≤ e.2.2.1 ∧ e.2.2.1 ≤ 10) ∧ e.2.2.2.2.length ≤ 3
  len : A.reverse.length ≤ 100
  eq : A.reverse.map (toldD u0 u1 u2) = (allP (dn + 1)).flatMap (dueL (usF u0 u1 u2) ws ((dn + 1 : Nat) : Int))
theorem six_pos {u0 u1 u2 : Int} (h : (u0, u1, u2) ∈ sixU) : ∃ i64 i8 i1 : Nat, ((i64 = 0 ∧ u0 = 64) ∨ (i64 = 1 ∧ u0 ≠ 64 ∧ u1 = 64) ∨ (i64 = 2 ∧ u0 ≠ 64 ∧ u1 ≠ 64 ∧ u2 = 64)) ∧ ((i8 = 0 ∧ u0 = 8) ∨ (i8 = 1 ∧ u0 ≠ 8 ∧ u1 = 8) ∨ (i8 = 2 ∧ u0 ≠ 8 ∧ u1 ≠ 8 ∧ u2 = 8)) ∧ ((i1 = 0 ∧ u0 = 1) ∨ (i1 = 1 ∧ u0 ≠ 1 ∧ u1 = 1) ∨ (i1 = 2 ∧ u0 ≠ 1 ∧ u1 ≠ 1 ∧ u2 = 1)) ∧
    Perm3 i64 i8 i1 ∧ (1 ≤ u0 ∧ u0 ≤ 100) ∧ (1 ≤ u1 ∧ u1 ≤ 100) ∧ (1 ≤ u2 ∧ u2 ≤ 100) := by
  unfold sixU at h
  simp only [List.mem_cons, List.not_mem_nil, or_false, Prod.mk.injEq] at h
  unfold Perm3
  rcases h with ⟨rfl, rfl, rfl⟩ | ⟨rfl, rfl, rfl⟩ | ⟨rfl, rfl, rfl⟩ | ⟨rfl, rfl, rfl⟩ | ⟨rfl, rfl, rfl⟩ | ⟨rfl, rfl, rfl⟩
  · exact ⟨0, 1, 2, by decide⟩
  · exact ⟨1, 0, 2, by decide⟩
  · exact ⟨2, 0, 1, by decide⟩
  · exact ⟨0, 2, 1, by decide⟩
  · exact ⟨1, 2, 0, by decide⟩
  · exact ⟨2, 1, 0, by decide⟩
end
section
theorem rks (n : Nat) : (List.range n).map (fun (i : Nat) => (i : Int)) = rangeKs 0 ((n : Int) - 0).toNat := by
  have e : ((n : Int) - 0).toNat = n := by omega
  rw [e]
  unfold rangeKs
  refine List.map_congr_left fun i _ => ?_
  omega
end
end LawLem_part
section PureI_part
open PySem PySem.W PyProof.Rows PyProof.Rows.LCg
section
/-- what the law needs to know of the plain runs -/
noncomputable def PureOK (u0 u1 u2 : Int) (dn : Nat) (qs : List Int) : Prop :=
  ∃ (A B T : List Ent) (most : Int), AbOK u0 u1 u2 dn (qs.map fun q => (allP dn).getD q.toNat 0) A ∧ AbOK u0 u1 u2 dn ((allP dn).take qs.length) B ∧ AbOK u0 u1 u2 (dn + 1) (A.reverse.map (wtP u0 u1 u2)) T ∧
    B.length ≤ (allP (dn + 1)).length ∧ (∀ (j : Nat) (e : Ent), B.reverse[j]? = some e → ∀ k : Nat, k < (allP (dn + 1)).length → (((allP (dn + 1)).map fun x => -x).getD k 0 < -(wtP u0 u1 u2 e) ↔ k < j)) ∧
    cascRun dn (((allP dn).length : Int) - qs.length) 0 = some (((allP (dn + 1)).length : Int) - B.length) ∧ B.length ≤ A.length ∧ cascRun (dn + 1) (((allP (dn + 1)).length : Int) - A.length) 0 = some most ∧
    ((allP (dn + 2)).length : Int) - T.length ≤ most ∧ (A.length = B.length → ((allP (dn + 2)).length : Int) - T.length = most)
end
end PureI_part
end P6
section P7
theorem words23 : True := by
  k_with_none
  k_with "own k_ne" => (first | with_reducible assumption | exact neL0 (by with_reducible assumption) | exact neG0 (by with_reducible assumption) | exact neL1 (by with_reducible assumption) | exact neG1 (by with_reducible assumption) | exact neL2 (by with_reducible assumption) | exact neG2 (by with_reducible assumption) | exact neL3 (by with_reducible assumption) | exact neG3 (by with_reducible assumption) | exact neL4 (by with_reducible assumption) | exact neG4 (by with_reducible assumption) | exact neL5 (by with_reducible assumption) | exact neG5 (by with_reducible assumption) | exact neL6 (by with_reducible assumption) | exact neG6 (by with_reducible assumption) | exact neL7 (by with_reducible assumption) | exact neG7 (by with_reducible assumption) | exact neL8 (by with_reducible assumption) | exact neG8 (by with_reducible assumption) | exact neL9 (by with_reducible assumption) | exact neG9 (by with_reducible assumption) | exact neL10 (by with_reducible assumption) | exact neG10 (by with_reducible assumption) | exact neL11 (by with_reducible assumption) | exact neG11 (by with_reducible assumption) | exact neL12 (by with_reducible assumption) | exact neG12 (by with_reducible assumption) | exact neL13 (by with_reducible assumption) | exact neG13 (by with_reducible assumption) | (refine neN ?_; (try dsimp only); omega))
  k_with "own k_all" => (first | with_reducible assumption | exact allLt_ne (by with_reducible assumption) | exact allLt_ne (And.right (by with_reducible assumption)) | exact allLt_ne (And.right (And.right (by with_reducible assumption))) | exact allLt_ne (And.right (And.right (And.right (by with_reducible assumption)))) | exact allLt_ne (And.right (And.right (And.right (And.right (by with_reducible assumption))))) | exact allLt_ne (And.right (And.right (And.right (And.right (And.right (by with_reducible assumption)))))) | exact allLt_ne (And.right (And.right (And.right (And.right (And.right (And.right (by with_reducible assumption))))))) | exact allLt_ne (And.right (And.right (And.right (And.right (And.right (And.right (And.right (by with_reducible assumption)))))))) | exact allLt_ne (And.right (And.right (And.right (And.right (And.right (And.right (And.right (And.right (by with_reducible assumption))))))))))
  k_with "own exec For" => ((k_here; k_dflt (refine for_start ?_)))
  k_with "own exec For Name Name cons nil" => ((k_here; k_dflt (refine for_start ?_)))
  k_with "own exec For Name Call cons nil" => ((k_here; k_dflt (refine for_start ?_)))
  k_with "own exec For Tuple Attribute cons nil" => ((k_here; k_dflt (refine for_start ?_)))
  k_with "own exec For Tuple Call cons nil" => ((k_here; k_dflt (refine for_start ?_)))
  k_with "own exec For Tuple" => ((k_here; k_dflt (refine for_start ?_)))
  k_with "own exec For Name" => ((k_here; k_dflt (refine for_start ?_)))
  k_with "own ForPost" => ((dsimp only [ForPost]))
  k_with "own ForNext" => ((k_dflt (first | with_reducible refine for_done ?_ | with_reducible refine for_name ?_)))
  k_with "own pyNext ref" => ((k_here; k_dflt (first
  | (refine' next_rng ?F_k ?N_k ?U_k ?l_k ?_; (case F_k => k_asm); (case N_k => k_asm); (case U_k => k_upd); (case l_k => decide); k_whole; intro h'k t'k tk'k F'k N'k; (try k_sweep))
  | (refine' next_rng_end ?H_k ?F_k ?N_k ?m_k ?D_k ?l_k ?_; (case H_k => exact rfl); (case F_k => k_asm); (case N_k => k_asm); (case m_k => k_mem); (case D_k => k_upd); (case l_k => decide); k_whole; intro h'k F'k N'k; (try k_sweep))
  | (refine' next_lst ?F_k ?N_k ?U_k ?o_k ?m_k ?x_k ?_; (case F_k => k_asm); (case N_k => k_asm); (case U_k => k_updF); (case o_k => with_reducible assumption); (case m_k => k_mem); (case x_k => first | (simp only [List.getElem?_toArray, List.getElem?_cons_zero, List.getElem?_cons_succ]; done) | (simp only [List.getElem?_toArray, List.getElem?_cons_zero, List.getElem?_cons_succ]; exact rfl)); k_whole; intro h'k o'k F'k N'k ho'k; (try k_sweep))
  | (refine' next_lst_end ?H_k ?F_k ?N_k ?I_k ?D_k ?o_k ?m_k ?x_k ?_; (case H_k => exact rfl); (case F_k => k_asm); (case N_k => k_asm); (case I_k => k_mem); (case D_k => k_upd); (case o_k => with_reducible assumption); (case m_k => k_mem); (case x_k => rfl); k_whole; intro h'k F'k N'k; (try k_sweep))
  | (refine' next_tup ?F_k ?N_k ?U_k ?o_k ?m_k ?x_k ?_; (case F_k => k_asm); (case N_k => k_asm); (case U_k => k_updF); (case o_k => with_reducible assumption); (case m_k => k_mem); (case x_k => first | (simp only [List.getElem?_cons_zero, List.getElem?_cons_succ]; done) | (simp only [List.getElem?_cons_zero, List.getElem?_cons_succ]; exact rfl)); k_whole; intro h'k o'k F'k N'k ho'k; (try k_sweep))
  | (refine' next_tup_end ?H_k ?F_k ?N_k ?I_k ?D_k ?o_k ?m_k ?x_k ?_; (case H_k => exact rfl); (case F_k => k_asm); (case N_k => k_asm); (case I_k => k_mem); (case D_k => k_upd); (case o_k => with_reducible assumption); (case m_k => k_mem); (case x_k => rfl); k_whole; intro h'k F'k N'k; (try k_sweep)))))
  k_with "own pyIter ref" => ((k_here; k_dflt (first
  | (refine' iter_rit ?N_k ?m_k ?_; (case N_k => k_asm); (case m_k => k_mem); k_whole)
  | (refine' iter_lst ?F_k ?N_k ?m_k ?_; (case F_k => k_asm); (case N_k => k_asm); (case m_k => k_mem); k_whole; intro I'k h'k o'k F'k N'k ho'k l1k; (try k_lt l1k); (try k_sweep))
  | (refine' iter_tup ?F_k ?N_k ?m_k ?_; (case F_k => k_asm); (case N_k => k_asm); (case m_k => k_mem); k_whole; intro I'k h'k o'k F'k N'k ho'k l1k; (try k_lt l1k); (try k_sweep))
  | (refine' iter_rng ?r_k ?s_k ?n_k ?F_k ?N_k ?_; (case r_k => with_reducible assumption); (case s_k => decide); (case n_k => exact Eq.refl _); (case F_k => k_asm); (case N_k => k_asm); k_whole; intro I'k h'k F'k N'k l1k; (try k_lt l1k); (try k_sweep)))))
  k_with "own call type:reversed" => ((k_here; k_dflt (refine' rev_rng ?F_k ?N_k ?r_k ?n_k ?s_k ?_; (case F_k => k_asm); (case N_k => k_asm); (case r_k => with_reducible assumption); (case n_k => exact Eq.refl _); (case s_k => decide); k_whole; intro I'k h'k F'k N'k l1k; (try k_lt l1k); (try k_sweep))))
  k_with "own call builtin:dict.items" => ((k_here; k_dflt (refine' items_call ?F_k ?N_k ?m_k ?d_k ?l_k ?_; (case F_k => k_asm); (case N_k => k_asm); (case m_k => k_mem); (case d_k => with_reducible assumption); (case l_k => with_reducible assumption); k_whole; intro V'k h'k F'k N'k l1k; (try k_lt l1k); (try k_sweep))))
  k_with "own getMethod ref" => ((k_here; (with_reducible show wpAny _ _ (getMethod (Value.ref _) (PySem.Str.ofString "items") _) _ _ _); k_dflt (refine' getMethod_tab_any (knd := PySem.strKind _ _) (enc := PyData.str) ?k1_k ?k2_k ?_; (case k1_k => exact rfl); (case k2_k => k_tabat); k_whole)))
  k_with "own call builtin:len" => ((k_here; (with_reducible show wpAny _ _ (call (Value.builtin "len") [Value.ref _]) _ _ _); k_dflt (refine' kst_len ?N_k ?m_k ?e_k ?f_k ?_; (case N_k => k_asm); (case m_k => k_mem); (case e_k => first | exact IntsAre.length (by with_reducible assumption) | with_reducible assumption); (case f_k => omega); k_whole)))
  k_with "own eval ListComp" => ((k_here; k_dflt (refine comp_eval (by with_unfolding_all rfl) (by decide) (by rfl) (by decide) ?_)))
  k_with "own exec Assign cons ListComp" => ((k_here; k_dflt (refine comp_assign (by with_unfolding_all rfl) (by with_unfolding_all rfl) (by decide) (by rfl) (by decide) ?_)))
  k_with "own Exists" => ((k_here; k_dflt (refine' ⟨_, _, _, _, _, _, rfl, ?F_k, ?N_k, ?m_k, ?s_k, ?_⟩; (case F_k => k_asm); (case N_k => k_asm); (case m_k => k_mem); (case s_k => first | exact .inl ⟨_, _, by with_reducible assumption⟩ | exact .inr (.inl ⟨_, _, by with_reducible assumption⟩) | exact .inr (.inr (.inl ⟨_, _, _, rfl⟩)) | exact .inr (.inr (.inr ⟨_, _, _, rfl⟩))); k_whole); intro C'k D'k oC'k h'k tk'k F'k N'k hC'k l1k l2k; (try k_lt l1k); (try k_lt l2k); (try k_sweep)))
  k_with "own CompNext" => ((k_dflt (first | with_reducible refine comp_next ?_ | with_reducible refine comp_name ?_)))
  k_with "own storeName" => ((k_here; k_dflt (refine' comp_store ?a_k ?b_k ?F_k ?N_k ?U_k ?n_k ?_; (case a_k => exact rfl); (case b_k => exact rfl); (case F_k => k_asm); (case N_k => k_asm); (case U_k => k_updF); (case n_k => with_reducible assumption); k_whole; intro h'k oC'k F'k N'k hC'k; (try k_sweep))))
  k_with "own eval Name" => ((k_here; (with_reducible show wpAny _ _ (eval (Expr.Name _ _) (compEnvC _ _ _ _)) _ _ _); k_dflt (first
  | (refine' comp_local ?N_k ?m_k ?n_k ?x_k ?_ ?a_k ?b_k ?c_k; (case a_k => exact rfl); (case b_k => exact rfl); (case c_k => decide); (case N_k => k_asm); (case m_k => k_mem); (case n_k => with_reducible assumption); (case x_k => exact rfl); k_whole)
  | (refine' comp_cell ?N_k ?l_k ?m_k ?d_k ?_ ?a_k ?b_k ?c_k; (case a_k => exact rfl); (case b_k => exact rfl); (case c_k => decide); (case l_k => exact rfl); (case N_k => k_asm); (case m_k => k_mem); (case d_k => with_reducible assumption); k_whole)
  | (refine' comp_free ?N_k ?l_k ?m_k ?d_k ?_ ?a_k ?b_k ?c_k ?e_k; (case a_k => exact rfl); (case b_k => exact rfl); (case c_k => decide); (case e_k => decide); (case l_k => exact rfl); (case N_k => k_asm); (case m_k => k_mem); (case d_k => with_reducible assumption); k_whole))))
  k_with "own compPost" => ((k_here; k_dflt (first
  | (refine' comp_done ?F_k ?N_k ?C_k ?n_k ?D_k ?_; (case F_k => k_asm); (case N_k => k_asm); (case C_k => k_mem); (case n_k => with_reducible assumption); (case D_k => k_upd); k_whole; intro h'k F'k N'k; (try k_sweep))
  | (refine' comp_doneA ?a_k ?b_k ?F_k ?N_k ?C_k ?n_k ?D_k ?_; (case a_k => exact rfl); (case b_k => exact rfl); (case F_k => k_asm); (case N_k => k_asm); (case C_k => k_mem); (case n_k => with_reducible assumption); (case D_k => k_upd); k_whole; intro h'k tk'k F'k N'k; (try k_sweep)))))
  k_with "own call builtin:list.append" => ((k_here; k_dflt (refine' append_V ?k1_k ?k2_k ?k3_k ?_ ?z_k; (case k1_k => k_asm); (case k2_k => k_asm); (case k3_k => k_upd); (case z_k => first | omega | exact Nat.le_of_ble_eq_true rfl | (simp only [List.length_append, List.length_map, List.length_reverse, List.length_singleton]; omega)); k_whole); intro h'k F'k N'k; (try k_sweep)))
  k_with "own eval Name" => ((k_here; (with_reducible show wpAny _ _ (eval (Expr.Name _ _) (compEnvC _ _ _ _)) _ _ _); k_dflt (first
  | (refine' comp_glob ?F_k ?X_k ?T_k ?e_k ?_ ?a_k ?b_k ?c_k ?d_k; (case a_k => exact rfl); (case b_k => exact rfl); (case c_k => exact rfl); (case d_k => decide); (case F_k => k_asm); (case X_k => k_asm); (case T_k => k_asm); (case e_k => with_reducible assumption); k_whole)
  | (refine' comp_bi ?F_k ?X_k ?T_k ?e_k ?v_k ?n_k ?_ ?a_k ?b_k ?c_k ?g_k ?d_k; (case a_k => exact rfl); (case b_k => exact rfl); (case c_k => exact rfl); (case g_k => exact rfl); (case d_k => decide); (case F_k => k_asm); (case X_k => k_asm); (case T_k => k_asm); (case e_k => with_reducible assumption); (case v_k => boot_fast); (case n_k => decide); k_whole))))
  k_with "own newTuple" => ((k_here; k_dflt (refine' newTup ?F_k ?N_k ?_ ?z_k; (case F_k => k_asm); (case N_k => k_asm); (case z_k => exact Nat.le_of_ble_eq_true rfl); k_whole); intro T'k h'k F'k N'k l1k; (try k_lt l1k); (try k_sweep)))
  trivial
open PySem PySem.W PyProof.Rows
theorem words24 : True := by
  k_with "own eval Name" => ((k_here; (with_reducible show wpAny _ _ (eval (Expr.Name _ _) (compEnvC _ _ _ _)) _ _ _); k_dflt (first
  | (refine' comp_local ?N_k ?m_k ?n_k ?x_k ?_ ?a_k ?b_k ?c_k; (case a_k => exact rfl); (case b_k => exact rfl); (case c_k => decide); (case N_k => k_asm); (case m_k => k_mem); (case n_k => with_reducible assumption); (case x_k => exact rfl); k_whole)
  | (refine' comp_cell ?N_k ?l_k ?m_k ?d_k ?_ ?a_k ?b_k ?c_k; (case a_k => exact rfl); (case b_k => exact rfl); (case c_k => decide); (case l_k => exact rfl); (case N_k => k_asm); (case m_k => k_mem); (case d_k => with_reducible assumption); k_whole)
  | (refine' comp_free ?N_k ?l_k ?m_k ?d_k ?_ ?a_k ?b_k ?c_k ?e_k; (case a_k => exact rfl); (case b_k => exact rfl); (case c_k => decide); (case e_k => decide); (case l_k => exact rfl); (case N_k => k_asm); (case m_k => k_mem); (case d_k => with_reducible assumption); k_whole))))
  k_with "own call builtin:sum" => ((k_here; (with_unfolding_all refine' sumK ?k0_k ?k1_k ?k2_k ?k3_k ?k4_k ?_; (case k0_k => with_unfolding_all rfl); (case k1_k => k_asm); (case k2_k => k_asm); (case k3_k => is_list); (case k4_k => assumption); k_whole); intro h'k tk'k t'k F'k N'k; (try k_sweep)))
  trivial

variable {prog : Program} {w : World} {K : Frag} {p : Program} {loose : List Str} {mean : ExcName → Option Value} {mg mb : Str → Option Value}
set_option maxHeartbeats 8000000 in
theorem law_a {dp un : Nat} {gd : Option (List Code)} {outer : List Env} {A₀ : Around} {base g' : Heap} {L' f : Addr} {cdv : Value} {s : Shared} {Q : Flow → Shared → Prop} {E : Value → Shared → Prop}
   (B' : Below A₀ base outer g') (X' : K.In g') (T' : Top p loose mean mg mb g')
   (b_len : nsIn K mainGlobals (Str.ofString "len") = some none) (b_sum : nsIn K mainGlobals (Str.ofString "sum") = some none) {sc : Addr} {vs : List Value} {ns : List Int} {o1 o2 o3 : Obj} {m0 : Str → Option Value} (hL : g'.IsList sc vs.toArray) (hI : IntsAre vs ns) (hlen : ns.length ≤ 63) (hm : m0 (Str.ofString "script") = some (.ref sc)) (h1 : o1.data = .cell none)
   (hdp : dp + 14 < recursionLimit) (hun : un + 330 < cLine)
   (F : Fr g' L' s.heap (m0)) (N : News g' L' s.heap ([(cel3 L', o3), (cel2 L', o2), (cel1 L', o1)]))
   (ret : ∀ {t : Tok} {dl ul : Addr} {dvs : List Value} {dk nu : Nat} {u0 u1 u2 : Int} {q0 q1 q2 : Tok} {oU : Obj} {h' : Heap} {tk : Nat} {m' : Str → Option Value} {st : Shared} {nn : Led}, Fr g' L' h' m' → News g' L' h' nn → (cel3 L', o3) ∈ nn → (cel2 L', o2) ∈ nn → (cel1 L', oU) ∈ nn → oU.data = .cell (some (.ref ul)) → m' (Str.ofString "degree") = some (.int (2 + (ns.length : Int).fmod 2) t) → m' (Str.ofString "draws") = some (.ref dl) → (dl, listOf dvs.toArray dk) ∈ nn → (ul, tupOf [.int u0 q0, .int u1 q1, .int u2 q2] nu) ∈ nn → cel3 L' < dl → cel3 L' < ul → IntsAre dvs ((ns.take 6).map (fun x => x.fmod 60) ++ [1, 3]) → (u0, u1, u2) ∈ sixU → st = { s with heap := h', toks := tk } → Q .next st) :
   wpAny (model prog w) (({ handled := none, depth := dp, frames := some outer, guards := gd, units := un } : Around).deeper (envOfC (sN (top 21)) (sS (top 21)) L' f cdv)) (execs (((sB (top 21)).drop 0).take 3) (envOfC (sN (top 21)) (sS (top 21)) L' f cdv)) Q E s := by
  w_on
  dsimp only [cel1, cel2, cel3] at N
  dsimp only [top, sN, sA, sB, sS, nth, PySem.Challenge.pw_pg0194_01, List.drop, List.take]
  try k_fold
  replace F := fr_name (x := Str.ofString "script") (v := .ref sc) F hm
  k_steps
  refine' comp_map (fun _ i y => ∃ k t, ((ns.take 6).map fun x => x.fmod 60)[i]? = some k ∧ y = .int k t) (fun _ _ _ _ _ h => h) src_lst ?z29_0 ?z29_1 ?z29_2 ?z29_3 ?z29_4 ?z29_5 ?z29_6 ?z29_7 ?z29_8 ?z29_9 ?z29_10 ?z29_11 ?z29_12 ?z29_13 ?z29_14 ?z29_15 ?_
  (case z29_5 => exact pull3 (by k_asm) (by k_upd) (by k_upd) (by k_upd))
  (case z29_6 => with_reducible assumption)
  (case z29_0 => exact rfl)
  (case z29_1 => exact rfl)
  (case z29_2 => exact rfl)
  (case z29_3 => rw [IntsAre.length (by assumption : IntsAre _ (List.take 6 ns))]; omega)
  (case z29_4 => k_asm)
  (case z29_7 => assumption)
  (case z29_8 => k_ne)
  (case z29_9 => k_ne)
  (case z29_10 => k_ne)
  (case z29_11 => k_all)
  (case z29_12 => k_all)
  (case z29_13 => k_all)
  (case z29_14 => exact fun g9 hs => hs _ (by k_mem))
  (case z29_15 =>
    intro j v vs' nw k' h' tk' oC' o9 E9 hj hv' n1 n2 n3 F9 N9 hC9
    obtain ⟨wt, t, hwt, rfl⟩ := ints_get (by assumption : IntsAre _ (List.take 6 ns)) hv'
    try dsimp only
    try k_fold
    k_steps
    refine' cend_none (front := [_, _, _]) ?z28_0 ?z28_1 ?z28_2
    (case z28_0 => k_asm)
    (case z28_1 => k_asm)
    (case z28_2 => exact ⟨_, _, by rw [List.getElem?_map, hwt]; rfl, rfl⟩))
  intro vs9 new9 k9 oC9 mC9 h9 tk9 hl9 hR9 F9 N9 hC9 oC9' oD9' ab9
  have hd9 : IntsAre vs9 ((ns.take 6).map fun x => x.fmod 60) := ints_of (by rw [hl9, IntsAre.length (by assumption : IntsAre _ (List.take 6 ns)), List.length_map]) hR9
  obtain ⟨N8, oC8, oD8⟩ := comp_drop N9 oC9' oD9'
  clear hR9 N9 oC9' oD9' ab9
  k_steps
  · refine' ret ?z30_0 ?z30_1 ?z30_2 ?z30_3 ?z30_4 ?z30_5 ?z30_6 ?z30_7 ?z30_8 ?z30_9 ?z30_10 ?z30_11 ?z30_12 ?z30_13 ?z30_14
    (case z30_0 => k_asm)
    (case z30_1 => k_asm)
    (case z30_2 => k_mem)
    (case z30_3 => k_mem)
    (case z30_4 => k_mem)
    (case z30_5 => assumption)
    (case z30_6 => (try dsimp only); repeat (first | exact if_pos rfl | refine (if_neg (by decide)).trans ?_))
    (case z30_7 => (try dsimp only); repeat (first | exact if_pos rfl | refine (if_neg (by decide)).trans ?_))
    (case z30_8 => k_mem)
    (case z30_9 => k_mem)
    (case z30_10 => (try dsimp only [cel1, cel2, cel3]); (with_reducible show @LT.lt Nat _ _ _); omega)
    (case z30_11 => (try dsimp only [cel1, cel2, cel3]); (with_reducible show @LT.lt Nat _ _ _); omega)
    (case z30_12 => assumption)
    (case z30_13 => decide)
    (case z30_14 => exact rfl)
  · refine' ret ?z31_0 ?z31_1 ?z31_2 ?z31_3 ?z31_4 ?z31_5 ?z31_6 ?z31_7 ?z31_8 ?z31_9 ?z31_10 ?z31_11 ?z31_12 ?z31_13 ?z31_14
    (case z31_0 => k_asm)
    (case z31_1 => k_asm)
    (case z31_2 => k_mem)
    (case z31_3 => k_mem)
    (case z31_4 => k_mem)
    (case z31_5 => assumption)
    (case z31_6 => (try dsimp only); repeat (first | exact if_pos rfl | refine (if_neg (by decide)).trans ?_))
    (case z31_7 => (try dsimp only); repeat (first | exact if_pos rfl | refine (if_neg (by decide)).trans ?_))
    (case z31_8 => k_mem)
    (case z31_9 => k_mem)
    (case z31_10 => (try dsimp only [cel1, cel2, cel3]); (with_reducible show @LT.lt Nat _ _ _); omega)
    (case z31_11 => (try dsimp only [cel1, cel2, cel3]); (with_reducible show @LT.lt Nat _ _ _); omega)
    (case z31_12 => assumption)
    (case z31_13 => decide)
    (case z31_14 => exact rfl)
  · refine' ret ?z32_0 ?z32_1 ?z32_2 ?z32_3 ?z32_4 ?z32_5 ?z32_6 ?z32_7 ?z32_8 ?z32_9 ?z32_10 ?z32_11 ?z32_12 ?z32_13 ?z32_14
    (case z32_0 => k_asm)
    (case z32_1 => k_asm)
    (case z32_2 => k_mem)
    (case z32_3 => k_mem)
    (case z32_4 => k_mem)
    (case z32_5 => assumption)
    (case z32_6 => (try dsimp only); repeat (first | exact if_pos rfl | refine (if_neg (by decide)).trans ?_))
    (case z32_7 => (try dsimp only); repeat (first | exact if_pos rfl | refine (if_neg (by decide)).trans ?_))
    (case z32_8 => k_mem)
    (case z32_9 => k_mem)
    (case z32_10 => (try dsimp only [cel1, cel2, cel3]); (with_reducible show @LT.lt Nat _ _ _); omega)
    (case z32_11 => (try dsimp only [cel1, cel2, cel3]); (with_reducible show @LT.lt Nat _ _ _); omega)
    (case z32_12 => assumption)
    (case z32_13 => decide)
    (case z32_14 => exact rfl)
  · refine' ret ?z33_0 ?z33_1 ?z33_2 ?z33_3 ?z33_4 ?z33_5 ?z33_6 ?z33_7 ?z33_8 ?z33_9 ?z33_10 ?z33_11 ?z33_12 ?z33_13 ?z33_14
    (case z33_0 => k_asm)
    (case z33_1 => k_asm)
    (case z33_2 => k_mem)
    (case z33_3 => k_mem)
    (case z33_4 => k_mem)
    (case z33_5 => assumption)
    (case z33_6 => (try dsimp only); repeat (first | exact if_pos rfl | refine (if_neg (by decide)).trans ?_))
    (case z33_7 => (try dsimp only); repeat (first | exact if_pos rfl | refine (if_neg (by decide)).trans ?_))
    (case z33_8 => k_mem)
    (case z33_9 => k_mem)
    (case z33_10 => (try dsimp only [cel1, cel2, cel3]); (with_reducible show @LT.lt Nat _ _ _); omega)
    (case z33_11 => (try dsimp only [cel1, cel2, cel3]); (with_reducible show @LT.lt Nat _ _ _); omega)
    (case z33_12 => assumption)
    (case z33_13 => decide)
    (case z33_14 => exact rfl)
  · refine' ret ?z34_0 ?z34_1 ?z34_2 ?z34_3 ?z34_4 ?z34_5 ?z34_6 ?z34_7 ?z34_8 ?z34_9 ?z34_10 ?z34_11 ?z34_12 ?z34_13 ?z34_14
    (case z34_0 => k_asm)
    (case z34_1 => k_asm)
    (case z34_2 => k_mem)
    (case z34_3 => k_mem)
    (case z34_4 => k_mem)
    (case z34_5 => assumption)
    (case z34_6 => (try dsimp only); repeat (first | exact if_pos rfl | refine (if_neg (by decide)).trans ?_))
    (case z34_7 => (try dsimp only); repeat (first | exact if_pos rfl | refine (if_neg (by decide)).trans ?_))
    (case z34_8 => k_mem)
    (case z34_9 => k_mem)
    (case z34_10 => (try dsimp only [cel1, cel2, cel3]); (with_reducible show @LT.lt Nat _ _ _); omega)
    (case z34_11 => (try dsimp only [cel1, cel2, cel3]); (with_reducible show @LT.lt Nat _ _ _); omega)
    (case z34_12 => assumption)
    (case z34_13 => decide)
    (case z34_14 => exact rfl)
  · refine' ret ?z35_0 ?z35_1 ?z35_2 ?z35_3 ?z35_4 ?z35_5 ?z35_6 ?z35_7 ?z35_8 ?z35_9 ?z35_10 ?z35_11 ?z35_12 ?z35_13 ?z35_14
    (case z35_0 => k_asm)
    (case z35_1 => k_asm)
    (case z35_2 => k_mem)
    (case z35_3 => k_mem)
    (case z35_4 => k_mem)
    (case z35_5 => assumption)
    (case z35_6 => (try dsimp only); repeat (first | exact if_pos rfl | refine (if_neg (by decide)).trans ?_))
    (case z35_7 => (try dsimp only); repeat (first | exact if_pos rfl | refine (if_neg (by decide)).trans ?_))
    (case z35_8 => k_mem)
    (case z35_9 => k_mem)
    (case z35_10 => (try dsimp only [cel1, cel2, cel3]); (with_reducible show @LT.lt Nat _ _ _); omega)
    (case z35_11 => (try dsimp only [cel1, cel2, cel3]); (with_reducible show @LT.lt Nat _ _ _); omega)
    (case z35_12 => assumption)
    (case z35_13 => decide)
    (case z35_14 => exact rfl)
theorem words25 : True := by
  k_with "own call ref" => ((k_here; k_dflt (refine call_mark ?_)))
  trivial

set_option maxHeartbeats 8000000 in
theorem law_b {dp un : Nat} {gd : Option (List Code)} {outer : List Env} {A₀ : Around} {base g' : Heap} {L' f : Addr} {cdv : Value} {s : Shared} {Q : Flow → Shared → Prop} {E : Value → Shared → Prop}
   (B' : Below A₀ base outer g') (X' : K.In g') (T' : Top p loose mean mg mb g')
   (b_len : nsIn K mainGlobals (Str.ofString "len") = some none) (b_range : nsIn K mainGlobals (Str.ofString "range") = some none) {fl : Addr} (hfl : FunAt K 15 fl .none .none) {dn : Nat} {td : Tok} {dl : Addr} {o1 o2 o3 : Obj} {m0 : Str → Option Value} {G : Led} (hGt : ∀ p ∈ G, cel3 L' < p.1) (hdn : dn = 2 ∨ dn = 3) (m1 : m0 (Str.ofString "degree") = some (.int (dn : Int) td)) (m2 : m0 (Str.ofString "draws") = some (.ref dl)) (h2 : o2.data = .cell none)
   (hdp : dp + 14 < recursionLimit) (hun : un + 330 < cLine)
   (F : Fr g' L' s.heap (m0)) (N : News g' L' s.heap ((cel3 L', o3) :: (cel2 L', o2) :: (cel1 L', o1) :: G))
   (ret : ∀ {pl hl ql : Addr} {pvs hvs : List Value} {pk hk qk : Nat} {oP : Obj} {h' : Heap} {tk : Nat} {m' : Str → Option Value} {st : Shared} {nn : Led}, Fr g' L' h' m' → News g' L' h' nn → (cel3 L', o3) ∈ nn → (cel2 L', oP) ∈ nn → (cel1 L', o1) ∈ nn → oP.data = .cell (some (.ref pl)) → m' (Str.ofString "degree") = some (.int (dn : Int) td) → m' (Str.ofString "draws") = some (.ref dl) → m' (Str.ofString "higher") = some (.ref hl) → m' (Str.ofString "places") = some (.ref ql) →
      (pl, listOf pvs.toArray pk) ∈ nn → IntsAre pvs (allP dn) → (hl, listOf hvs.toArray hk) ∈ nn → IntsAre hvs (allP (dn + 1)) → (ql, listOf #[] qk) ∈ nn → (∀ p ∈ G, p ∈ nn) → cel3 L' < pl → cel3 L' < hl → hl < ql → pl < ql → cel3 L' < ql → (∀ p ∈ G, p.1 < ql) → st = { s with heap := h', toks := tk } → Q .next st) :
   wpAny (model prog w) (({ handled := none, depth := dp, frames := some outer, guards := gd, units := un } : Around).deeper (envOfC (sN (top 21)) (sS (top 21)) L' f cdv)) (execs (((sB (top 21)).drop 3).take 3) (envOfC (sN (top 21)) (sS (top 21)) L' f cdv)) Q E s := by
  w_on
  have of1 : ∀ p ∈ G, p.1 ≠ cel1 L' := fun p hp => Nat.ne_of_gt (Nat.lt_trans (Nat.lt_succ_of_lt (Nat.lt_succ_self (cel1 L'))) (hGt p hp))
  have of2 : ∀ p ∈ G, p.1 ≠ cel2 L' := fun p hp => Nat.ne_of_gt (Nat.lt_trans (Nat.lt_succ_self (cel2 L')) (hGt p hp))
  have of3 : ∀ p ∈ G, p.1 ≠ cel3 L' := fun p hp => Nat.ne_of_gt (hGt p hp)
  dsimp only [cel1, cel2, cel3] at N of1 of2 of3
  have hkeep15 := FunAt.keep hfl
  have hname15 := FunAt.name hfl
  dsimp only [top, sN, nth, PySem.Challenge.pw_pg0194_01] at hname15
  dsimp only [top, sN, sA, sB, sS, nth, PySem.Challenge.pw_pg0194_01, List.drop, List.take]
  try k_fold
  replace F := fr_name (x := Str.ofString "degree") (v := .int (dn : Int) td) F (by exact m1)
  replace F := fr_name (x := Str.ofString "draws") (v := .ref dl) F (by rw [if_neg (by decide)]; exact m2)
  k_steps
  refine' Spec.use (al_gen hfl b_range (dn := dn) ?z36_8 ?z36_9) ?z36_0 ?z36_1 ?z36_2 ?z36_3 ?z36_4 ?z36_5 ?z36_6 ?z36_7 ?_
  (case z36_0 => k_asm)
  (case z36_1 => k_asm)
  (case z36_2 => k_asm)
  (case z36_3 => k_asm)
  (case z36_4 => k_asm)
  (case z36_5 => first | exact rfl | assumption)
  (case z36_6 => ktr_room)
  (case z36_7 => ktr_units)
  (case z36_8 => first | exact rfl | omega)
  (case z36_9 => exact deg0 hdn)
  intro r1 G1 h1 tk1 F1 N1 P1
  obtain ⟨vs1, n1, a1, e1, f1, l1, i1⟩ := P1
  subst e1 f1
  try k_lt l1
  try dsimp only
  k_steps
  refine' Spec.use (al_gen hfl b_range (dn := dn + 1) ?z37_8 ?z37_9) ?z37_0 ?z37_1 ?z37_2 ?z37_3 ?z37_4 ?z37_5 ?z37_6 ?z37_7 ?_
  (case z37_0 => k_asm)
  (case z37_1 => k_asm)
  (case z37_2 => k_asm)
  (case z37_3 => k_asm)
  (case z37_4 => k_asm)
  (case z37_5 => first | exact rfl | assumption)
  (case z37_6 => ktr_room)
  (case z37_7 => ktr_units)
  (case z37_8 => first | exact rfl | omega)
  (case z37_9 => exact deg1 hdn)
  intro r2 G2 h2 tk2 F2 N2 P2
  obtain ⟨vs2, n2, a2, e2, f2, l2, i2⟩ := P2
  subst e2 f2
  try k_lt l2
  try dsimp only
  k_steps
  refine' ret ?z38_0 ?z38_1 ?z38_2 ?z38_3 ?z38_4 ?z38_5 ?z38_6 ?z38_7 ?z38_8 ?z38_9 ?z38_10 ?z38_11 ?z38_12 ?z38_13 ?z38_14 ?z38_15 ?z38_16 ?z38_17 ?z38_18 ?z38_19 ?z38_20 ?z38_21 ?z38_22
  (case z38_0 => k_asm)
  (case z38_1 => k_asm)
  (case z38_2 => k_mem)
  (case z38_3 => k_mem)
  (case z38_4 => k_mem)
  (case z38_5 => assumption)
  (case z38_6 => (try dsimp only); repeat (first | exact if_pos rfl | refine (if_neg (by decide)).trans ?_))
  (case z38_7 => (try dsimp only); repeat (first | exact if_pos rfl | refine (if_neg (by decide)).trans ?_))
  (case z38_8 => (try dsimp only); repeat (first | exact if_pos rfl | refine (if_neg (by decide)).trans ?_))
  (case z38_9 => (try dsimp only); repeat (first | exact if_pos rfl | refine (if_neg (by decide)).trans ?_))
  (case z38_10 => k_mem)
  (case z38_11 => assumption)
  (case z38_12 => k_mem)
  (case z38_13 => assumption)
  (case z38_14 => k_mem)
  (case z38_15 => intro p hp; repeat (first | exact hp | refine List.mem_cons_of_mem _ ?_))
  (case z38_16 => (try dsimp only [cel1, cel2, cel3]); (with_reducible show @LT.lt Nat _ _ _); omega)
  (case z38_17 => (try dsimp only [cel1, cel2, cel3]); (with_reducible show @LT.lt Nat _ _ _); omega)
  (case z38_18 => (try dsimp only [cel1, cel2, cel3]); (with_reducible show @LT.lt Nat _ _ _); omega)
  (case z38_19 => (try dsimp only [cel1, cel2, cel3]); (with_reducible show @LT.lt Nat _ _ _); omega)
  (case z38_20 => (try dsimp only [cel1, cel2, cel3]); (with_reducible show @LT.lt Nat _ _ _); omega)
  (case z38_21 => refine ktn_ltOf ?_; first | exact by with_reducible assumption | exact And.right (by with_reducible assumption) | exact And.right (And.right (by with_reducible assumption)) | exact And.right (And.right (And.right (by with_reducible assumption))) | exact And.right (And.right (And.right (And.right (by with_reducible assumption)))) | exact And.right (And.right (And.right (And.right (And.right (by with_reducible assumption))))) | exact And.right (And.right (And.right (And.right (And.right (And.right (by with_reducible assumption)))))) | exact And.right (And.right (And.right (And.right (And.right (And.right (And.right (by with_reducible assumption))))))) | exact And.right (And.right (And.right (And.right (And.right (And.right (And.right (And.right (by with_reducible assumption)))))))) | exact And.right (And.right (And.right (And.right (And.right (And.right (And.right (And.right (And.right (by with_reducible assumption))))))))))
  (case z38_22 => exact rfl)
theorem words26 : True := by
  k_with "own compareOp NotIn int ref" => ((k_here; k_dflt (refine' notin_ints ?N_k ?m_k ?i_k ?u_k ?_; (case N_k => k_asm); (case m_k => k_mem); (case i_k => with_reducible assumption); (case u_k => ktr_units); k_whole)))
  k_with "own subscriptTail Name Slice ref ref" => ((k_here; k_dflt (first
  | (refine' slice_from_ints (s := ⟨_, _, _, _, _⟩) ?F_k ?N_k ?m_k ?i_k ?z_k ?_ ?h_k ?g_k; (case h_k => with_unfolding_all rfl); (case g_k => (intro _; with_unfolding_all rfl)); (case F_k => k_asm); (case N_k => k_asm); (case m_k => k_mem); (case i_k => with_reducible assumption); (case z_k => omega); k_whole)
  | (refine' slice_upto_ints (s := ⟨_, _, _, _, _⟩) ?F_k ?N_k ?m_k ?i_k ?z_k ?_ ?h_k ?g_k; (case h_k => with_unfolding_all rfl); (case g_k => (intro _; with_unfolding_all rfl)); (case F_k => k_asm); (case N_k => k_asm); (case m_k => k_mem); (case i_k => with_reducible assumption); (case z_k => omega); k_whole)); intro T'k h'k ws'k F'k N'k l1k hi'k; (try k_lt l1k); (try k_sweep)))
  trivial

set_option maxHeartbeats 8000000 in
theorem law_c {dp un : Nat} {gd : Option (List Code)} {outer : List Env} {A₀ : Around} {base g' : Heap} {L' f : Addr} {cdv : Value} {s : Shared} {Q : Flow → Shared → Prop} {E : Value → Shared → Prop}
   (B' : Below A₀ base outer g') (X' : K.In g') (T' : Top p loose mean mg mb g')
   (b_len : nsIn K mainGlobals (Str.ofString "len") = some none) {f1 f2 f3 : Addr} (hf1 : FunBAt K 1 f1) (hf2 : FunBAt K 2 f2) (hf3 : FunBAt K 3 f3) {dl pl ql : Addr} {dvs pvs : List Value} {ds ps : List Int} {dk pk qk : Nat} {o2 : Obj} {m0 : Str → Option Value} {G : Led} (hd : (dl, listOf dvs.toArray dk) ∈ G) (hdi : IntsAre dvs ds) (hdn : ds.length ≤ 100) (hp : (pl, listOf pvs.toArray pk) ∈ G) (hpi : IntsAre pvs ps) (hpn : 1 ≤ ps.length ∧ ps.length ≤ 100) (hc : (cel2 L', o2) ∈ G) (ho : o2.data = .cell (some (.ref pl))) (hq : ∀ p ∈ G, p.1 ≠ ql) (m1 : m0 (Str.ofString "draws") = some (.ref dl)) (m2 : m0 (Str.ofString "places") = some (.ref ql))
   (hdp : dp + 14 < recursionLimit) (hun : un + 330 < cLine)
   (F : Fr g' L' s.heap (m0)) (N : News g' L' s.heap ((ql, listOf #[] qk) :: G))
   (ret : ∀ {qvs : List Value} {qs : List Int} {qk : Nat} {h' : Heap} {tk : Nat} {m' : Str → Option Value} {st : Shared}, Fr g' L' h' m' → News g' L' h' ((ql, listOf qvs.toArray qk) :: G) → IntsAre qvs qs → PlB ps.length ds ds.length qs → (∀ z, z ≠ Str.ofString "x" → z ≠ Str.ofString "place" → m' z = m0 z) → st = { s with heap := h', toks := tk } → Q .next st) :
   wpAny (model prog w) (({ handled := none, depth := dp, frames := some outer, guards := gd, units := un } : Around).deeper (envOfC (sN (top 21)) (sS (top 21)) L' f cdv)) (execs (((sB (top 21)).drop 6).take 1) (envOfC (sN (top 21)) (sS (top 21)) L' f cdv)) Q E s := by
  w_on
  have hkeep3 := FunBAt.keep hf3
  have hname3 := FunBAt.name hf3
  dsimp only [top, sN, nth, PySem.Challenge.pw_pg0194_01] at hname3
  have hkeep1 := FunBAt.keep hf1
  have hname1 := FunBAt.name hf1
  dsimp only [top, sN, nth, PySem.Challenge.pw_pg0194_01] at hname1
  dsimp only [cel2] at hc
  dsimp only [top, sN, sA, sB, sS, nth, PySem.Challenge.pw_pg0194_01, List.drop, List.take]
  try k_fold
  replace F := fr_name (x := Str.ofString "draws") (v := .ref dl) F (by exact m1)
  replace F := fr_name (x := Str.ofString "places") (v := .ref ql) F (by rw [if_neg (by decide)]; exact m2)
  k_steps
  refine' for_inv1 (σ := List Value × List Int × Nat) (fun c => listOf c.1.toArray c.2.2) (fun c => G) (fun _ => []) [Str.ofString "place", Str.ofString "x"] (fun i c => IntsAre c.1 c.2.1 ∧ PlB ps.length ds i c.2.1) ([], [], qk) (src_lst (l := dl) (vs := dvs) (k := dk)) ?z43_0 ?z43_1 ?z43_2 ?z43_3 ?z43_4 ?z43_5 ?z43_6 ?z43_7 ?z43_8 ?z43_9 ?z43_10 ?z43_11 ?_
  (case z43_0 => exact rfl)
  (case z43_1 => exact rfl)
  (case z43_2 => exact rfl)
  (case z43_3 => k_asm)
  (case z43_4 => k_asm)
  (case z43_5 => with_reducible assumption)
  (case z43_6 => k_all)
  (case z43_7 => k_all)
  (case z43_8 => exact List.forall_mem_nil _)
  (case z43_9 => exact ⟨.nil, .nil, List.forall_mem_nil _, List.forall_mem_nil _, Nat.le_refl _⟩)
  (case z43_10 => exact fun _ _ _ => List.mem_cons_of_mem _ hd)
  (case z43_11 =>
    intro i v c u h tk o' E' hi hv hP offI offQ offD F5 N5
    obtain ⟨qvs, qs, qk'⟩ := c
    obtain ⟨hqi, hqP⟩ := hP
    dsimp only at hqi hqP F5 N5
    obtain ⟨x9, tx, hx9, rfl⟩ := ints_get hdi hv
    have hlq : qs.length ≤ 100 := Nat.le_trans hqP.len (by rw [hdi.length] at hi; omega)
    have hcl := ltC_le qs (x9.fmod ps.length)
    have hci := @ltC_iff qs (x9.fmod ps.length) hqP.sorted
    have offQ' := neN offQ
    try dsimp only
    k_steps
    refine' Spec.use (bl2 hf3 b_len (l := ql) (c := (ltC qs (x9.fmod ps.length) : Int)) ?z39_8 ?z39_9 ?z39_10 ?z39_11 ?z39_12) ?z39_0 ?z39_1 ?z39_2 ?z39_3 ?z39_4 ?z39_5 ?z39_6 ?z39_7 ?_
    (case z39_0 => k_asm)
    (case z39_1 => k_asm)
    (case z39_2 => k_asm)
    (case z39_3 => k_asm)
    (case z39_4 => k_asm)
    (case z39_5 => first | exact rfl | assumption)
    (case z39_6 => ktr_room)
    (case z39_7 => ktr_units)
    (case z39_8 => k_mem)
    (case z39_9 => exact hqi)
    (case z39_10 => omega)
    (case z39_11 => omega)
    (case z39_12 => intro k k0 k1; exact (hci (k := k.toNat) (by omega)).trans (by omega))
    intro r1 G1 h1 tk1 F1 N1 P1
    obtain ⟨eG1, t1, e1⟩ := P1
    subst e1 eG1
    try dsimp only
    k_steps
    · have hin := (ltC_mem hqP.sorted).mp (by assumption)
      refine' f_end (qvs, qs, qk') ?z40_0 ?z40_1 ?z40_2 ?z40_3 ?z40_4 ?z40_5
      (case z40_0 => k_asm)
      (case z40_1 => exact news_sub (by k_asm) (by refine List.forall_mem_cons.mpr ⟨by k_mem, ?_⟩; refine List.forall_mem_cons.mpr ⟨by k_mem, ?_⟩; intro p hp; repeat (first | exact hp | refine List.mem_cons_of_mem _ ?_)))
      (case z40_2 => exact List.forall_mem_nil _)
      (case z40_3 => exact (by intro z h2 h3; first | rfl | (simp only [List.forall_mem_cons, List.not_mem_nil, false_implies, implies_true, and_true, ne_eq] at h2; simp only [List.contains_cons, List.contains_nil, Bool.or_false, Bool.or_eq_false_iff, beq_eq_false_iff_ne, ne_eq] at h3; simp [kstB, h2, h3])))
      (case z40_4 => k_all)
      (case z40_5 => exact ⟨⟨hqi, hqP.old hx9 hin⟩, offD⟩)
    · have hin : x9.fmod ps.length ∉ qs := fun h => (by assumption : ¬ _ ∈ List.drop _ _) ((ltC_mem hqP.sorted).mpr h)
      have hci2 := @ltC_iff_le qs (x9.fmod ps.length) hqP.sorted hin
      refine' Spec.use (in_spec hf1 hf2 b_len (l := ql) (c := (ltC qs (x9.fmod ps.length) : Int)) ?z41_8 ?z41_9 ?z41_10 ?z41_11 ?z41_12) ?z41_0 ?z41_1 ?z41_2 ?z41_3 ?z41_4 ?z41_5 ?z41_6 ?z41_7 ?_
      (case z41_0 => k_asm)
      (case z41_1 => k_asm)
      (case z41_2 => k_asm)
      (case z41_3 => exact Pull.news (by k_asm) (by k_upd))
      (case z41_4 => k_asm)
      (case z41_5 => first | exact rfl | assumption)
      (case z41_6 => ktr_room)
      (case z41_7 => ktr_units)
      (case z41_8 => k_all)
      (case z41_9 => exact hqi)
      (case z41_10 => omega)
      (case z41_11 => omega)
      (case z41_12 => intro k k0 k1; exact (hci2 (k := k.toNat) (by omega)).trans (by omega))
      intro r2 G2 h2 tk2 F2 N2 P2
      obtain ⟨e2, vs2, n2, eG2, i2⟩ := P2
      subst e2 eG2
      rw [Int.toNat_natCast] at i2
      try dsimp only
      k_steps
      refine' f_end (vs2, qs.take (ltC qs (x9.fmod ps.length)) ++ x9.fmod ps.length :: qs.drop (ltC qs (x9.fmod ps.length)), n2) ?z42_0 ?z42_1 ?z42_2 ?z42_3 ?z42_4 ?z42_5
      (case z42_0 => k_asm)
      (case z42_1 => exact news_sub (by k_asm) (by refine List.forall_mem_cons.mpr ⟨by k_mem, ?_⟩; refine List.forall_mem_cons.mpr ⟨by k_mem, ?_⟩; intro p hp; repeat (first | exact hp | refine List.mem_cons_of_mem _ ?_)))
      (case z42_2 => exact List.forall_mem_nil _)
      (case z42_3 => exact (by intro z h2 h3; first | rfl | (simp only [List.forall_mem_cons, List.not_mem_nil, false_implies, implies_true, and_true, ne_eq] at h2; simp only [List.contains_cons, List.contains_nil, Bool.or_false, Bool.or_eq_false_iff, beq_eq_false_iff_ne, ne_eq] at h3; simp [kstB, h2, h3])))
      (case z42_4 => k_all)
      (case z42_5 => exact ⟨⟨i2, hqP.new (by omega) hx9 hin⟩, offD⟩))
  intro c u h tk hP offD F5 N5
  obtain ⟨qvs, qs, qk'⟩ := c
  obtain ⟨hqi, hqP⟩ := hP
  dsimp only at hqi hqP F5 N5
  k_steps
  refine ret F5 N5 hqi (by rw [← hdi.length]; exact hqP) ?_ rfl
  intro z z1 z2
  show (if [Str.ofString "place", Str.ofString "x"].contains z = true then u z else if z = Str.ofString "places" then some (.ref ql) else if z = Str.ofString "draws" then some (.ref dl) else m0 z) = m0 z
  rw [if_neg (by simp only [List.contains_cons, List.contains_nil, Bool.or_false, Bool.or_eq_true, beq_iff_eq]; exact fun h => h.elim z2 z1)]
  by_cases y1 : z = Str.ofString "places"
  · rw [if_pos y1, y1]; exact m2.symm
  rw [if_neg y1]
  by_cases y2 : z = Str.ofString "draws"
  · rw [if_pos y2, y2]; exact m1.symm
  rw [if_neg y2]
theorem words27 : True := by
  k_with "own eval Name" => ((k_here; (with_reducible show wpAny _ _ (eval (Expr.Name _ _) (compEnvC _ _ _ _)) _ _ _); k_dflt (first
  | (refine' comp_local ?N_k ?m_k ?n_k ?x_k ?_ ?a_k ?b_k ?c_k; (case a_k => exact rfl); (case b_k => exact rfl); (case c_k => decide); (case N_k => k_asm); (case m_k => k_mem); (case n_k => with_reducible assumption); (case x_k => exact rfl); k_whole)
  | (refine' comp_cell ?N_k ?l_k ?m_k ?d_k ?_ ?a_k ?b_k ?c_k; (case a_k => exact rfl); (case b_k => exact rfl); (case c_k => decide); (case l_k => exact rfl); (case N_k => k_asm); (case m_k => k_mem); (case d_k => with_reducible assumption); k_whole)
  | (refine' comp_free ?N_k ?l_k ?m_k ?d_k ?_ ?a_k ?b_k ?c_k ?e_k; (case a_k => exact rfl); (case b_k => exact rfl); (case c_k => decide); (case e_k => decide); (case l_k => exact rfl); (case N_k => k_asm); (case m_k => k_mem); (case d_k => with_reducible assumption); k_whole))))
  k_with "own subscriptTail Name Name ref int" => ((k_here; (with_reducible show wpAny _ _ (subscriptTail _ _ (Value.ref _) (Value.int _ _)) _ _ _); k_dflt (refine' int_at ?N_k ?m_k ?i_k ?k_k ?l_k ?_ ?z_k; (case z_k => with_unfolding_all rfl); (case N_k => k_asm); (case m_k => k_mem); (case i_k => with_reducible assumption); (case k_k => omega); (case l_k => omega); k_whole); intro _))
  k_with "own eval Name" => ((k_here; (with_reducible show wpAny _ _ (eval (Expr.Name _ _) (compEnvC _ _ _ _)) _ _ _); k_dflt (first
  | (refine' comp_local ?N_k ?m_k ?n_k ?x_k ?_ ?a_k ?b_k ?c_k; (case a_k => exact rfl); (case b_k => exact rfl); (case c_k => decide); (case N_k => k_asm); (case m_k => k_mem); (case n_k => with_reducible assumption); (case x_k => exact rfl); k_whole)
  | (refine' comp_cell ?N_k ?l_k ?m_k ?d_k ?_ ?a_k ?b_k ?c_k; (case a_k => exact rfl); (case b_k => exact rfl); (case c_k => decide); (case l_k => exact rfl); (case N_k => k_asm); (case m_k => k_mem); (case d_k => with_reducible assumption); k_whole)
  | (refine' comp_free ?N_k ?l_k ?m_k ?d_k ?_ ?a_k ?b_k ?c_k ?e_k; (case a_k => exact rfl); (case b_k => exact rfl); (case c_k => decide); (case e_k => decide); (case l_k => exact rfl); (case N_k => k_asm); (case m_k => k_mem); (case d_k => with_reducible assumption); k_whole))))
  trivial

set_option maxHeartbeats 8000000 in
theorem law_d {dp un : Nat} {gd : Option (List Code)} {outer : List Env} {A₀ : Around} {base g' : Heap} {L' f : Addr} {cdv : Value} {s : Shared} {Q : Flow → Shared → Prop} {E : Value → Shared → Prop}
   (B' : Below A₀ base outer g') (X' : K.In g') (T' : Top p loose mean mg mb g')
   (b_len : nsIn K mainGlobals (Str.ofString "len") = some none) {pl ql : Addr} {pvs qvs : List Value} {ps qs : List Int} {pk qk : Nat} {o2 o3 : Obj} {m0 : Str → Option Value} {G : Led} (hp : (pl, listOf pvs.toArray pk) ∈ G) (hpi : IntsAre pvs ps) (hpn : 1 ≤ ps.length ∧ ps.length ≤ 100) (hq : (ql, listOf qvs.toArray qk) ∈ G) (hqi : IntsAre qvs qs) (hqn : qs.length ≤ 100) (hqr : ∀ q ∈ qs, 0 ≤ q ∧ q < ps.length) (hc : (cel2 L', o2) ∈ G) (ho : o2.data = .cell (some (.ref pl))) (hX : (cel3 L', o3) ∈ G) (m1 : m0 (Str.ofString "places") = some (.ref ql))
   (hdp : dp + 14 < recursionLimit) (hun : un + 330 < cLine)
   (F : Fr g' L' s.heap (m0)) (N : News g' L' s.heap (G))
   (ret : ∀ {wl fl : Addr} {wvs fvs : List Value} {wk fk : Nat} {h' : Heap} {tk : Nat} {m' : Str → Option Value} {st : Shared} {nn : Led}, Fr g' L' h' m' → News g' L' h' nn → m' (Str.ofString "weights") = some (.ref wl) → m' (Str.ofString "firsts") = some (.ref fl) → (wl, listOf wvs.toArray wk) ∈ nn → IntsAre wvs (qs.map fun q => ps.getD q.toNat 0) → (fl, listOf fvs.toArray fk) ∈ nn → IntsAre fvs (ps.take qs.length) → (∀ p ∈ G, p ∈ nn) → cel3 L' < wl → cel3 L' < fl → (∀ z, z ≠ Str.ofString "weights" → z ≠ Str.ofString "firsts" → m' z = m0 z) → st = { s with heap := h', toks := tk } → Q .next st) :
   wpAny (model prog w) (({ handled := none, depth := dp, frames := some outer, guards := gd, units := un } : Around).deeper (envOfC (sN (top 21)) (sS (top 21)) L' f cdv)) (execs (((sB (top 21)).drop 7).take 2) (envOfC (sN (top 21)) (sS (top 21)) L' f cdv)) Q E s := by
  w_on
  dsimp only [cel2] at hc
  dsimp only [top, sN, sA, sB, sS, nth, PySem.Challenge.pw_pg0194_01, List.drop, List.take]
  try k_fold
  replace F := fr_name (x := Str.ofString "places") (v := .ref ql) F (by exact m1)
  k_steps
  refine' comp_map (fun _ i y => ∃ k t, (qs.map fun q => ps.getD q.toNat 0)[i]? = some k ∧ y = .int k t) (fun _ _ _ _ _ h => h) src_lst ?z45_0 ?z45_1 ?z45_2 ?z45_3 ?z45_4 ?z45_5 ?z45_6 ?z45_7 ?z45_8 ?z45_9 ?z45_10 ?z45_11 ?z45_12 ?z45_13 ?z45_14 ?z45_15 ?_
  (case z45_5 => exact pull3 (by k_asm) (by k_upd) (by k_upd) (by k_upd))
  (case z45_6 => with_reducible assumption)
  (case z45_0 => exact rfl)
  (case z45_1 => exact rfl)
  (case z45_2 => exact rfl)
  (case z45_3 => rw [IntsAre.length hqi]; omega)
  (case z45_4 => k_asm)
  (case z45_7 => assumption)
  (case z45_8 => k_ne)
  (case z45_9 => k_ne)
  (case z45_10 => k_ne)
  (case z45_11 => k_all)
  (case z45_12 => k_all)
  (case z45_13 => k_all)
  (case z45_14 => exact fun g9 hs => hs _ (by k_mem))
  (case z45_15 =>
    intro j v vs' nw k' h' tk' oC' o9 E9 hj hv' n1 n2 n3 F9 N9 hC9
    obtain ⟨wt, t, hwt, rfl⟩ := ints_get hqi hv'
    have hr9 := hqr wt (mem_of_get hwt)
    have hg9 := sub4 N9
    have w1 := hg9 _ hc
    have w2 := hg9 _ hp
    try dsimp only
    try k_fold
    k_steps
    refine' cend_none (front := [_, _, _]) ?z44_0 ?z44_1 ?z44_2
    (case z44_0 => k_asm)
    (case z44_1 => k_asm)
    (case z44_2 => exact ⟨_, _, by rw [List.getElem?_map, hwt]; rfl, rfl⟩))
  intro vs9 new9 k9 oC9 mC9 h9 tk9 hl9 hR9 F9 N9 hC9 oC9' oD9' ab9
  have hd9 : IntsAre vs9 (qs.map fun q => ps.getD q.toNat 0) := ints_of (by rw [hl9, hqi.length, List.length_map]) hR9
  obtain ⟨N8, oC8, oD8⟩ := comp_drop N9 oC9' oD9'
  clear hR9 N9 oC9' oD9' ab9
  k_steps
  refine' ret ?z46_0 ?z46_1 ?z46_2 ?z46_3 ?z46_4 ?z46_5 ?z46_6 ?z46_7 ?z46_8 ?z46_9 ?z46_10 ?z46_11 ?z46_12
  (case z46_0 => k_asm)
  (case z46_1 => k_asm)
  (case z46_2 => (try dsimp only); repeat (first | exact if_pos rfl | refine (if_neg (by decide)).trans ?_))
  (case z46_3 => (try dsimp only); repeat (first | exact if_pos rfl | refine (if_neg (by decide)).trans ?_))
  (case z46_4 => k_mem)
  (case z46_5 => exact hd9)
  (case z46_6 => k_mem)
  (case z46_7 => assumption)
  (case z46_8 => intro p hp; repeat (first | exact hp | refine List.mem_cons_of_mem _ ?_))
  (case z46_9 => exact (by refine ktn_ltOf ?_; first | exact by with_reducible assumption | exact And.right (by with_reducible assumption) | exact And.right (And.right (by with_reducible assumption)) | exact And.right (And.right (And.right (by with_reducible assumption))) | exact And.right (And.right (And.right (And.right (by with_reducible assumption)))) | exact And.right (And.right (And.right (And.right (And.right (by with_reducible assumption))))) | exact And.right (And.right (And.right (And.right (And.right (And.right (by with_reducible assumption)))))) | exact And.right (And.right (And.right (And.right (And.right (And.right (And.right (by with_reducible assumption))))))) | exact And.right (And.right (And.right (And.right (And.right (And.right (And.right (And.right (by with_reducible assumption)))))))) | exact And.right (And.right (And.right (And.right (And.right (And.right (And.right (And.right (And.right (by with_reducible assumption))))))))) : ∀ p ∈ G, p.1 < _) _ hX)
  (case z46_10 => exact (by refine ktn_ltOf ?_; first | exact by with_reducible assumption | exact And.right (by with_reducible assumption) | exact And.right (And.right (by with_reducible assumption)) | exact And.right (And.right (And.right (by with_reducible assumption))) | exact And.right (And.right (And.right (And.right (by with_reducible assumption)))) | exact And.right (And.right (And.right (And.right (And.right (by with_reducible assumption))))) | exact And.right (And.right (And.right (And.right (And.right (And.right (by with_reducible assumption)))))) | exact And.right (And.right (And.right (And.right (And.right (And.right (And.right (by with_reducible assumption))))))) | exact And.right (And.right (And.right (And.right (And.right (And.right (And.right (And.right (by with_reducible assumption)))))))) | exact And.right (And.right (And.right (And.right (And.right (And.right (And.right (And.right (And.right (by with_reducible assumption))))))))) : ∀ p ∈ G, p.1 < _) _ hX)
  (case z46_11 =>
    intro z zz0 zz1
    try dsimp only
    simp only [if_neg zz0, if_neg zz1]
    by_cases qm1 : z = Str.ofString "places"
    · rw [if_pos qm1, qm1]; exact m1.symm
    rw [if_neg qm1])
  (case z46_12 => exact rfl)
set_option maxHeartbeats 8000000 in
theorem law_e {dp un : Nat} {gd : Option (List Code)} {outer : List Env} {A₀ : Around} {base g' : Heap} {L' f : Addr} {cdv : Value} {s : Shared} {Q : Flow → Shared → Prop} {E : Value → Shared → Prop}
   (B' : Below A₀ base outer g') (X' : K.In g') (T' : Top p loose mean mg mb g')
   (b_range : nsIn K mainGlobals (Str.ofString "range") = some none) (b_len : nsIn K mainGlobals (Str.ofString "len") = some none) (b_reversed : nsIn K mainGlobals (Str.ofString "reversed") = some none) (b_sum : nsIn K mainGlobals (Str.ofString "sum") = some none) (b_isinstance : nsIn K mainGlobals (Str.ofString "isinstance") = some none) (b_tuple : nsIn K mainGlobals (Str.ofString "tuple") = some none) (b_zip : nsIn K mainGlobals (Str.ofString "zip") = some none) {C fi fc : Addr} (hC : ClsAt K C fi fc) {fe fy fs fr fq fd fu fa : Addr} (hfe : FunAt K 17 fe .none .none) (hfy : FunAt K 7 fy .none .none) (hfs : FunAt K 12 fs .none .none) (hfr : FunAt K 6 fr .none .none) (hfq : FunAt K 5 fq .none .none) (hfd : FunAt K 8 fd .none .none) (hfu : FunAt K 9 fu .none .none) (hfa : FunAt K 13 fa .none .none) (b_list : nsIn K mainGlobals (Str.ofString "list") = some none) {fl fw fab far : Addr} (hfl : FunAt K 15 fl .none .none) (hfw : FunAt K 16 fw .none .none) (hab : FunAt K 18 fab .none .none) (har : FunAt K 19 far .none .none) {wl fwl ul : Addr} {wvs fvs : List Value} {ws fs : List Int} {wk fk nu dn : Nat} {u0 u1 u2 : Int} {q0 q1 q2 td : Tok} {A B : List Ent} {o1 : Obj} {m0 : Str → Option Value} {G : Led} (hw : (wl, listOf wvs.toArray wk) ∈ G) (hwi : IntsAre wvs ws) (hv : (fwl, listOf fvs.toArray fk) ∈ G) (hvi : IntsAre fvs fs) (hul : (ul, tupOf [.int u0 q0, .int u1 q1, .int u2 q2] nu) ∈ G) (hc : (cel1 L', o1) ∈ G) (ho : o1.data = .cell (some (.ref ul))) (hu6 : (u0, u1, u2) ∈ sixU) (hdn : dn = 2 ∨ dn = 3) (okA : AbOK u0 u1 u2 dn ws A) (okB : AbOK u0 u1 u2 dn fs B) (m1 : m0 (Str.ofString "weights") = some (.ref wl)) (m2 : m0 (Str.ofString "firsts") = some (.ref fwl)) (m3 : m0 (Str.ofString "degree") = some (.int (dn : Int) td))
   (hdp : dp + 16 < recursionLimit) (hun : un + 400 < cLine)
   (F : Fr g' L' s.heap (m0)) (N : News g' L' s.heap (G))
   (ret : ∀ {al bl : Addr} {tas tbs : List Addr} {an bn : Nat} {h' : Heap} {tk : Nat} {m' : Str → Option Value} {st : Shared} {nn : Led}, Fr g' L' h' m' → News g' L' h' nn → m' (Str.ofString "above") = some (.ref al) → m' (Str.ofString "least") = some (.ref bl) → (al, listOf (refs tas) an) ∈ nn → EntsAre prog w nn tas A.reverse → (bl, listOf (refs tbs) bn) ∈ nn → EntsAre prog w nn tbs B.reverse → (∀ p ∈ G, p ∈ nn) → (∀ z, z ≠ Str.ofString "above" → z ≠ Str.ofString "least" → m' z = m0 z) → st = { s with heap := h', toks := tk } → Q .next st) :
   wpAny (model prog w) (({ handled := none, depth := dp, frames := some outer, guards := gd, units := un } : Around).deeper (envOfC (sN (top 21)) (sS (top 21)) L' f cdv)) (execs (((sB (top 21)).drop 9).take 3) (envOfC (sN (top 21)) (sS (top 21)) L' f cdv)) Q E s := by
  w_on
  dsimp only [cel1] at hc
  obtain ⟨i64, i8, i1, p64, p8, p1, hperm, c0, c1, c2⟩ := six_pos hu6
  have hkeep18 := FunAt.keep hab
  have hname18 := FunAt.name hab
  dsimp only [top, sN, nth, PySem.Challenge.pw_pg0194_01] at hname18
  have hkeep19 := FunAt.keep har
  have hname19 := FunAt.name har
  dsimp only [top, sN, nth, PySem.Challenge.pw_pg0194_01] at hname19
  dsimp only [top, sN, sA, sB, sS, nth, PySem.Challenge.pw_pg0194_01, List.drop, List.take]
  try k_fold
  replace F := fr_name (x := Str.ofString "weights") (v := .ref wl) F (by exact m1)
  replace F := fr_name (x := Str.ofString "firsts") (v := .ref fwl) F (by rw [if_neg (by decide)]; exact m2)
  replace F := fr_name (x := Str.ofString "degree") (v := .int (dn : Int) td) F (by rw [if_neg (by decide), if_neg (by decide)]; exact m3)
  k_steps
  refine' Spec.use (ab_spec hab b_range b_len b_reversed b_sum b_isinstance b_tuple b_zip hC hfe hfy hfs hfr hfq hfd hfu hfa (wl := wl) (ul := ul) (wvs := wvs) (fuel := 100) ?z47_8 ?z47_9 ?z47_10 ?z47_11 ?z47_12 ?z47_13 ?z47_14 ?z47_15 ?z47_16 ?z47_17 ?z47_18 ?z47_19 ?z47_20 ?z47_21) ?z47_0 ?z47_1 ?z47_2 ?z47_3 ?z47_4 ?z47_5 ?z47_6 ?z47_7 ?_
  (case z47_0 => k_asm)
  (case z47_1 => k_asm)
  (case z47_2 => k_asm)
  (case z47_3 => k_asm)
  (case z47_4 => k_asm)
  (case z47_5 => first | exact rfl | assumption)
  (case z47_6 => ktr_room)
  (case z47_7 => ktr_units)
  (case z47_8 => k_mem)
  (case z47_9 => assumption)
  (case z47_10 => k_mem)
  (case z47_11 => exact p64)
  (case z47_12 => exact p8)
  (case z47_13 => exact p1)
  (case z47_14 => exact hperm)
  (case z47_15 => exact okA.wb)
  (case z47_16 => exact okA.wn)
  (case z47_17 => exact c0)
  (case z47_18 => exact c1)
  (case z47_19 => exact c2)
  (case z47_20 => decide)
  (case z47_21 => exact okA.run)
  intro r1 G1 h1 tk1 F1 N1 P1
  obtain ⟨hs1, ht1, a1, tas1, n1, e1, hm1, hes1⟩ := P1
  subst e1
  clear ht1
  try dsimp only
  have hv1 := hs1 _ hv
  have hul1 := hs1 _ hul
  have hc1 := hs1 _ hc
  have hw1 := hs1 _ hw
  k_steps
  refine' Spec.use (ab_spec hab b_range b_len b_reversed b_sum b_isinstance b_tuple b_zip hC hfe hfy hfs hfr hfq hfd hfu hfa (wl := fwl) (ul := ul) (wvs := fvs) (fuel := 100) ?z48_8 ?z48_9 ?z48_10 ?z48_11 ?z48_12 ?z48_13 ?z48_14 ?z48_15 ?z48_16 ?z48_17 ?z48_18 ?z48_19 ?z48_20 ?z48_21) ?z48_0 ?z48_1 ?z48_2 ?z48_3 ?z48_4 ?z48_5 ?z48_6 ?z48_7 ?_
  (case z48_0 => k_asm)
  (case z48_1 => k_asm)
  (case z48_2 => k_asm)
  (case z48_3 => k_asm)
  (case z48_4 => k_asm)
  (case z48_5 => first | exact rfl | assumption)
  (case z48_6 => ktr_room)
  (case z48_7 => ktr_units)
  (case z48_8 => k_mem)
  (case z48_9 => assumption)
  (case z48_10 => k_mem)
  (case z48_11 => exact p64)
  (case z48_12 => exact p8)
  (case z48_13 => exact p1)
  (case z48_14 => exact hperm)
  (case z48_15 => exact okB.wb)
  (case z48_16 => exact okB.wn)
  (case z48_17 => exact c0)
  (case z48_18 => exact c1)
  (case z48_19 => exact c2)
  (case z48_20 => decide)
  (case z48_21 => exact okB.run)
  intro r2 G2 h2 tk2 F2 N2 P2
  obtain ⟨hs2, ht2, a2, tas2, n2, e2, hm2, hes2⟩ := P2
  subst e2
  clear ht2
  try dsimp only
  have hv2 := hs2 _ hv1
  have hul2 := hs2 _ hul1
  have hc2 := hs2 _ hc1
  have hw2 := hs2 _ hw1
  have hm2' := hs2 _ hm1
  have hes2' := hes1.mono hs2
  have hg2 : ∀ p ∈ G, p ∈ G2 := fun p hp => hs2 p (hs1 p hp)
  clear hs1 hm1 hes1
  k_steps
  refine' Spec.use (are_spec har b_range b_zip b_list hfl hfw (tl := a1) (tas := tas1) (wl := wl) (wvs := wvs) (ul := ul) (dn := dn + 1) ?z49_8 ?z49_9 ?z49_10 ?z49_11 ?z49_12 ?z49_13 ?z49_14 ?z49_15 ?z49_16 ?z49_17 ?z49_18 ?z49_19 ?z49_20) ?z49_0 ?z49_1 ?z49_2 ?z49_3 ?z49_4 ?z49_5 ?z49_6 ?z49_7 ?_
  (case z49_0 => k_asm)
  (case z49_1 => k_asm)
  (case z49_2 => k_asm)
  (case z49_3 => k_asm)
  (case z49_4 => k_asm)
  (case z49_5 => first | exact rfl | assumption)
  (case z49_6 => ktr_room)
  (case z49_7 => ktr_units)
  (case z49_8 => k_mem)
  (case z49_9 => assumption)
  (case z49_10 => k_mem)
  (case z49_11 => assumption)
  (case z49_12 => k_mem)
  (case z49_13 => exact okA.bnd)
  (case z49_14 => exact okA.len)
  (case z49_15 => first | assumption | exact rfl | exact lo1 (by assumption) | exact deg1 (by assumption) | exact deg2 (by assumption) | omega)
  (case z49_16 => first | assumption | exact rfl | exact lo1 (by assumption) | exact deg1 (by assumption) | exact deg2 (by assumption) | omega)
  (case z49_17 => first | assumption | exact rfl | exact lo1 (by assumption) | exact deg1 (by assumption) | exact deg2 (by assumption) | omega)
  (case z49_18 => first | assumption | exact rfl | exact lo1 (by assumption) | exact deg1 (by assumption) | exact deg2 (by assumption) | omega)
  (case z49_19 => first | assumption | exact rfl | exact lo1 (by assumption) | exact deg1 (by assumption) | exact deg2 (by assumption) | omega)
  (case z49_20 => exact okA.eq)
  intro r3 G3 h3 tk3 F3 N3 P3
  obtain ⟨eG3, e3⟩ := P3
  subst e3 eG3
  try dsimp only
  k_steps
  refine' Spec.use (are_spec har b_range b_zip b_list hfl hfw (tl := a2) (tas := tas2) (wl := fwl) (wvs := fvs) (ul := ul) (dn := dn + 1) ?z50_8 ?z50_9 ?z50_10 ?z50_11 ?z50_12 ?z50_13 ?z50_14 ?z50_15 ?z50_16 ?z50_17 ?z50_18 ?z50_19 ?z50_20) ?z50_0 ?z50_1 ?z50_2 ?z50_3 ?z50_4 ?z50_5 ?z50_6 ?z50_7 ?_
  (case z50_0 => k_asm)
  (case z50_1 => k_asm)
  (case z50_2 => k_asm)
  (case z50_3 => k_asm)
  (case z50_4 => k_asm)
  (case z50_5 => first | exact rfl | assumption)
  (case z50_6 => ktr_room)
  (case z50_7 => ktr_units)
  (case z50_8 => k_mem)
  (case z50_9 => assumption)
  (case z50_10 => k_mem)
  (case z50_11 => assumption)
  (case z50_12 => k_mem)
  (case z50_13 => exact okB.bnd)
  (case z50_14 => exact okB.len)
  (case z50_15 => first | assumption | exact rfl | exact lo1 (by assumption) | exact deg1 (by assumption) | exact deg2 (by assumption) | omega)
  (case z50_16 => first | assumption | exact rfl | exact lo1 (by assumption) | exact deg1 (by assumption) | exact deg2 (by assumption) | omega)
  (case z50_17 => first | assumption | exact rfl | exact lo1 (by assumption) | exact deg1 (by assumption) | exact deg2 (by assumption) | omega)
  (case z50_18 => first | assumption | exact rfl | exact lo1 (by assumption) | exact deg1 (by assumption) | exact deg2 (by assumption) | omega)
  (case z50_19 => first | assumption | exact rfl | exact lo1 (by assumption) | exact deg1 (by assumption) | exact deg2 (by assumption) | omega)
  (case z50_20 => exact okB.eq)
  intro r4 G4 h4 tk4 F4 N4 P4
  obtain ⟨eG4, e4⟩ := P4
  subst e4 eG4
  try dsimp only
  k_steps
  refine' ret ?z51_0 ?z51_1 ?z51_2 ?z51_3 ?z51_4 ?z51_5 ?z51_6 ?z51_7 ?z51_8 ?z51_9 ?z51_10
  (case z51_0 => k_asm)
  (case z51_1 => k_asm)
  (case z51_2 => (try dsimp only); repeat (first | exact if_pos rfl | refine (if_neg (by decide)).trans ?_))
  (case z51_3 => (try dsimp only); repeat (first | exact if_pos rfl | refine (if_neg (by decide)).trans ?_))
  (case z51_4 => exact hm2')
  (case z51_5 => exact hes2')
  (case z51_6 => exact hm2)
  (case z51_7 => exact hes2)
  (case z51_8 => exact hg2)
  (case z51_9 =>
    intro z zz0 zz1
    try dsimp only
    simp only [if_neg zz0, if_neg zz1]
    by_cases qm3 : z = Str.ofString "degree"
    · rw [if_pos qm3, qm3]; exact m3.symm
    rw [if_neg qm3]
    by_cases qm2 : z = Str.ofString "firsts"
    · rw [if_pos qm2, qm2]; exact m2.symm
    rw [if_neg qm2]
    by_cases qm1 : z = Str.ofString "weights"
    · rw [if_pos qm1, qm1]; exact m1.symm
    rw [if_neg qm1])
  (case z51_10 => exact rfl)
theorem words28 : True := by
  k_with "own eval Name" => ((k_here; (with_reducible show wpAny _ _ (eval (Expr.Name _ _) (compEnvC _ _ _ _)) _ _ _); k_dflt (first
  | (refine' comp_local ?N_k ?m_k ?n_k ?x_k ?_ ?a_k ?b_k ?c_k; (case a_k => exact rfl); (case b_k => exact rfl); (case c_k => decide); (case N_k => k_asm); (case m_k => k_mem); (case n_k => with_reducible assumption); (case x_k => exact rfl); k_whole)
  | (refine' comp_cell ?N_k ?l_k ?m_k ?d_k ?_ ?a_k ?b_k ?c_k; (case a_k => exact rfl); (case b_k => exact rfl); (case c_k => decide); (case l_k => exact rfl); (case N_k => k_asm); (case m_k => k_mem); (case d_k => with_reducible assumption); k_whole)
  | (refine' comp_free ?N_k ?l_k ?m_k ?d_k ?_ ?a_k ?b_k ?c_k ?e_k; (case a_k => exact rfl); (case b_k => exact rfl); (case c_k => decide); (case e_k => decide); (case l_k => exact rfl); (case N_k => k_asm); (case m_k => k_mem); (case d_k => with_reducible assumption); k_whole))))
  k_with "own eval Name" => ((k_here; (with_reducible show wpAny _ _ (eval (Expr.Name _ _) (compEnvC _ _ _ _)) _ _ _); k_dflt (first
  | (refine' comp_local ?N_k ?m_k ?n_k ?x_k ?_ ?a_k ?b_k ?c_k; (case a_k => exact rfl); (case b_k => exact rfl); (case c_k => decide); (case N_k => k_asm); (case m_k => k_mem); (case n_k => with_reducible assumption); (case x_k => exact rfl); k_whole)
  | (refine' comp_cell ?N_k ?l_k ?m_k ?d_k ?_ ?a_k ?b_k ?c_k; (case a_k => exact rfl); (case b_k => exact rfl); (case c_k => decide); (case l_k => exact rfl); (case N_k => k_asm); (case m_k => k_mem); (case d_k => with_reducible assumption); k_whole)
  | (refine' comp_free ?N_k ?l_k ?m_k ?d_k ?_ ?a_k ?b_k ?c_k ?e_k; (case a_k => exact rfl); (case b_k => exact rfl); (case c_k => decide); (case e_k => decide); (case l_k => exact rfl); (case N_k => k_asm); (case m_k => k_mem); (case d_k => with_reducible assumption); k_whole))))
  k_with "own eval Name" => ((k_here; (with_reducible show wpAny _ _ (eval (Expr.Name _ _) (compEnvC _ _ _ _)) _ _ _); k_dflt (first
  | (refine' comp_glob ?F_k ?X_k ?T_k ?e_k ?_ ?a_k ?b_k ?c_k ?d_k; (case a_k => exact rfl); (case b_k => exact rfl); (case c_k => exact rfl); (case d_k => decide); (case F_k => k_asm); (case X_k => k_asm); (case T_k => k_asm); (case e_k => with_reducible assumption); k_whole)
  | (refine' comp_bi ?F_k ?X_k ?T_k ?e_k ?v_k ?n_k ?_ ?a_k ?b_k ?c_k ?g_k ?d_k; (case a_k => exact rfl); (case b_k => exact rfl); (case c_k => exact rfl); (case g_k => exact rfl); (case d_k => decide); (case F_k => k_asm); (case X_k => k_asm); (case T_k => k_asm); (case e_k => with_reducible assumption); (case v_k => boot_fast); (case n_k => decide); k_whole))))
  trivial

set_option maxHeartbeats 8000000 in
theorem law_f {dp un : Nat} {gd : Option (List Code)} {outer : List Env} {A₀ : Around} {base g' : Heap} {L' f : Addr} {cdv : Value} {s : Shared} {Q : Flow → Shared → Prop} {E : Value → Shared → Prop}
   (B' : Below A₀ base outer g') (X' : K.In g') (T' : Top p loose mean mg mb g')
   (b_len : nsIn K mainGlobals (Str.ofString "len") = some none) (b_range : nsIn K mainGlobals (Str.ofString "range") = some none) (b_list : nsIn K mainGlobals (Str.ofString "list") = some none) {f3 fw : Addr} (hf3 : FunBAt K 3 f3) (hfw : FunAt K 16 fw .none .none) {hl bl ul : Addr} {hvs : List Value} {hs : List Int} {tbs : List Addr} {es : List Ent} {hk bn nu : Nat} {u0 u1 u2 : Int} {q0 q1 q2 : Tok} {o1 o3 : Obj} {m0 : Str → Option Value} {G : Led} (of3 : ∀ p ∈ G, p.1 ≠ cel3 L') (hh : (hl, listOf hvs.toArray hk) ∈ G) (hhi : IntsAre hvs hs) (hhn : hs.length ≤ 100) (hb : (bl, listOf (tbs.map Value.ref).toArray bn) ∈ G) (hes : EntsAre prog w G tbs es) (hul : (ul, tupOf [.int u0 q0, .int u1 q1, .int u2 q2] nu) ∈ G) (hc : (cel1 L', o1) ∈ G) (ho : o1.data = .cell (some (.ref ul))) (h3 : o3.data = .cell none) (hu6 : (u0, u1, u2) ∈ sixU) (hbnd : ∀ e ∈ es, (0 ≤ e.1 ∧ e.1 ≤ 10) ∧ (0 ≤ e.2.1 ∧ e.2.1 ≤ 10) ∧ (0 ≤ e.2.2.1 ∧ e.2.2.1 ≤ 10) ∧ e.2.2.2.2.length ≤ 3) (hel : es.length ≤ hs.length) (hbis : ∀ (j : Nat) (e : Ent), es[j]? = some e → ∀ k : Nat, k < hs.length → ((hs.map fun x => -x).getD k 0 < -(wtP u0 u1 u2 e) ↔ k < j)) (m1 : m0 (Str.ofString "higher") = some (.ref hl)) (m2 : m0 (Str.ofString "least") = some (.ref bl))
   (hdp : dp + 14 < recursionLimit) (hun : un + 330 < cLine)
   (F : Fr g' L' s.heap (m0)) (N : News g' L' s.heap ((cel3 L', o3) :: G))
   (ret : ∀ {h' : Heap} {tk : Nat} {m' : Str → Option Value} {st : Shared} {nn : Led}, Fr g' L' h' m' → News g' L' h' nn → (∀ p ∈ G, p ∈ nn) → (∀ z, m' z = m0 z) → st = { s with heap := h', toks := tk } → Q .next st) :
   wpAny (model prog w) (({ handled := none, depth := dp, frames := some outer, guards := gd, units := un } : Around).deeper (envOfC (sN (top 21)) (sS (top 21)) L' f cdv)) (execs (((sB (top 21)).drop 12).take 2) (envOfC (sN (top 21)) (sS (top 21)) L' f cdv)) Q E s := by
  w_on
  dsimp only [cel1, cel2, cel3] at hc of3 N
  obtain ⟨i64, i8, i1, p64, p8, p1, hperm, c0, c1, c2⟩ := six_pos hu6
  have hkeep16 := FunAt.keep hfw
  have hname16 := FunAt.name hfw
  dsimp only [top, sN, nth, PySem.Challenge.pw_pg0194_01] at hname16
  have hkeep3 := FunBAt.keep hf3
  have hname3 := FunBAt.name hf3
  dsimp only [top, sN, nth, PySem.Challenge.pw_pg0194_01] at hname3
  dsimp only [top, sN, sA, sB, sS, nth, PySem.Challenge.pw_pg0194_01, List.drop, List.take]
  try k_fold
  replace F := fr_name (x := Str.ofString "higher") (v := .ref hl) F (by exact m1)
  replace F := fr_name (x := Str.ofString "least") (v := .ref bl) F (by rw [if_neg (by decide)]; exact m2)
  k_steps
  refine' comp_map (fun _ i y => ∃ k t, (hs.map fun x => -x)[i]? = some k ∧ y = .int k t) (fun _ _ _ _ _ h => h) src_lst ?z53_0 ?z53_1 ?z53_2 ?z53_3 ?z53_4 ?z53_5 ?z53_6 ?z53_7 ?z53_8 ?z53_9 ?z53_10 ?z53_11 ?z53_12 ?z53_13 ?z53_14 ?z53_15 ?_
  (case z53_5 => exact pull3 (by k_asm) (by k_upd) (by k_upd) (by k_upd))
  (case z53_6 => with_reducible assumption)
  (case z53_0 => exact rfl)
  (case z53_1 => exact rfl)
  (case z53_2 => exact rfl)
  (case z53_3 => rw [IntsAre.length hhi]; omega)
  (case z53_4 => k_asm)
  (case z53_7 => assumption)
  (case z53_8 => k_ne)
  (case z53_9 => k_ne)
  (case z53_10 => k_ne)
  (case z53_11 => k_all)
  (case z53_12 => k_all)
  (case z53_13 => k_all)
  (case z53_14 => exact fun g9 hs => hs _ (by k_mem))
  (case z53_15 =>
    intro j v vs' nw k' h' tk' oC' o9 E9 hj hv' n1 n2 n3 F9 N9 hC9
    obtain ⟨wt, t, hwt, rfl⟩ := ints_get hhi hv'
    try dsimp only
    try k_fold
    k_steps
    refine' cend_none (front := [_, _, _]) ?z52_0 ?z52_1 ?z52_2
    (case z52_0 => k_asm)
    (case z52_1 => k_asm)
    (case z52_2 => exact ⟨_, _, by rw [List.getElem?_map, hwt]; rfl, rfl⟩))
  intro vs9 new9 k9 oC9 mC9 h9 tk9 hl9 hR9 F9 N9 hC9 oC9' oD9' ab9
  have hd9 : IntsAre vs9 (hs.map fun x => -x) := ints_of (by rw [hl9, hhi.length, List.length_map]) hR9
  obtain ⟨N8, oC8, oD8⟩ := comp_drop N9 oC9' oD9'
  clear hR9 N9 oC9' oD9' ab9
  k_steps
  refine' comp_map (fun _ i y => ∃ k t, ((List.range es.length).map fun (i : Nat) => (i : Int))[i]? = some k ∧ y = .int k t) (fun _ _ _ _ _ h => h) (src_lst (l := bl) (vs := tbs.map Value.ref) (k := bn)) ?z57_0 ?z57_1 ?z57_2 ?z57_3 ?z57_4 ?z57_5 ?z57_6 ?z57_7 ?z57_8 ?z57_9 ?z57_10 ?z57_11 ?z57_12 ?z57_13 ?z57_14 ?z57_15 ?_
  (case z57_5 => exact pull3 (by k_asm) (by k_upd) (by k_upd) (by k_upd))
  (case z57_6 => with_reducible assumption)
  (case z57_0 => exact rfl)
  (case z57_1 => exact rfl)
  (case z57_2 => exact rfl)
  (case z57_3 => rw [List.length_map, hes.length]; omega)
  (case z57_4 => k_asm)
  (case z57_7 => assumption)
  (case z57_8 => k_ne)
  (case z57_9 => k_ne)
  (case z57_10 => k_ne)
  (case z57_11 => k_all)
  (case z57_12 => k_all)
  (case z57_13 => k_all)
  (case z57_14 => exact fun g9 hs => hs _ (by k_mem))
  (case z57_15 =>
    intro j v vs' nw k' h' tk' oC' o9 E9 hj hv' n1 n2 n3 F9 N9 hC9
    rw [List.length_map] at hj
    obtain ⟨x9, e9, hx9, he9, hE9⟩ := hes.get (i := j) (by rw [← hes.length]; exact hj)
    rw [List.getElem?_map, hx9] at hv'
    obtain rfl : Value.ref x9 = v := by simpa using hv'
    have hb9 := hbnd e9 (mem_of_get he9)
    have hj9 : j < es.length := by rw [← hes.length]; exact hj
    have hg9 := sub4 N9
    have w1 := hg9 (_, o1) (by k_mem)
    have w2 := hg9 (ul, _) (by k_mem)
    have w4 := hg9 (_, listOf vs9.toArray k9) (by k_mem)
    have w5 := hg9 (L' + 1 + 1 + 1, _) (by k_mem)
    try dsimp only
    try k_fold
    k_steps
    refine' Spec.use (wt_gen hfw (x := x9) (u := ul) (e := e9) ?z54_8 ?z54_9 ?z54_10 ?z54_11 ?z54_12 ?z54_13 ?z54_14 ?z54_15) ?z54_0 ?z54_1 ?z54_2 ?z54_3 ?z54_4 ?z54_5 ?z54_6 ?z54_7 ?_
    (case z54_0 => k_asm)
    (case z54_1 => k_asm)
    (case z54_2 => k_asm)
    (case z54_3 => k_asm)
    (case z54_4 => k_asm)
    (case z54_5 => first | exact rfl | assumption)
    (case z54_6 => ktr_room)
    (case z54_7 => ktr_units)
    (case z54_8 => exact EntIs.mono hE9 (by intro p hp; exact List.mem_cons_of_mem _ (List.mem_cons_of_mem _ (List.mem_cons_of_mem _ (hg9 p (List.mem_cons_of_mem _ (List.mem_cons_of_mem _ hp)))))))
    (case z54_9 => k_mem)
    (case z54_10 => exact hb9.1)
    (case z54_11 => exact hb9.2.1)
    (case z54_12 => exact hb9.2.2.1)
    (case z54_13 => omega)
    (case z54_14 => omega)
    (case z54_15 => omega)
    intro r1 G1 h1 tk1 F1 N1 P1
    obtain ⟨eG1, t1, e1⟩ := P1
    subst e1 eG1
    try dsimp only
    k_steps
    refine' Spec.use (bl2 hf3 b_len (c := (j : Int)) ?z55_8 ?z55_9 ?z55_10 ?z55_11 ?z55_12) ?z55_0 ?z55_1 ?z55_2 ?z55_3 ?z55_4 ?z55_5 ?z55_6 ?z55_7 ?_
    (case z55_0 => k_asm)
    (case z55_1 => k_asm)
    (case z55_2 => k_asm)
    (case z55_3 => k_asm)
    (case z55_4 => k_asm)
    (case z55_5 => first | exact rfl | assumption)
    (case z55_6 => ktr_room)
    (case z55_7 => ktr_units)
    (case z55_8 => k_mem)
    (case z55_9 => exact hd9)
    (case z55_10 => rw [List.length_map]; omega)
    (case z55_11 => rw [List.length_map]; omega)
    (case z55_12 => intro k k0 k1; rw [List.length_map] at k1; exact (hbis j e9 he9 k.toNat (by omega)).trans (by omega))
    intro r2 G2 h2 tk2 F2 N2 P2
    obtain ⟨eG2, t2, e2⟩ := P2
    subst e2 eG2
    try dsimp only
    k_steps
    refine' cend_none (front := [_, _, _]) ?z56_0 ?z56_1 ?z56_2
    (case z56_0 => k_asm)
    (case z56_1 => k_asm)
    (case z56_2 => exact ⟨_, _, by rw [List.getElem?_map, List.getElem?_range hj9]; rfl, rfl⟩))
  intro vsx newx kx oCx mCx hx tkx hlx hRx Fx Nx hCx oCx' oDx' abx
  have hdx : IntsAre vsx ((List.range es.length).map fun (i : Nat) => (i : Int)) := ints_of (by rw [hlx, List.length_map, hes.length, List.length_map, List.length_range]) hRx
  obtain ⟨Ny, oCy, oDy⟩ := comp_drop Nx oCx' oDx'
  clear hRx Nx oCx' oDx' abx
  have hbl : (tbs.map Value.ref).length = es.length := by rw [List.length_map, hes.length]
  k_steps
  · refine' ret ?z58_0 ?z58_1 ?z58_2 ?z58_3 ?z58_4
    (case z58_0 => k_asm)
    (case z58_1 => k_asm)
    (case z58_2 => intro p hp; repeat (first | exact hp | refine List.mem_cons_of_mem _ ?_))
    (case z58_3 =>
      intro z 
      try dsimp only
      skip
      by_cases qm2 : z = Str.ofString "least"
      · rw [if_pos qm2, qm2]; exact m2.symm
      rw [if_neg qm2]
      by_cases qm1 : z = Str.ofString "higher"
      · rw [if_pos qm1, qm1]; exact m1.symm
      rw [if_neg qm1])
    (case z58_4 => exact rfl)
  · exact absurd (rks _) (by assumption)
set_option maxHeartbeats 8000000 in
theorem law_g {dp un : Nat} {gd : Option (List Code)} {outer : List Env} {A₀ : Around} {base g' : Heap} {L' f : Addr} {cdv : Value} {s : Shared} {Q : Flow → Shared → Prop} {E : Value → Shared → Prop}
   (B' : Below A₀ base outer g') (X' : K.In g') (T' : Top p loose mean mg mb g')
   (b_len : nsIn K mainGlobals (Str.ofString "len") = some none) (b_range : nsIn K mainGlobals (Str.ofString "range") = some none) {f2 fc : Addr} (hf2 : FunBAt K 2 f2) (hfc : FunAt K 20 fc .none .none) {hl bl al pl ql : Addr} {hvs avs bvs pvs qvs : List Value} {hn an bn pn qn : Nat} {hk ak bk pk qk dn : Nat} {td : Tok} {o2 : Obj} {m0 : Str → Option Value} {G : Led} (hh : (hl, listOf hvs.toArray hk) ∈ G) (lh : hvs.length = hn) (ha : (al, listOf avs.toArray ak) ∈ G) (la : avs.length = an) (hb : (bl, listOf bvs.toArray bk) ∈ G) (lb : bvs.length = bn) (hp : (pl, listOf pvs.toArray pk) ∈ G) (lp : pvs.length = pn) (hq : (ql, listOf qvs.toArray qk) ∈ G) (lq : qvs.length = qn) (hc : (cel2 L', o2) ∈ G) (ho : o2.data = .cell (some (.ref pl))) (bds : hn ≤ 900 ∧ an ≤ 900 ∧ bn ≤ 900 ∧ pn ≤ 900 ∧ qn ≤ 900) (hdn : dn ≤ 4) (hcas : cascRun dn ((pn : Int) - qn) 0 = some ((hn : Int) - bn)) (hge : bn ≤ an) (m1 : m0 (Str.ofString "higher") = some (.ref hl)) (m2 : m0 (Str.ofString "least") = some (.ref bl)) (m3 : m0 (Str.ofString "places") = some (.ref ql)) (m4 : m0 (Str.ofString "above") = some (.ref al)) (m5 : m0 (Str.ofString "degree") = some (.int (dn : Int) td))
   (hdp : dp + 14 < recursionLimit) (hun : un + 330 < cLine)
   (F : Fr g' L' s.heap (m0)) (N : News g' L' s.heap (G))
   (ret : ∀ {h' : Heap} {tk : Nat} {m' : Str → Option Value} {st : Shared}, Fr g' L' h' m' → News g' L' h' G → (∀ z, m' z = m0 z) → st = { s with heap := h', toks := tk } → Q .next st) :
   wpAny (model prog w) (({ handled := none, depth := dp, frames := some outer, guards := gd, units := un } : Around).deeper (envOfC (sN (top 21)) (sS (top 21)) L' f cdv)) (execs (((sB (top 21)).drop 14).take 1) (envOfC (sN (top 21)) (sS (top 21)) L' f cdv)) Q E s := by
  w_on
  dsimp only [cel2] at hc
  have hkeep20 := FunAt.keep hfc
  have hname20 := FunAt.name hfc
  dsimp only [top, sN, nth, PySem.Challenge.pw_pg0194_01] at hname20
  dsimp only [top, sN, sA, sB, sS, nth, PySem.Challenge.pw_pg0194_01, List.drop, List.take]
  try k_fold
  replace F := fr_name (x := Str.ofString "higher") (v := .ref hl) F (by exact m1)
  replace F := fr_name (x := Str.ofString "least") (v := .ref bl) F (by rw [if_neg (by decide)]; exact m2)
  replace F := fr_name (x := Str.ofString "places") (v := .ref ql) F (by rw [if_neg (by decide), if_neg (by decide)]; exact m3)
  replace F := fr_name (x := Str.ofString "above") (v := .ref al) F (by rw [if_neg (by decide), if_neg (by decide), if_neg (by decide)]; exact m4)
  replace F := fr_name (x := Str.ofString "degree") (v := .int (dn : Int) td) F (by rw [if_neg (by decide), if_neg (by decide), if_neg (by decide), if_neg (by decide)]; exact m5)
  k_steps
  refine' Spec.use (ca_spec hfc b_range b_len hf2 (dn := dn) ?z59_8 ?z59_9 ?z59_10) ?z59_0 ?z59_1 ?z59_2 ?z59_3 ?z59_4 ?z59_5 ?z59_6 ?z59_7 ?_
  (case z59_0 => k_asm)
  (case z59_1 => k_asm)
  (case z59_2 => k_asm)
  (case z59_3 => k_asm)
  (case z59_4 => k_asm)
  (case z59_5 => first | exact rfl | assumption)
  (case z59_6 => ktr_room)
  (case z59_7 => ktr_units)
  (case z59_8 => first | exact rfl | omega)
  (case z59_9 => omega)
  (case z59_10 => exact hcas)
  intro r1 G1 h1 tk1 F1 N1 P1
  obtain ⟨eG1, t1, e1⟩ := P1
  subst e1 eG1
  try dsimp only
  k_steps
  · exfalso; omega
  · refine' ret ?z60_0 ?z60_1 ?z60_2 ?z60_3
    (case z60_0 => k_asm)
    (case z60_1 => k_asm)
    (case z60_2 =>
      intro z 
      try dsimp only
      skip
      by_cases qm5 : z = Str.ofString "degree"
      · rw [if_pos qm5, qm5]; exact m5.symm
      rw [if_neg qm5]
      by_cases qm4 : z = Str.ofString "above"
      · rw [if_pos qm4, qm4]; exact m4.symm
      rw [if_neg qm4]
      by_cases qm3 : z = Str.ofString "places"
      · rw [if_pos qm3, qm3]; exact m3.symm
      rw [if_neg qm3]
      by_cases qm2 : z = Str.ofString "least"
      · rw [if_pos qm2, qm2]; exact m2.symm
      rw [if_neg qm2]
      by_cases qm1 : z = Str.ofString "higher"
      · rw [if_pos qm1, qm1]; exact m1.symm
      rw [if_neg qm1])
    (case z60_3 => exact rfl)
set_option maxHeartbeats 8000000 in
theorem law_h {dp un : Nat} {gd : Option (List Code)} {outer : List Env} {A₀ : Around} {base g' : Heap} {L' f : Addr} {cdv : Value} {s : Shared} {Q : Flow → Shared → Prop} {E : Value → Shared → Prop}
   (B' : Below A₀ base outer g') (X' : K.In g') (T' : Top p loose mean mg mb g')
   (b_range : nsIn K mainGlobals (Str.ofString "range") = some none) (b_len : nsIn K mainGlobals (Str.ofString "len") = some none) (b_reversed : nsIn K mainGlobals (Str.ofString "reversed") = some none) (b_sum : nsIn K mainGlobals (Str.ofString "sum") = some none) (b_isinstance : nsIn K mainGlobals (Str.ofString "isinstance") = some none) (b_tuple : nsIn K mainGlobals (Str.ofString "tuple") = some none) (b_zip : nsIn K mainGlobals (Str.ofString "zip") = some none) {C fi fc : Addr} (hC : ClsAt K C fi fc) {fe fy fs fr fq fd fu fa : Addr} (hfe : FunAt K 17 fe .none .none) (hfy : FunAt K 7 fy .none .none) (hfs : FunAt K 12 fs .none .none) (hfr : FunAt K 6 fr .none .none) (hfq : FunAt K 5 fq .none .none) (hfd : FunAt K 8 fd .none .none) (hfu : FunAt K 9 fu .none .none) (hfa : FunAt K 13 fa .none .none) (b_list : nsIn K mainGlobals (Str.ofString "list") = some none) {fl fw fab far : Addr} (hfl : FunAt K 15 fl .none .none) (hfw : FunAt K 16 fw .none .none) (hab : FunAt K 18 fab .none .none) (har : FunAt K 19 far .none .none) {al ul : Addr} {tas : List Addr} {as : List Ent} {an nu dn : Nat} {u0 u1 u2 : Int} {q0 q1 q2 td : Tok} {T : List Ent} {o1 : Obj} {m0 : Str → Option Value} {G : Led} (ha : (al, listOf (tas.map Value.ref).toArray an) ∈ G) (has : EntsAre prog w G tas as) (hul : (ul, tupOf [.int u0 q0, .int u1 q1, .int u2 q2] nu) ∈ G) (hc : (cel1 L', o1) ∈ G) (ho : o1.data = .cell (some (.ref ul))) (hu6 : (u0, u1, u2) ∈ sixU) (hdn : dn = 2 ∨ dn = 3) (hal : as.length ≤ 100) (hbnd : ∀ e ∈ as, (0 ≤ e.1 ∧ e.1 ≤ 10) ∧ (0 ≤ e.2.1 ∧ e.2.1 ≤ 10) ∧ (0 ≤ e.2.2.1 ∧ e.2.2.1 ≤ 10) ∧ e.2.2.2.2.length ≤ 3) (okT : AbOK u0 u1 u2 (dn + 1) (as.map (wtP u0 u1 u2)) T) (m1 : m0 (Str.ofString "above") = some (.ref al)) (m2 : m0 (Str.ofString "degree") = some (.int (dn : Int) td))
   (hdp : dp + 16 < recursionLimit) (hun : un + 400 < cLine)
   (F : Fr g' L' s.heap (m0)) (N : News g' L' s.heap (G))
   (ret : ∀ {cl : Addr} {tcs : List Addr} {cn : Nat} {h' : Heap} {tk : Nat} {m' : Str → Option Value} {st : Shared} {nn : Led}, Fr g' L' h' m' → News g' L' h' nn → m' (Str.ofString "twice") = some (.ref cl) → (cl, listOf (refs tcs) cn) ∈ nn → EntsAre prog w nn tcs T.reverse → (∀ p ∈ G, p ∈ nn) → (∀ z, z ≠ Str.ofString "marks" → z ≠ Str.ofString "twice" → m' z = m0 z) → st = { s with heap := h', toks := tk } → Q .next st) :
   wpAny (model prog w) (({ handled := none, depth := dp, frames := some outer, guards := gd, units := un } : Around).deeper (envOfC (sN (top 21)) (sS (top 21)) L' f cdv)) (execs (((sB (top 21)).drop 15).take 3) (envOfC (sN (top 21)) (sS (top 21)) L' f cdv)) Q E s := by
  w_on
  dsimp only [cel1] at hc
  obtain ⟨i64, i8, i1, p64, p8, p1, hperm, c0, c1, c2⟩ := six_pos hu6
  have hkeep18 := FunAt.keep hab
  have hname18 := FunAt.name hab
  dsimp only [top, sN, nth, PySem.Challenge.pw_pg0194_01] at hname18
  have hkeep19 := FunAt.keep har
  have hname19 := FunAt.name har
  dsimp only [top, sN, nth, PySem.Challenge.pw_pg0194_01] at hname19
  have hkeep16 := FunAt.keep hfw
  have hname16 := FunAt.name hfw
  dsimp only [top, sN, nth, PySem.Challenge.pw_pg0194_01] at hname16
  dsimp only [top, sN, sA, sB, sS, nth, PySem.Challenge.pw_pg0194_01, List.drop, List.take]
  try k_fold
  replace F := fr_name (x := Str.ofString "above") (v := .ref al) F (by exact m1)
  replace F := fr_name (x := Str.ofString "degree") (v := .int (dn : Int) td) F (by rw [if_neg (by decide)]; exact m2)
  k_steps
  refine' comp_map (fun _ i y => ∃ k t, (as.map (wtP u0 u1 u2))[i]? = some k ∧ y = .int k t) (fun _ _ _ _ _ h => h) (src_lst (l := al) (vs := tas.map Value.ref) (k := an)) ?z63_0 ?z63_1 ?z63_2 ?z63_3 ?z63_4 ?z63_5 ?z63_6 ?z63_7 ?z63_8 ?z63_9 ?z63_10 ?z63_11 ?z63_12 ?z63_13 ?z63_14 ?z63_15 ?_
  (case z63_5 => exact pull3 (by k_asm) (by k_upd) (by k_upd) (by k_upd))
  (case z63_6 => with_reducible assumption)
  (case z63_0 => exact rfl)
  (case z63_1 => exact rfl)
  (case z63_2 => exact rfl)
  (case z63_3 => rw [List.length_map, has.length]; omega)
  (case z63_4 => k_asm)
  (case z63_7 => assumption)
  (case z63_8 => k_ne)
  (case z63_9 => k_ne)
  (case z63_10 => k_ne)
  (case z63_11 => k_all)
  (case z63_12 => k_all)
  (case z63_13 => k_all)
  (case z63_14 => exact fun g9 hs => hs _ (by k_mem))
  (case z63_15 =>
    intro j v vs' nw k' h' tk' oC' o9 E9 hj hv' n1 n2 n3 F9 N9 hC9
    rw [List.length_map] at hj
    obtain ⟨x9, e9, hx9, he9, hE9⟩ := has.get (i := j) (by rw [← has.length]; exact hj)
    rw [List.getElem?_map, hx9] at hv'
    obtain rfl : Value.ref x9 = v := by simpa using hv'
    have hb9 := hbnd e9 (mem_of_get he9)
    have hg9 := sub4 N9
    have w1 := hg9 (_, o1) (by k_mem)
    have w2 := hg9 (ul, _) (by k_mem)
    have w3 := hg9 (al, _) (by k_mem)
    try dsimp only
    try k_fold
    k_steps
    refine' Spec.use (wt_gen hfw (x := x9) (u := ul) (e := e9) ?z61_8 ?z61_9 ?z61_10 ?z61_11 ?z61_12 ?z61_13 ?z61_14 ?z61_15) ?z61_0 ?z61_1 ?z61_2 ?z61_3 ?z61_4 ?z61_5 ?z61_6 ?z61_7 ?_
    (case z61_0 => k_asm)
    (case z61_1 => k_asm)
    (case z61_2 => k_asm)
    (case z61_3 => k_asm)
    (case z61_4 => k_asm)
    (case z61_5 => first | exact rfl | assumption)
    (case z61_6 => ktr_room)
    (case z61_7 => ktr_units)
    (case z61_8 => exact EntIs.mono hE9 (by intro p hp; exact List.mem_cons_of_mem _ (List.mem_cons_of_mem _ (List.mem_cons_of_mem _ (hg9 p hp)))))
    (case z61_9 => k_mem)
    (case z61_10 => exact hb9.1)
    (case z61_11 => exact hb9.2.1)
    (case z61_12 => exact hb9.2.2.1)
    (case z61_13 => omega)
    (case z61_14 => omega)
    (case z61_15 => omega)
    intro r1 G1 h1 tk1 F1 N1 P1
    obtain ⟨eG1, t1, e1⟩ := P1
    subst e1 eG1
    try dsimp only
    k_steps
    refine' cend_none (front := [_, _, _]) ?z62_0 ?z62_1 ?z62_2
    (case z62_0 => k_asm)
    (case z62_1 => k_asm)
    (case z62_2 => exact ⟨_, _, by rw [List.getElem?_map, he9]; rfl, rfl⟩))
  intro vs9 new9 k9 oC9 mC9 h9 tk9 hl9 hR9 F9 N9 hC9 oC9' oD9' ab9
  have hd9 : IntsAre vs9 (as.map (wtP u0 u1 u2)) := ints_of (by rw [hl9, List.length_map, has.length, List.length_map]) hR9
  obtain ⟨N8, oC8, oD8⟩ := comp_drop N9 oC9' oD9'
  clear hR9 N9 oC9' oD9' ab9
  k_steps
  refine' Spec.use (ab_spec hab b_range b_len b_reversed b_sum b_isinstance b_tuple b_zip hC hfe hfy hfs hfr hfq hfd hfu hfa (wl := _) (ul := ul) (wvs := vs9) (fuel := 100) ?z64_8 ?z64_9 ?z64_10 ?z64_11 ?z64_12 ?z64_13 ?z64_14 ?z64_15 ?z64_16 ?z64_17 ?z64_18 ?z64_19 ?z64_20 ?z64_21) ?z64_0 ?z64_1 ?z64_2 ?z64_3 ?z64_4 ?z64_5 ?z64_6 ?z64_7 ?_
  (case z64_0 => k_asm)
  (case z64_1 => k_asm)
  (case z64_2 => k_asm)
  (case z64_3 => k_asm)
  (case z64_4 => k_asm)
  (case z64_5 => first | exact rfl | assumption)
  (case z64_6 => ktr_room)
  (case z64_7 => ktr_units)
  (case z64_8 => k_mem)
  (case z64_9 => assumption)
  (case z64_10 => k_mem)
  (case z64_11 => exact p64)
  (case z64_12 => exact p8)
  (case z64_13 => exact p1)
  (case z64_14 => exact hperm)
  (case z64_15 => exact okT.wb)
  (case z64_16 => exact okT.wn)
  (case z64_17 => exact c0)
  (case z64_18 => exact c1)
  (case z64_19 => exact c2)
  (case z64_20 => decide)
  (case z64_21 => exact okT.run)
  intro r1 G1 h1 tk1 F1 N1 P1
  obtain ⟨hs1, ht1, a1, tas1, n1, e1, hm1, hes1⟩ := P1
  subst e1
  clear ht1
  try dsimp only
  have hg1 : ∀ p ∈ G, p ∈ G1 := fun p hp => hs1 p (List.mem_cons_of_mem _ hp)
  have hw1 := hs1 (_, listOf vs9.toArray k9) (by k_mem)
  have hul1 := hg1 _ hul
  have hc1 := hg1 _ hc
  clear hs1
  k_steps
  refine' Spec.use (are_spec har b_range b_zip b_list hfl hfw (tl := a1) (tas := tas1) (wl := _) (wvs := vs9) (ul := ul) (dn := dn + 2) ?z65_8 ?z65_9 ?z65_10 ?z65_11 ?z65_12 ?z65_13 ?z65_14 ?z65_15 ?z65_16 ?z65_17 ?z65_18 ?z65_19 ?z65_20) ?z65_0 ?z65_1 ?z65_2 ?z65_3 ?z65_4 ?z65_5 ?z65_6 ?z65_7 ?_
  (case z65_0 => k_asm)
  (case z65_1 => k_asm)
  (case z65_2 => k_asm)
  (case z65_3 => k_asm)
  (case z65_4 => k_asm)
  (case z65_5 => first | exact rfl | assumption)
  (case z65_6 => ktr_room)
  (case z65_7 => ktr_units)
  (case z65_8 => k_mem)
  (case z65_9 => assumption)
  (case z65_10 => k_mem)
  (case z65_11 => assumption)
  (case z65_12 => k_mem)
  (case z65_13 => exact okT.bnd)
  (case z65_14 => exact okT.len)
  (case z65_15 => first | assumption | exact rfl | exact lo1 (by assumption) | exact deg1 (by assumption) | exact deg2 (by assumption) | omega)
  (case z65_16 => first | assumption | exact rfl | exact lo1 (by assumption) | exact deg1 (by assumption) | exact deg2 (by assumption) | omega)
  (case z65_17 => first | assumption | exact rfl | exact lo1 (by assumption) | exact deg1 (by assumption) | exact deg2 (by assumption) | omega)
  (case z65_18 => first | assumption | exact rfl | exact lo1 (by assumption) | exact deg1 (by assumption) | exact deg2 (by assumption) | omega)
  (case z65_19 => first | assumption | exact rfl | exact lo1 (by assumption) | exact deg1 (by assumption) | exact deg2 (by assumption) | omega)
  (case z65_20 => exact okT.eq)
  intro r2 G2 h2 tk2 F2 N2 P2
  obtain ⟨eG2, e2⟩ := P2
  subst e2 eG2
  try dsimp only
  k_steps
  refine' ret ?z66_0 ?z66_1 ?z66_2 ?z66_3 ?z66_4 ?z66_5 ?z66_6 ?z66_7
  (case z66_0 => k_asm)
  (case z66_1 => k_asm)
  (case z66_2 => (try dsimp only); repeat (first | exact if_pos rfl | refine (if_neg (by decide)).trans ?_))
  (case z66_3 => exact hm1)
  (case z66_4 => exact hes1)
  (case z66_5 => exact hg1)
  (case z66_6 =>
    intro z zz0 zz1
    try dsimp only
    simp only [if_neg zz0, if_neg zz1]
    by_cases qm2 : z = Str.ofString "degree"
    · rw [if_pos qm2, qm2]; exact m2.symm
    rw [if_neg qm2]
    by_cases qm1 : z = Str.ofString "above"
    · rw [if_pos qm1, qm1]; exact m1.symm
    rw [if_neg qm1])
  (case z66_7 => exact rfl)
set_option maxHeartbeats 8000000 in
theorem law_i {dp un : Nat} {gd : Option (List Code)} {outer : List Env} {A₀ : Around} {base g' : Heap} {L' f : Addr} {cdv : Value} {s : Shared} {Q : Flow → Shared → Prop} {E : Value → Shared → Prop}
   (B' : Below A₀ base outer g') (X' : K.In g') (T' : Top p loose mean mg mb g')
   (b_len : nsIn K mainGlobals (Str.ofString "len") = some none) (b_range : nsIn K mainGlobals (Str.ofString "range") = some none) {f2 fc fl : Addr} (hf2 : FunBAt K 2 f2) (hfc : FunAt K 20 fc .none .none) (hfl : FunAt K 15 fl .none .none) {hl bl al cl : Addr} {hvs avs bvs cvs : List Value} {hn an bn cn' : Nat} {hk ak bk ck dn : Nat} {most : Int} {td : Tok} {m0 : Str → Option Value} {G : Led} (hh : (hl, listOf hvs.toArray hk) ∈ G) (lh : hvs.length = hn) (ha : (al, listOf avs.toArray ak) ∈ G) (la : avs.length = an) (hb : (bl, listOf bvs.toArray bk) ∈ G) (lb : bvs.length = bn) (hc : (cl, listOf cvs.toArray ck) ∈ G) (lc : cvs.length = cn') (bds : hn ≤ 900 ∧ an ≤ 900 ∧ bn ≤ 900 ∧ cn' ≤ 900) (hdn : dn = 2 ∨ dn = 3) (hcas : cascRun (dn + 1) ((hn : Int) - an) 0 = some most) (hle : ((allP (dn + 2)).length : Int) - cn' ≤ most) (heq : an = bn → ((allP (dn + 2)).length : Int) - cn' = most) (m1 : m0 (Str.ofString "higher") = some (.ref hl)) (m2 : m0 (Str.ofString "least") = some (.ref bl)) (m3 : m0 (Str.ofString "twice") = some (.ref cl)) (m4 : m0 (Str.ofString "above") = some (.ref al)) (m5 : m0 (Str.ofString "degree") = some (.int (dn : Int) td))
   (hdp : dp + 14 < recursionLimit) (hun : un + 330 < cLine)
   (F : Fr g' L' s.heap (m0)) (N : News g' L' s.heap (G))
   (ret : ∀ {h' : Heap} {tk : Nat} {m' : Str → Option Value} {st : Shared} {nn : Led}, Fr g' L' h' m' → News g' L' h' nn → (∀ p ∈ G, p ∈ nn) → st = { s with heap := h', toks := tk } → Q (.ret (.bool true)) st) :
   wpAny (model prog w) (({ handled := none, depth := dp, frames := some outer, guards := gd, units := un } : Around).deeper (envOfC (sN (top 21)) (sS (top 21)) L' f cdv)) (execs (((sB (top 21)).drop 18).take 3) (envOfC (sN (top 21)) (sS (top 21)) L' f cdv)) Q E s := by
  w_on
  have hkeep20 := FunAt.keep hfc
  have hname20 := FunAt.name hfc
  dsimp only [top, sN, nth, PySem.Challenge.pw_pg0194_01] at hname20
  have hkeep15 := FunAt.keep hfl
  have hname15 := FunAt.name hfl
  dsimp only [top, sN, nth, PySem.Challenge.pw_pg0194_01] at hname15
  have hall : ((allP (dn + 2)).length : Int) ≤ 100 := by rcases hdn with rfl | rfl <;> decide
  dsimp only [top, sN, sA, sB, sS, nth, PySem.Challenge.pw_pg0194_01, List.drop, List.take]
  try k_fold
  replace F := fr_name (x := Str.ofString "higher") (v := .ref hl) F (by exact m1)
  replace F := fr_name (x := Str.ofString "least") (v := .ref bl) F (by rw [if_neg (by decide)]; exact m2)
  replace F := fr_name (x := Str.ofString "twice") (v := .ref cl) F (by rw [if_neg (by decide), if_neg (by decide)]; exact m3)
  replace F := fr_name (x := Str.ofString "above") (v := .ref al) F (by rw [if_neg (by decide), if_neg (by decide), if_neg (by decide)]; exact m4)
  replace F := fr_name (x := Str.ofString "degree") (v := .int (dn : Int) td) F (by rw [if_neg (by decide), if_neg (by decide), if_neg (by decide), if_neg (by decide)]; exact m5)
  k_steps
  refine' Spec.use (al_gen hfl b_range (dn := dn + 2) ?z67_8 ?z67_9) ?z67_0 ?z67_1 ?z67_2 ?z67_3 ?z67_4 ?z67_5 ?z67_6 ?z67_7 ?_
  (case z67_0 => k_asm)
  (case z67_1 => k_asm)
  (case z67_2 => k_asm)
  (case z67_3 => k_asm)
  (case z67_4 => k_asm)
  (case z67_5 => first | exact rfl | assumption)
  (case z67_6 => ktr_room)
  (case z67_7 => ktr_units)
  (case z67_8 => first | exact rfl | omega)
  (case z67_9 => exact deg2 hdn)
  intro r1 G1 h1 tk1 F1 N1 P1
  obtain ⟨vs1, n1, a1, e1, f1, l1, i1⟩ := P1
  subst e1 f1
  try k_lt l1
  try dsimp only
  have li1 := i1.length
  k_steps
  refine' Spec.use (ca_spec hfc b_range b_len hf2 (dn := dn + 1) ?z68_8 ?z68_9 ?z68_10) ?z68_0 ?z68_1 ?z68_2 ?z68_3 ?z68_4 ?z68_5 ?z68_6 ?z68_7 ?_
  (case z68_0 => k_asm)
  (case z68_1 => k_asm)
  (case z68_2 => k_asm)
  (case z68_3 => k_asm)
  (case z68_4 => k_asm)
  (case z68_5 => first | exact rfl | assumption)
  (case z68_6 => ktr_room)
  (case z68_7 => ktr_units)
  (case z68_8 => first | exact rfl | omega)
  (case z68_9 => omega)
  (case z68_10 => exact hcas)
  intro r2 G2 h2 tk2 F2 N2 P2
  obtain ⟨eG2, t2, e2⟩ := P2
  subst e2 eG2
  try dsimp only
  k_steps
  · have e := heq (by omega)
    simp only [e, beq_self_eq_true]
    exact ret (by k_asm) (by k_asm) (by intro p hp; repeat (first | exact hp | refine List.mem_cons_of_mem _ ?_)) rfl
  · have e := decide_eq_true hle
    simp only [e]
    exact ret (by k_asm) (by k_asm) (by intro p hp; repeat (first | exact hp | refine List.mem_cons_of_mem _ ?_)) rfl
end P7
section P8
section Whole_part
open PySem PySem.W PyProof.Rows PyProof.Rows.LCg
section
section
variable {prog : Program} {w : World}
theorem law_split {A : Around} {E : Value → Shared → Prop} {Q : Flow → Shared → Prop} {env : Env} {l : List Stmt} {s : Shared} (k n : Nat) (h : wpAny (model prog w) A (execs ((l.drop k).take n) env) (SplitPost prog w A (l.drop (k + n)) env Q E) E s) : wpAny (model prog w) A (execs (l.drop k) env) Q E s :=
  execs_split n (by rw [List.drop_drop]; exact h)
theorem mem_cut {h₀ h : Heap} {L c x : Addr} {oc o : Obj} {v : Option Value} {nn : Led} (N : News h₀ L h nn) (hc : (c, oc) ∈ nn) (hd : oc.data = .cell v) (hm : (x, o) ∈ nn) (hn : ∀ v, o.data ≠ .cell v) : (x, o) ∈ nn.filter (fun p => p.1 != c) := by
  refine List.mem_filter.mpr ⟨hm, ?_⟩
  rw [bne_iff_ne]
  intro e
  subst e
  have e2 := (N _ hm).1.symm.trans (N _ hc).1
  cases e2
  exact hn _ hd
theorem EntIs.cut {h₀ h : Heap} {L c : Addr} {oc : Obj} {v : Option Value} {nn : Led} (N : News h₀ L h nn) (hc : (c, oc) ∈ nn) (hd : oc.data = .cell v) {x : Addr} {e : Ent} (he : EntIs prog w nn x e) : EntIs prog w (nn.filter (fun p => p.1 != c)) x e := by
  obtain ⟨d, k0, k1, k2, k3, n, hm, kvs, hk, o, D, ho, h1, h2, h3⟩ := he
  refine ⟨d, k0, k1, k2, k3, n, mem_cut N hc hd hm (fun v e => nomatch e), kvs, hk, o, D, mem_cut N hc hd ho (fun v e => ?_), h1, h2, h3⟩
  obtain ⟨es, ep, _, e2, _⟩ := h1
  rw [e2] at e
  cases e
theorem EntsAre.cut {h₀ h : Heap} {L c : Addr} {oc : Obj} {v : Option Value} {nn : Led} (N : News h₀ L h nn) (hc : (c, oc) ∈ nn) (hd : oc.data = .cell v) : ∀ {xs : List Addr} {es : List Ent}, EntsAre prog w nn xs es → EntsAre prog w (nn.filter (fun p => p.1 != c)) xs es
  | _, _, .nil => .nil
  | _, _, .cons h r => .cons (h.cut N hc hd) (r.cut N hc hd)
end
section
variable {prog : Program} {w : World} {K : Frag} {p : Program} {loose : List Str} {mean : ExcName → Option Value} {mg mb : Str → Option Value}
theorem dn_is (n : Nat) : (2 + (n : Int).fmod 2) = ((2 + n % 2 : Nat) : Int) := by
  rw [Int.fmod_eq_emod_of_nonneg _ (by decide)]; omega
set_option maxHeartbeats 4000000 in
theorem law_whole (b_range : nsIn K mainGlobals (Str.ofString "range") = some none) (b_len : nsIn K mainGlobals (Str.ofString "len") = some none) (b_reversed : nsIn K mainGlobals (Str.ofString "reversed") = some none) (b_sum : nsIn K mainGlobals (Str.ofString "sum") = some none) (b_isinstance : nsIn K mainGlobals (Str.ofString "isinstance") = some none) (b_tuple : nsIn K mainGlobals (Str.ofString "tuple") = some none) (b_zip : nsIn K mainGlobals (Str.ofString "zip") = some none) {C fi fc : Addr} (hC : ClsAt K C fi fc) {fe fy fs fr fq fd fu fa : Addr} (hfe : FunAt K 17 fe .none .none) (hfy : FunAt K 7 fy .none .none) (hfs : FunAt K 12 fs .none .none) (hfr : FunAt K 6 fr .none .none) (hfq : FunAt K 5 fq .none .none) (hfd : FunAt K 8 fd .none .none) (hfu : FunAt K 9 fu .none .none) (hfa : FunAt K 13 fa .none .none) (b_list : nsIn K mainGlobals (Str.ofString "list") = some none) {fl fw fab far : Addr} (hfl : FunAt K 15 fl .none .none) (hfw : FunAt K 16 fw .none .none) (hab : FunAt K 18 fab .none .none) (har : FunAt K 19 far .none .none)
   {f1 f2 f3 fc : Addr} (hf1 : FunBAt K 1 f1) (hf2 : FunBAt K 2 f2) (hf3 : FunBAt K 3 f3) (hfc : FunAt K 20 fc .none .none)
   {dp un : Nat} {gd : Option (List Code)} {outer : List Env} {A₀ : Around} {base g' : Heap} {L' f : Addr} {cdv : Value} {s : Shared} {Q : Flow → Shared → Prop} {E : Value → Shared → Prop}
   (B' : Below A₀ base outer g') (X' : K.In g') (T' : Top p loose mean mg mb g') {sc : Addr} {vs : List Value} {ns : List Int} {o1 o2 o3 : Obj} {m0 : Str → Option Value} (hL : g'.IsList sc vs.toArray) (hI : IntsAre vs ns) (hlen : ns.length ≤ 63) (hm : m0 (Str.ofString "script") = some (.ref sc))
   (h1 : o1.data = .cell none) (h2 : o2.data = .cell none) (h3 : o3.data = .cell none) (hdp : dp + 20 < recursionLimit) (hun : un + 420 < cLine) (F : Fr g' L' s.heap m0) (N : News g' L' s.heap [(cel3 L', o3), (cel2 L', o2), (cel1 L', o1)])
   (pure9 : ∀ (u0 u1 u2 : Int) (dn : Nat) (qs : List Int), (u0, u1, u2) ∈ sixU → dn = 2 ∨ dn = 3 → qs.Pairwise (· < ·) → (∀ q ∈ qs, 0 ≤ q ∧ q < (allP dn).length) → 1 ∈ qs → 3 ∈ qs → qs.length ≤ 8 → PureOK u0 u1 u2 dn qs)
   (ret : ∀ {h' : Heap} {tk : Nat} {m' : Str → Option Value} {nn : Led}, Fr g' L' h' m' → News g' L' h' nn → Q (.ret (.bool true)) { s with heap := h', toks := tk }) :
   wpAny (model prog w) (({ handled := none, depth := dp, frames := some outer, guards := gd, units := un } : Around).deeper (envOfC (sN (top 21)) (sS (top 21)) L' f cdv)) (execs (sB (top 21)) (envOfC (sN (top 21)) (sS (top 21)) L' f cdv)) Q E s := by
  show wpAny _ _ (execs ((sB (top 21)).drop 0) _) _ _ _
  refine law_split 0 3 (law_a B' X' T' b_len b_sum hL hI hlen hm h1 (room0 hdp rfl) (room0 hun rfl) F N ?_)
  intro td dl ul dvs dk nu u0 u1 u2 q0 q1 q2 oU ha tka ma sta na Fa Na c3a c2a c1a dU nmd nmr hdl hul ltd ltu hdi hu6 est
  subst est
  refine split_next ?_
  rw [dn_is] at nmd
  generalize hdn9 : 2 + ns.length % 2 = dn at nmd
  have hdn : dn = 2 ∨ dn = 3 := by omega
  refine law_split 3 3 (law_b (o1 := oU) (o3 := o3) (G := [(dl, listOf dvs.toArray dk), (ul, tupOf [.int u0 q0, .int u1 q1, .int u2 q2] nu)]) B' X' T' b_len b_range hfl ?_ hdn nmd nmr h2 (room0 hdp rfl) (room0 hun rfl) Fa (news_sub Na ?_) ?_)
  · intro q hq
    simp only [List.mem_cons, List.not_mem_nil, or_false] at hq
    rcases hq with rfl | rfl
    · exact ltd
    · exact ltu
  · intro q hq
    simp only [List.mem_cons, List.not_mem_nil, or_false] at hq
    rcases hq with rfl | rfl | rfl | rfl | rfl
    · exact c3a
    · exact c2a
    · exact c1a
    · exact hdl
    · exact hul
  intro pl hl ql pvs hvs pk hk qk oP hb tkb mb' stb nb Fb Nb c3b c2b c1b dP nmd2 nmr2 nmh nmq hpl hpi hhl hhi hql hGb ltp lth lthq ltpq ltq ltG est
  subst est
  refine split_next ?_
  have hds : ((ns.take 6).map (fun (x : Int) => x.fmod 60) ++ [1, 3]).length ≤ 8 := by
    rw [List.length_append, List.length_map, List.length_take]
    show min 6 ns.length + 2 ≤ 8
    omega
  have hpn : 1 ≤ (allP dn).length ∧ (allP dn).length ≤ 100 := by rcases hdn with rfl | rfl <;> decide
  refine law_split 6 1 (law_c (ql := ql) (qk := qk) (G := [(cel3 L', o3), (cel2 L', oP), (cel1 L', oU), (dl, listOf dvs.toArray dk), (ul, tupOf [.int u0 q0, .int u1 q1, .int u2 q2] nu), (pl, listOf pvs.toArray pk), (hl, listOf hvs.toArray hk)]) B' X' T' b_len hf1 hf2 hf3 (List.mem_cons_of_mem _ (List.mem_cons_of_mem _ (List.mem_cons_of_mem _ (List.mem_cons_self)))) hdi (by omega) (List.mem_cons_of_mem _ (List.mem_cons_of_mem _ (List.mem_cons_of_mem _ (List.mem_cons_of_mem _ (List.mem_cons_of_mem _ (List.mem_cons_self)))))) hpi hpn (List.mem_cons_of_mem _ (List.mem_cons_self)) dP ?_ nmr2 nmq (room0 hdp rfl) (room0 hun rfl) Fb (news_sub Nb ?_) ?_)
  · intro q hq
    simp only [List.mem_cons, List.not_mem_nil, or_false] at hq
    have g1 := ltG (dl, listOf dvs.toArray dk) (by simp)
    have g2 := ltG (ul, tupOf [.int u0 q0, .int u1 q1, .int u2 q2] nu) (by simp)
    rcases hq with rfl | rfl | rfl | rfl | rfl | rfl | rfl
    · exact Nat.ne_of_lt ltq
    · exact Nat.ne_of_lt (Nat.lt_trans (Nat.lt_succ_self _) ltq)
    · exact Nat.ne_of_lt (Nat.lt_trans (Nat.lt_succ_of_lt (Nat.lt_succ_self _)) ltq)
    · exact Nat.ne_of_lt g1
    · exact Nat.ne_of_lt g2
    · exact Nat.ne_of_lt ltpq
    · exact Nat.ne_of_lt lthq
  · intro q hq
    simp only [List.mem_cons, List.not_mem_nil, or_false] at hq
    rcases hq with rfl | rfl | rfl | rfl | rfl | rfl | rfl | rfl
    · exact hql
    · exact c3b
    · exact c2b
    · exact c1b
    · exact hGb _ (by simp)
    · exact hGb _ (by simp)
    · exact hpl
    · exact hhl
  intro qvs qs qk' hc tkc mc stc Fc Nc hqi hqP smc est
  subst est
  refine split_next ?_
  have hqn : qs.length ≤ 8 := Nat.le_trans hqP.len hds
  have hN6 : 6 ≤ (allP dn).length := by rcases hdn with rfl | rfl <;> decide
  have hq1 : (1 : Int) ∈ qs := by
    have := hqP.hit 1 (by rw [List.take_length]; simp)
    rwa [Int.fmod_eq_of_lt (by decide) (by omega)] at this
  have hq3 : (3 : Int) ∈ qs := by
    have := hqP.hit 3 (by rw [List.take_length]; simp)
    rwa [Int.fmod_eq_of_lt (by decide) (by omega)] at this
  obtain ⟨A, B, T, most, okA, okB, okT, hBl, hbis, hcas, hge, hcas2, hle, heq⟩ := pure9 u0 u1 u2 dn qs hu6 hdn hqP.sorted hqP.rng hq1 hq3 hqn
  refine law_split 7 2 (law_d B' X' T' b_len (List.mem_cons_of_mem _ (List.mem_cons_of_mem _ (List.mem_cons_of_mem _ (List.mem_cons_of_mem _ (List.mem_cons_of_mem _ (List.mem_cons_of_mem _ (List.mem_cons_self))))))) hpi hpn List.mem_cons_self hqi (by omega) hqP.rng (List.mem_cons_of_mem _ (List.mem_cons_of_mem _ (List.mem_cons_self))) dP (List.mem_cons_of_mem _ (List.mem_cons_self)) ((smc _ (by decide) (by decide)).trans nmq) (room0 hdp rfl) (room0 hun rfl) Fc Nc ?_)
  intro wl fl' wvs fvs wk fk hd tkd md std nd Fd Nd nmw nmf hwl hwi hfl' hfi hGd ltw ltf smd est
  subst est
  refine split_next ?_
  have x3 := hGd (cel3 L', o3) (List.mem_cons_of_mem _ (List.mem_cons_self))
  have x2 := hGd (cel2 L', oP) (List.mem_cons_of_mem _ (List.mem_cons_of_mem _ (List.mem_cons_self)))
  have x1 := hGd (cel1 L', oU) (List.mem_cons_of_mem _ (List.mem_cons_of_mem _ (List.mem_cons_of_mem _ (List.mem_cons_self))))
  have xu := hGd (ul, tupOf [.int u0 q0, .int u1 q1, .int u2 q2] nu) (List.mem_cons_of_mem _ (List.mem_cons_of_mem _ (List.mem_cons_of_mem _ (List.mem_cons_of_mem _ (List.mem_cons_of_mem _ (List.mem_cons_self))))))
  have xp := hGd (pl, listOf pvs.toArray pk) (List.mem_cons_of_mem _ (List.mem_cons_of_mem _ (List.mem_cons_of_mem _ (List.mem_cons_of_mem _ (List.mem_cons_of_mem _ (List.mem_cons_of_mem _ (List.mem_cons_self)))))))
  have xh := hGd (hl, listOf hvs.toArray hk) (List.mem_cons_of_mem _ (List.mem_cons_of_mem _ (List.mem_cons_of_mem _ (List.mem_cons_of_mem _ (List.mem_cons_of_mem _ (List.mem_cons_of_mem _ (List.mem_cons_of_mem _ (List.mem_cons_self))))))))
  have xq := hGd (ql, listOf qvs.toArray qk') (List.mem_cons_self)
  have nmdd : md (Str.ofString "degree") = some (.int (dn : Int) td) := (smd _ (by decide) (by decide)).trans ((smc _ (by decide) (by decide)).trans nmd2)
  have nmhd : md (Str.ofString "higher") = some (.ref hl) := (smd _ (by decide) (by decide)).trans ((smc _ (by decide) (by decide)).trans nmh)
  have nmqd : md (Str.ofString "places") = some (.ref ql) := (smd _ (by decide) (by decide)).trans ((smc _ (by decide) (by decide)).trans nmq)
  refine law_split 9 3 (law_e B' X' T' b_range b_len b_reversed b_sum b_isinstance b_tuple b_zip hC hfe hfy hfs hfr hfq hfd hfu hfa b_list hfl hfw hab har hwl hwi hfl' hfi xu x1 dU hu6 hdn okA okB nmw nmf nmdd (room0 hdp rfl) (room0 hun rfl) Fd Nd ?_)
  intro al bl tas tbs an bn he tke me ste ne Fe Ne nma nmb hal hAe hbl hBe hGe sme est
  subst est
  refine split_next ?_
  have y3 := hGe _ x3
  have sub6 : ∀ {x : Addr} {o : Obj}, (x, o) ∈ ne → (∀ v, o.data ≠ .cell v) → (x, o) ∈ ne.filter (fun p => p.1 != cel3 L') := fun hm hn => mem_cut Ne y3 h3 hm hn
  have subc : ∀ {x : Addr} {o : Obj}, (x, o) ∈ ne → x ≠ cel3 L' → (x, o) ∈ ne.filter (fun p => p.1 != cel3 L') := fun hm hn => List.mem_filter.mpr ⟨hm, bne_iff_ne.mpr hn⟩
  have z1 := subc (hGe _ x1) (Nat.ne_of_lt (Nat.lt_succ_of_lt (Nat.lt_succ_self _)))
  have z2 := subc (hGe _ x2) (Nat.ne_of_lt (Nat.lt_succ_self _))
  have zu := sub6 (hGe _ xu) (fun v e => nomatch e)
  have zp := sub6 (hGe _ xp) (fun v e => nomatch e)
  have zh := sub6 (hGe _ xh) (fun v e => nomatch e)
  have zq := sub6 (hGe _ xq) (fun v e => nomatch e)
  have za := sub6 hal (fun v e => nomatch e)
  have zb := sub6 hbl (fun v e => nomatch e)
  have zA := hAe.cut Ne y3 h3
  have zB := hBe.cut Ne y3 h3
  have nmhe := (sme _ (by decide) (by decide)).trans nmhd
  have nmde := (sme _ (by decide) (by decide)).trans nmdd
  have nmqe := (sme _ (by decide) (by decide)).trans nmqd
  have hhn : (allP (dn + 1)).length ≤ 100 := by rcases hdn with rfl | rfl <;> decide
  have hBr := B.length_reverse
  have hAr := A.length_reverse
  have hTr := T.length_reverse
  refine law_split 12 2 (law_f B' X' T' b_len b_range b_list hf3 hfw (fun p hp => bne_iff_ne.mp (List.mem_filter.mp hp).2) zh hhi hhn zb zB zu z1 dU h3 hu6 okB.bnd (by omega) hbis nmhe nmb (room0 hdp rfl) (room0 hun rfl) Fe (news_sub Ne ?_) ?_)
  · intro q hq
    rcases List.mem_cons.mp hq with rfl | hq
    · exact y3
    · exact (List.mem_filter.mp hq).1
  intro hf tkf mf stf nf Ff Nf hGf smf est
  subst est
  refine split_next ?_
  have lbB := hBe.length
  have lbA := hAe.length
  have okTl := okT.len
  have okAl := okA.len
  have la9 : (tas.map Value.ref).length = A.length := by rw [List.length_map]; omega
  have lb9 : (tbs.map Value.ref).length = B.length := by rw [List.length_map]; omega
  refine law_split 14 1 (law_g (dn := dn) B' X' T' b_len b_range hf2 hfc (hGf _ zh) hhi.length (hGf _ za) la9 (hGf _ zb) lb9 (hGf _ zp) hpi.length (hGf _ zq) hqi.length (hGf _ z2) dP (by omega) (by omega) hcas hge ((smf _).trans nmhe) ((smf _).trans nmb) ((smf _).trans nmqe) ((smf _).trans nma) ((smf _).trans nmde) (room0 hdp rfl) (room0 hun rfl) Ff Nf ?_)
  intro hg tkg mg' stg Fg Ng smg est
  subst est
  refine split_next ?_
  have nm : ∀ z, mg' z = me z := fun z => (smg z).trans (smf z)
  refine law_split 15 3 (law_h B' X' T' b_range b_len b_reversed b_sum b_isinstance b_tuple b_zip hC hfe hfy hfs hfr hfq hfd hfu hfa b_list hfl hfw hab har (hGf _ za) (zA.mono hGf) (hGf _ zu) (hGf _ z1) dU hu6 hdn okA.len okA.bnd okT ((nm _).trans nma) ((nm _).trans nmde) (room0 hdp rfl) (room0 hun rfl) Fg Ng ?_)
  intro cl tcs cn hh tkh mh sth nh Fh Nh nmt hcl hTe hGh smh est
  subst est
  refine split_next ?_
  have lcT := hTe.length
  have lc9 : (tcs.map Value.ref).length = T.length := by rw [List.length_map]; omega
  have nm' : ∀ z, z ≠ Str.ofString "marks" → z ≠ Str.ofString "twice" → mh z = me z := fun z a b => (smh z a b).trans (nm z)
  refine law_split 18 3 (law_i (cn' := T.length) B' X' T' b_len b_range hf2 hfc hfl (hGh _ (hGf _ zh)) hhi.length (hGh _ (hGf _ za)) la9 (hGh _ (hGf _ zb)) lb9 hcl lc9 (by omega) hdn hcas2 hle heq ((nm' _ (by decide) (by decide)).trans nmhe) ((nm' _ (by decide) (by decide)).trans nmb) nmt ((nm' _ (by decide) (by decide)).trans nma) ((nm' _ (by decide) (by decide)).trans nmde) (room0 hdp rfl) (room0 hun rfl) Fh Nh ?_)
  intro hi tki mi sti ni Fi Ni hGi est
  subst est
  exact ret Fi Ni
end
end
end Whole_part
section Pure_part
open PySem PySem.W PyProof.Rows PyProof.Rows.LCg
section
/-- a product of the weight wt, brought by the letters l -/
noncomputable def prodE (u0 u1 u2 : Int) (wt : Int) (l : List Nat) : Ent := ((entP u0 u1 u2 wt).1, (entP u0 u1 u2 wt).2.1, (entP u0 u1 u2 wt).2.2.1, (entP u0 u1 u2 wt).2.2.2.1, l)
noncomputable def runE (pe : Int → List Nat → Ent) : List (Int × Nat) → List Ent → Option (List Ent)
  | [], told => some told
  | (wt, v) :: r, told => match putE (pe wt [v]) v told with
    | some t => runE pe r t
    | none => none
noncomputable def keyOf (us : Nat → Int) (ws : List Int) (b : Nat → Nat) (v : Nat) : Key := (-(ws.getD (b v) 0) - us v, (v : Int), (b v : Int))
noncomputable def upd (b : Nat → Nat) (v : Nat) : Nat → Nat := fun x => if x = v then b v + 1 else b x
inductive Runs (us : Nat → Int) (ws : List Int) : (Nat → Nat) → List (Int × Nat) → Prop
  | done {b : Nat → Nat} (h : ∀ v < 3, ¬ b v < ws.length) : Runs us ws b []
  | step {b : Nat → Nat} {evs : List (Int × Nat)} (v : Nat) (wt : Int) (hv : v < 3) (hb : b v < ws.length) (hw : wt = ws.getD (b v) 0 + us v) (hm : ∀ v' < 3, b v' < ws.length → v' ≠ v → ltT (keyOf us ws b v) (keyOf us ws b v') = true) (r : Runs us ws (upd b v) evs) : Runs us ws b ((wt, v) :: evs)
structure HeapInv (us : Nat → Int) (ws : List Int) (b : Nat → Nat) (keys : List Key) : Prop where
  mem : ∀ k, k ∈ keys ↔ ∃ v < 3, b v < ws.length ∧ k = keyOf us ws b v
  nodup : keys.Nodup
  small : keys.length ≤ 3
  min : ∀ h t, keys = h :: t → ∀ k ∈ t, ltT h k = true
theorem ltT_iff {a b : Key} : ltT a b = true ↔ a.1 < b.1 ∨ (a.1 = b.1 ∧ (a.2.1 < b.2.1 ∨ (a.2.1 = b.2.1 ∧ a.2.2 < b.2.2))) := by
  unfold ltT
  simp only [Bool.or_eq_true, Bool.and_eq_true, decide_eq_true_eq, beq_iff_eq]
theorem ltT_asymm {a b : Key} (h : ltT a b = true) : ltT b a ≠ true := fun k => by
  rw [ltT_iff] at h k
  rcases h with h | ⟨h, h'⟩
  · rcases k with k | ⟨k, _⟩
    · exact Int.lt_irrefl _ (Int.lt_trans h k)
    · exact Int.lt_irrefl _ (k ▸ h)
  rcases k with k | ⟨_, k'⟩
  · exact Int.lt_irrefl _ (h ▸ k)
  rcases h' with h' | ⟨h', h''⟩
  · rcases k' with k' | ⟨k', _⟩
    · exact Int.lt_irrefl _ (Int.lt_trans h' k')
    · exact Int.lt_irrefl _ (k' ▸ h')
  rcases k' with k' | ⟨_, k''⟩
  · exact Int.lt_irrefl _ (h' ▸ k')
  exact Int.lt_irrefl _ (Int.lt_trans h'' k'')
theorem ltT_trans {a b c : Key} (h : ltT a b = true) (k : ltT b c = true) : ltT a c = true := by
  rw [ltT_iff] at h k ⊢
  rcases h with h | ⟨h, h'⟩
  · rcases k with k | ⟨k, _⟩
    · exact .inl (Int.lt_trans h k)
    · exact .inl (k ▸ h)
  rcases k with k | ⟨k, k'⟩
  · exact .inl (h ▸ k)
  refine .inr ⟨h.trans k, ?_⟩
  rcases h' with h' | ⟨h', h''⟩
  · rcases k' with k' | ⟨k', _⟩
    · exact .inl (Int.lt_trans h' k')
    · exact .inl (k' ▸ h')
  rcases k' with k' | ⟨k', k''⟩
  · exact .inl (h' ▸ k')
  exact .inr ⟨h'.trans k', Int.lt_trans h'' k''⟩
theorem ltT_total {a b : Key} (h : a ≠ b) (k : ¬ ltT a b = true) : ltT b a = true := by
  rw [ltT_iff] at k ⊢
  rcases Int.lt_trichotomy a.1 b.1 with e | e | e
  · exact absurd (.inl e) k
  · refine .inr ⟨e.symm, ?_⟩
    rcases Int.lt_trichotomy a.2.1 b.2.1 with f | f | f
    · exact absurd (.inr ⟨e, .inl f⟩) k
    · refine .inr ⟨f.symm, ?_⟩
      rcases Int.lt_trichotomy a.2.2 b.2.2 with g | g | g
      · exact absurd (.inr ⟨e, .inr ⟨f, g⟩⟩) k
      · exact absurd (Prod.ext e (Prod.ext f g)) h
      · exact g
    · exact .inl f
  · exact .inl e
theorem siftK_perm {l : List Key} : (siftK l).Perm l := by
  unfold siftK
  split
  · split
    · exact List.Perm.refl _
    · exact List.Perm.swap _ _ _
  · split
    · split
      · exact List.Perm.refl _
      · exact List.Perm.swap _ _ _
    · split
      · exact List.Perm.refl _
      · rename_i a b c _ _
        exact (List.Perm.swap b c [a]).trans ((List.Perm.cons b (List.Perm.swap a c [])).trans (List.Perm.swap a b [c]))
  · exact List.Perm.refl _
theorem siftK_min {l : List Key} (hn : l.Nodup) (hl : l.length ≤ 3) : ∀ h t, siftK l = h :: t → ∀ k ∈ t, ltT h k = true := by
  intro h t e k hk
  rcases l with _ | ⟨a, _ | ⟨b, _ | ⟨c, _ | ⟨d, l⟩⟩⟩⟩
  · cases e
  · cases e; cases hk
  · have hab : a ≠ b := fun q => by subst q; simp at hn
    unfold siftK at e
    dsimp only at e
    split at e
    · rename_i q
      cases e
      rcases List.mem_singleton.mp hk with rfl
      exact q
    · rename_i q
      cases e
      rcases List.mem_singleton.mp hk with rfl
      exact ltT_total hab q
  · have hab : a ≠ b := fun q => by subst q; simp at hn
    have hac : a ≠ c := fun q => by subst q; simp at hn
    have hbc : b ≠ c := fun q => by subst q; simp at hn
    unfold siftK at e
    dsimp only at e
    split at e
    · rename_i q
      split at e
      · rename_i q2
        cases e
        simp only [List.mem_cons, List.not_mem_nil, or_false] at hk
        rcases hk with rfl | rfl
        · exact q2
        · exact ltT_trans q2 q
      · rename_i q2
        cases e
        simp only [List.mem_cons, List.not_mem_nil, or_false] at hk
        rcases hk with rfl | rfl
        · exact ltT_total hab q2
        · exact q
    · rename_i q
      have q' := ltT_total hbc q
      split at e
      · rename_i q2
        cases e
        simp only [List.mem_cons, List.not_mem_nil, or_false] at hk
        rcases hk with rfl | rfl
        · exact ltT_trans q2 q'
        · exact q2
      · rename_i q2
        cases e
        simp only [List.mem_cons, List.not_mem_nil, or_false] at hk
        rcases hk with rfl | rfl
        · exact q'
        · exact ltT_total hac q2
  · simp at hl
theorem popL_perm {a : Key} {l : List Key} (hl : l.length ≤ 2) : (popL (a :: l)).Perm l := by
  rcases l with _ | ⟨b, _ | ⟨c, _ | ⟨d, l⟩⟩⟩
  · exact List.Perm.refl _
  · exact List.Perm.refl _
  · exact List.Perm.swap _ _ _
  · simp at hl
theorem heap_mk {us : Nat → Int} {ws : List Int} {b : Nat → Nat} {keys : List Key} (hm : ∀ k, k ∈ keys ↔ ∃ v < 3, b v < ws.length ∧ k = keyOf us ws b v) (hn : keys.Nodup) (hl : keys.length ≤ 3) : HeapInv us ws b (siftK keys) :=
  ⟨fun k => by rw [siftK_perm.mem_iff]; exact hm k, siftK_perm.nodup_iff.mpr hn, by rw [siftK_perm.length_eq]; exact hl, siftK_min hn hl⟩
theorem keyOf_ne {us : Nat → Int} {ws : List Int} {b b' : Nat → Nat} {v v' : Nat} (h : v ≠ v') : keyOf us ws b v ≠ keyOf us ws b' v' := fun e => by
  have := congrArg (fun k => k.2.1) e
  unfold keyOf at this
  dsimp only at this
  omega
theorem keyOf_upd {us : Nat → Int} {ws : List Int} {b : Nat → Nat} {v v' : Nat} (h : v' ≠ v) : keyOf us ws (upd b v) v' = keyOf us ws b v' := by
  unfold keyOf upd
  rw [if_neg h]
theorem abGo_runs {us : Nat → Int} {ws : List Int} {en : Int → Ent} {pe : Int → List Nat → Ent} (hE : ∀ w ∈ ws, ∀ v < 3, mulE (en w) v = pe (w + us v) [v]) :
    ∀ {b : Nat → Nat} {evs : List (Int × Nat)}, Runs us ws b evs → ∀ {keys : List Key} {told out : List Ent} {m : Nat}, HeapInv us ws b keys → runE pe evs told = some out → evs.length < m → abGo us ws en m keys told = some out := by
  intro b evs R
  induction R with
  | done h =>
    intro keys told out m H hr hm
    obtain ⟨m', rfl⟩ : ∃ m', m = m' + 1 := ⟨m - 1, by omega⟩
    cases keys with
    | nil => rw [abGo]; exact hr
    | cons k t =>
      obtain ⟨v, hv, hb, _⟩ := (H.mem k).mp List.mem_cons_self
      exact absurd hb (h v hv)
  | @step b evs v wt hv hb hw hmin R ih =>
    intro keys told out m H hr hm
    obtain ⟨m', rfl⟩ : ∃ m', m = m' + 1 := ⟨m - 1, by omega⟩
    rw [List.length_cons] at hm
    cases keys with
    | nil => exact absurd ((H.mem _).mpr ⟨v, hv, hb, rfl⟩) (by simp)
    | cons h t =>
      have hh : h = keyOf us ws b v := by
        obtain ⟨v2, hv2, hb2, e2⟩ := (H.mem h).mp List.mem_cons_self
        by_cases q : v2 = v
        · rw [e2, q]
        · have h1 := hmin v2 hv2 hb2 q
          rw [← e2] at h1
          rcases List.mem_cons.mp ((H.mem _).mpr ⟨v, hv, hb, rfl⟩) with q2 | q2
          · exact q2.symm
          · exact absurd (H.min h t rfl _ q2) (ltT_asymm h1)
      have hnd := List.nodup_cons.mp H.nodup
      have ht : ∀ k, k ∈ t ↔ ∃ v' < 3, v' ≠ v ∧ b v' < ws.length ∧ k = keyOf us ws b v' := by
        intro k
        constructor
        · intro hk
          obtain ⟨v', hv', hb', e'⟩ := (H.mem k).mp (List.mem_cons_of_mem _ hk)
          refine ⟨v', hv', fun q => ?_, hb', e'⟩
          subst q
          rw [e', ← hh] at hk
          exact hnd.1 hk
        · rintro ⟨v', hv', hne, hb', e'⟩
          rcases List.mem_cons.mp ((H.mem k).mpr ⟨v', hv', hb', e'⟩) with q | q
          · rw [hh, e'] at q
            exact absurd q (keyOf_ne hne)
          · exact q
      have htl : t.length ≤ 2 := by have := H.small; rw [List.length_cons] at this; omega
      have hwm : ws.getD (b v) 0 ∈ ws := by rw [List.getD_eq_getElem?_getD, List.getElem?_eq_getElem hb]; exact List.getElem_mem hb
      rw [runE] at hr
      subst hh
      unfold keyOf
      rw [abGo]
      rw [if_pos (by rw [Bool.and_eq_true, decide_eq_true_eq, decide_eq_true_eq]; omega)]
      simp only [Int.toNat_natCast]
      rw [hE _ hwm v hv, ← hw]
      split at hr
      · rename_i told' e1
        try rw [e1]
        try dsimp only
        refine ih ?_ hr (by omega)
        have eN : ((b v : Int) + 1).toNat = b v + 1 := by omega
        split
        · rename_i q
          rw [eN]
          refine heap_mk (fun k => ?_) ?_ (by rw [List.length_cons]; omega)
          · have ek : (-(ws.getD (b v + 1) 0) - us v, (v : Int), (b v : Int) + 1) = keyOf us ws (upd b v) v := by
              unfold keyOf upd
              rw [if_pos rfl]
              rfl
            rw [ek, List.mem_cons, ht]
            constructor
            · rintro (rfl | ⟨v', hv', hne, hb', e'⟩)
              · exact ⟨v, hv, by unfold upd; rw [if_pos rfl]; omega, rfl⟩
              · exact ⟨v', hv', by unfold upd; rw [if_neg hne]; exact hb', by rw [keyOf_upd hne]; exact e'⟩
            · rintro ⟨v', hv', hb', e'⟩
              by_cases hne : v' = v
              · subst hne; exact .inl e'
              · exact .inr ⟨v', hv', hne, by unfold upd at hb'; rw [if_neg hne] at hb'; exact hb', by rw [keyOf_upd hne] at e'; exact e'⟩
          · refine List.nodup_cons.mpr ⟨fun hk => ?_, hnd.2⟩
            obtain ⟨v', hv', hne, hb', e'⟩ := (ht _).mp hk
            have := congrArg (fun k => k.2.1) e'
            unfold keyOf at this
            dsimp only at this
            omega
        · rename_i q
          have hp := popL_perm (a := (-(ws.getD (b v) 0) - us v, (v : Int), (b v : Int))) htl
          refine heap_mk (fun k => ?_) (hp.nodup_iff.mpr hnd.2) (by rw [hp.length_eq]; omega)
          rw [hp.mem_iff, ht]
          constructor
          · rintro ⟨v', hv', hne, hb', e'⟩
            exact ⟨v', hv', by unfold upd; rw [if_neg hne]; exact hb', by rw [keyOf_upd hne]; exact e'⟩
          · rintro ⟨v', hv', hb', e'⟩
            by_cases hne : v' = v
            · subst hne
              unfold upd at hb'
              rw [if_pos rfl] at hb'
              omega
            · exact ⟨v', hv', hne, by unfold upd at hb'; rw [if_neg hne] at hb'; exact hb', by rw [keyOf_upd hne] at e'; exact e'⟩
      · cases hr

/-- what of the weights L (and of no other) is still to come -/
noncomputable def Left (us : Nat → Int) (ws : List Int) (b : Nat → Nat) (L : Nat → List Int) : Prop := ∀ v < 3, b v ≤ ws.length ∧ ∀ i < ws.length, (ws.getD i 0 + us v ∈ L v ↔ b v ≤ i)
noncomputable def phase (v : Nat) (wt : Int) (L : List Int) : Nat → List Int := fun v' => if v' < v then L else wt :: L
theorem desc_get {ws : List Int} (h : ws.Pairwise (· > ·)) {i j : Nat} (hij : i < j) (hj : j < ws.length) : ws.getD j 0 < ws.getD i 0 := by
  have hi : i < ws.length := Nat.lt_trans hij hj
  rw [List.getD_eq_getElem?_getD, List.getElem?_eq_getElem hj, List.getD_eq_getElem?_getD, List.getElem?_eq_getElem hi]
  exact List.pairwise_iff_getElem.mp h i j hi hj hij
theorem mem_getD {ws : List Int} {x : Int} : x ∈ ws ↔ ∃ i < ws.length, ws.getD i 0 = x := by
  constructor
  · intro h
    obtain ⟨i, hi, e⟩ := List.mem_iff_getElem.mp h
    exact ⟨i, hi, by rw [List.getD_eq_getElem?_getD, List.getElem?_eq_getElem hi]; exact e⟩
  · rintro ⟨i, hi, e⟩
    rw [← e, List.getD_eq_getElem?_getD, List.getElem?_eq_getElem hi]
    exact List.getElem_mem hi
theorem phase_step {us : Nat → Int} {ws : List Int} (hd : ws.Pairwise (· > ·)) {wt : Int} {L : List Int} (hL : ∀ x ∈ L, x < wt) {v : Nat} (hv : v < 3) {b : Nat → Nat} (H : Left us ws b (phase v wt L)) {evs : List (Int × Nat)}
    (k : ∀ b', Left us ws b' (phase (v + 1) wt L) → Runs us ws b' evs) : Runs us ws b ((if decide (wt - us v ∈ ws) = true then [(wt, v)] else []) ++ evs) := by
  have hle : ∀ x ∈ wt :: L, x ≤ wt := fun x hx => (List.mem_cons.mp hx).elim (fun e => Int.le_of_eq e) fun h => Int.le_of_lt (hL x h)
  have hnL : wt ∉ L := fun h => Int.lt_irrefl _ (hL _ h)
  obtain ⟨hbl, hbv⟩ := H v hv
  have ev : phase v wt L v = wt :: L := by unfold phase; rw [if_neg (Nat.lt_irrefl _)]
  rw [ev] at hbv
  have eo : ∀ v', v' ≠ v → phase (v + 1) wt L v' = phase v wt L v' := by
    intro v' hne
    unfold phase
    by_cases q : v' < v
    · rw [if_pos q, if_pos (by omega)]
    · rw [if_neg q, if_neg (by omega)]
  have en : phase (v + 1) wt L v = L := by unfold phase; rw [if_pos (Nat.lt_succ_self _)]
  by_cases hm : wt - us v ∈ ws
  · rw [if_pos (decide_eq_true hm)]
    obtain ⟨j, hj, ej⟩ := mem_getD.mp hm
    have hjw : ws.getD j 0 + us v = wt := by omega
    have hbj : b v ≤ j := (hbv j hj).mp (by rw [hjw]; exact List.mem_cons_self)
    have hb : b v < ws.length := by omega
    have hbb := hle _ ((hbv (b v) hb).mpr (Nat.le_refl _))
    have e : j = b v := by
      rcases Nat.lt_or_ge (b v) j with q | q
      · have := desc_get hd q hj
        omega
      · omega
    subst e
    refine Runs.step v wt hv hb hjw.symm ?_ (k _ ?_)
    · intro v' hv' hb' hne
      rw [ltT_iff]
      unfold keyOf
      dsimp only
      have hm' := ((H v' hv').2 (b v') hb').mpr (Nat.le_refl _)
      by_cases q : v' < v
      · have : phase v wt L v' = L := by unfold phase; rw [if_pos q]
        rw [this] at hm'
        have := hL _ hm'
        omega
      · have : phase v wt L v' = wt :: L := by unfold phase; rw [if_neg q]
        rw [this] at hm'
        have := hle _ hm'
        omega
    · intro v' hv'
      by_cases hne : v' = v
      · subst hne
        rw [en]
        have eu : upd b v' v' = b v' + 1 := by unfold upd; rw [if_pos rfl]
        rw [eu]
        refine ⟨hb, fun i hi => ?_⟩
        constructor
        · intro hx
          have := (hbv i hi).mp (List.mem_cons_of_mem _ hx)
          have : i ≠ b v' := fun q => by subst q; rw [hjw] at hx; exact hnL hx
          omega
        · intro hx
          rcases List.mem_cons.mp ((hbv i hi).mpr (by omega)) with q | q
          · have := desc_get hd (show b v' < i by omega) hi
            omega
          · exact q
      · rw [eo v' hne]
        have eu : upd b v v' = b v' := by unfold upd; rw [if_neg hne]
        rw [eu]
        exact H v' hv'
  · rw [if_neg (by simpa using hm)]
    refine k b fun v' hv' => ?_
    by_cases hne : v' = v
    · subst hne
      rw [en]
      refine ⟨hbl, fun i hi => ?_⟩
      rw [← hbv i hi, List.mem_cons]
      constructor
      · exact Or.inr
      · rintro (q | q)
        · exact absurd (mem_getD.mpr ⟨i, hi, by omega⟩) hm
        · exact q
    · rw [eo v' hne]
      exact H v' hv'
noncomputable def evsOf (us : Nat → Int) (ws : List Int) (L : List Int) : List (Int × Nat) := L.flatMap fun wt => (downL us ws wt 3).map fun v => (wt, v)
theorem runs_of {us : Nat → Int} {ws : List Int} (hd : ws.Pairwise (· > ·)) : ∀ {L : List Int} {b : Nat → Nat}, L.Pairwise (· > ·) → Left us ws b (fun _ => L) → Runs us ws b (evsOf us ws L)
  | [], b, _, H => .done fun v hv hb => by
    have := (H v hv).2 (b v) hb
    simp at this
  | wt :: L, b, hp, H => by
    rw [List.pairwise_cons] at hp
    have hL : ∀ x ∈ L, x < wt := fun x hx => hp.1 x hx
    have e : evsOf us ws (wt :: L) = (if decide (wt - us 0 ∈ ws) = true then [(wt, 0)] else []) ++ ((if decide (wt - us 1 ∈ ws) = true then [(wt, 1)] else []) ++ ((if decide (wt - us 2 ∈ ws) = true then [(wt, 2)] else []) ++ evsOf us ws L)) := by
      unfold evsOf
      rw [List.flatMap_cons, downL, downL, downL, downL]
      split <;> split <;> split <;> rfl
    rw [e]
    have e0 : phase 0 wt L = fun _ => wt :: L := by funext v; unfold phase; rw [if_neg (Nat.not_lt_zero _)]
    refine phase_step hd hL (by decide) (by rw [e0]; exact H) fun b1 H1 => phase_step hd hL (by decide) H1 fun b2 H2 => phase_step hd hL (by decide) H2 fun b3 H3 => runs_of hd hp.2 fun v hv => ?_
    have e3 : phase (2 + 1) wt L v = L := by unfold phase; rw [if_pos hv]
    have := H3 v hv
    rw [e3] at this
    exact this

/-- the letters' lists that can stand at a weight -/
noncomputable def eightL : List (List Nat) := [[], [0], [1], [2], [0, 1], [0, 2], [1, 2], [0, 1, 2]]
theorem downL_eight {us : Nat → Int} {ws : List Int} {wt : Int} : downL us ws wt 3 ∈ eightL := by
  rw [downL, downL, downL, downL]
  split <;> split <;> split <;> decide
section
variable {u0 u1 u2 : Int}
theorem like_same {wt : Int} {l l' : List Nat} : likeB (prodE u0 u1 u2 wt l) (prodE u0 u1 u2 wt l') = true := by
  rw [likeB_iff]; exact ⟨rfl, rfl, rfl⟩
theorem put_new {told : List Ent} {wt : Int} {v : Nat} (h : ∀ x r, told = x :: r → ∀ l, likeB x (prodE u0 u1 u2 wt l) = false) : putE (prodE u0 u1 u2 wt [v]) v told = some (prodE u0 u1 u2 wt [v] :: told) := by
  cases told with
  | nil => rfl
  | cons x r =>
    rw [putE, if_neg]
    rw [h x r rfl]
    exact Bool.false_ne_true
theorem put_old {told : List Ent} {wt : Int} {v : Nat} {l l' : List Nat} (hm : mergeL l v = some l') : putE (prodE u0 u1 u2 wt [v]) v (prodE u0 u1 u2 wt l :: told) = some (prodE u0 u1 u2 wt l' :: told) := by
  rw [putE, if_pos like_same]
  show (match mergeL l v with | some l => some _ | none => none) = _
  rw [hm]
  rfl
theorem runE_grp {told : List Ent} {wt : Int} {rest : List (Int × Nat)} {l : List Nat} (hl : l ∈ eightL) (h : ∀ x r, told = x :: r → ∀ l, likeB x (prodE u0 u1 u2 wt l) = false) :
    runE (prodE u0 u1 u2) (l.map (fun v => (wt, v)) ++ rest) told = runE (prodE u0 u1 u2) rest (if l.isEmpty = true then told else prodE u0 u1 u2 wt l :: told) := by
  unfold eightL at hl
  simp only [List.mem_cons, List.not_mem_nil, or_false] at hl
  rcases hl with rfl | rfl | rfl | rfl | rfl | rfl | rfl | rfl
  · rfl
  all_goals simp only [List.map_cons, List.map_nil, List.cons_append, List.nil_append, List.isEmpty_cons, Bool.false_eq_true, if_false]
  · rw [runE, put_new h]
  · rw [runE, put_new h]
  · rw [runE, put_new h]
  · rw [runE, put_new h]; dsimp only; rw [runE, put_old (l := [0]) (v := 1) (l' := [0, 1]) rfl]
  · rw [runE, put_new h]; dsimp only; rw [runE, put_old (l := [0]) (v := 2) (l' := [0, 2]) rfl]
  · rw [runE, put_new h]; dsimp only; rw [runE, put_old (l := [1]) (v := 2) (l' := [1, 2]) rfl]
  · rw [runE, put_new h]; dsimp only; rw [runE, put_old (l := [0]) (v := 1) (l' := [0, 1]) rfl]; dsimp only; rw [runE, put_old (l := [0, 1]) (v := 2) (l' := [0, 1, 2]) rfl]
noncomputable def resE (u0 u1 u2 : Int) (ws : List Int) (wt : Int) : Option Ent := if (downL (usF u0 u1 u2) ws wt 3).isEmpty = true then none else some (prodE u0 u1 u2 wt (downL (usF u0 u1 u2) ws wt 3))
theorem runE_all {ws : List Int} : ∀ {L : List Int} {told : List Ent}, L.Pairwise (· > ·) → (∀ wt ∈ L, ∀ wt' ∈ L, wt ≠ wt' → ∀ l l', likeB (prodE u0 u1 u2 wt l) (prodE u0 u1 u2 wt' l') = false) → (∀ x r, told = x :: r → ∀ wt ∈ L, ∀ l, likeB x (prodE u0 u1 u2 wt l) = false) →
    runE (prodE u0 u1 u2) (evsOf (usF u0 u1 u2) ws L) told = some ((L.filterMap (resE u0 u1 u2 ws)).reverse ++ told)
  | [], told, _, _, _ => rfl
  | wt :: L, told, hp, hl, ht => by
    rw [List.pairwise_cons] at hp
    have e : evsOf (usF u0 u1 u2) ws (wt :: L) = (downL (usF u0 u1 u2) ws wt 3).map (fun v => (wt, v)) ++ evsOf (usF u0 u1 u2) ws L := by
      unfold evsOf; rw [List.flatMap_cons]
    rw [e, runE_grp downL_eight (fun x r h => ht x r h wt List.mem_cons_self)]
    have hl' : ∀ wt ∈ L, ∀ wt' ∈ L, wt ≠ wt' → ∀ l l', likeB (prodE u0 u1 u2 wt l) (prodE u0 u1 u2 wt' l') = false := fun a ha b hb => hl a (List.mem_cons_of_mem _ ha) b (List.mem_cons_of_mem _ hb)
    by_cases q : (downL (usF u0 u1 u2) ws wt 3).isEmpty = true
    · rw [if_pos q, runE_all hp.2 hl' (fun x r h a ha => ht x r h a (List.mem_cons_of_mem _ ha))]
      rw [List.filterMap_cons_none (by unfold resE; rw [if_pos q])]
    · rw [if_neg q, runE_all hp.2 hl' (fun x r h a ha l => by
        cases h
        exact hl wt List.mem_cons_self a (List.mem_cons_of_mem _ ha) (fun e => by subst e; exact Int.lt_irrefl _ (hp.1 _ ha)) _ _)]
      rw [List.filterMap_cons_some (by unfold resE; rw [if_neg q]), List.reverse_cons, List.append_assoc]
      rfl
theorem evs_len {us : Nat → Int} {ws : List Int} : ∀ (L : List Int), (evsOf us ws L).length ≤ 3 * L.length
  | [] => Nat.le_refl _
  | wt :: L => by
    have ih := evs_len (us := us) (ws := ws) L
    have h3 := downL_len (us := us) (ws := ws) (wt := wt) 3
    unfold evsOf at ih ⊢
    rw [List.flatMap_cons, List.length_append, List.length_map, List.length_cons]
    omega
end
theorem fct1 : ∀ u ∈ sixU, ∀ dn ∈ [2, 3, 4], ∀ w ∈ allP dn, ∀ v ∈ [0, 1, 2], ((mulE (entP u.1 u.2.1 u.2.2 w) v).1 = (entP u.1 u.2.1 u.2.2 (w + usF u.1 u.2.1 u.2.2 v)).1 ∧ (mulE (entP u.1 u.2.1 u.2.2 w) v).2.1 = (entP u.1 u.2.1 u.2.2 (w + usF u.1 u.2.1 u.2.2 v)).2.1) ∧ ((mulE (entP u.1 u.2.1 u.2.2 w) v).2.2.1 = (entP u.1 u.2.1 u.2.2 (w + usF u.1 u.2.1 u.2.2 v)).2.2.1 ∧ (mulE (entP u.1 u.2.1 u.2.2 w) v).2.2.2.1 = (entP u.1 u.2.1 u.2.2 (w + usF u.1 u.2.1 u.2.2 v)).2.2.2.1) := by decide +kernel
theorem fct1b : ∀ u ∈ sixU, ∀ dn ∈ [2, 3, 4], ∀ w ∈ allP dn, ∀ v ∈ [0, 1, 2], w + usF u.1 u.2.1 u.2.2 v ∈ allP (dn + 1) := by decide +kernel
theorem fct2 : ∀ u ∈ sixU, ∀ dn ∈ [2, 3, 4], ∀ wt ∈ allP (dn + 1), (entP u.1 u.2.1 u.2.2 wt).2.2.2.1 = (dn + 1 : Nat) ∧ wtP u.1 u.2.1 u.2.2 (prodE u.1 u.2.1 u.2.2 wt []) = wt ∧ (0 ≤ (entP u.1 u.2.1 u.2.2 wt).1 ∧ (entP u.1 u.2.1 u.2.2 wt).1 ≤ 10) ∧ (0 ≤ (entP u.1 u.2.1 u.2.2 wt).2.1 ∧ (entP u.1 u.2.1 u.2.2 wt).2.1 ≤ 10) ∧ (0 ≤ (entP u.1 u.2.1 u.2.2 wt).2.2.1 ∧ (entP u.1 u.2.1 u.2.2 wt).2.2.1 ≤ 10) := by decide +kernel
theorem fct3 : ∀ dn ∈ [2, 3, 4], (allP (dn + 1)).Pairwise (· > ·) ∧ (allP dn).Pairwise (· > ·) ∧ (allP (dn + 1)).length ≤ 21 ∧ ∀ x ∈ allP dn, 0 ≤ x ∧ x ≤ 1000 := by decide +kernel

section
variable {u0 u1 u2 : Int}
theorem mul_prod (hu : (u0, u1, u2) ∈ sixU) {dn : Nat} (hdn : dn ∈ [2, 3, 4]) {w : Int} (hw : w ∈ allP dn) {v : Nat} (hv : v < 3) : mulE (entP u0 u1 u2 w) v = prodE u0 u1 u2 (w + usF u0 u1 u2 v) [v] := by
  have hv' : v ∈ [0, 1, 2] := by
    have : v = 0 ∨ v = 1 ∨ v = 2 := three_nat hv
    simpa using this
  obtain ⟨⟨e1, e2⟩, e3, e4⟩ := fct1 _ hu dn hdn w hw v hv'
  have e5 : (mulE (entP u0 u1 u2 w) v).2.2.2.2 = [v] := by
    simp only [List.mem_cons, List.not_mem_nil, or_false] at hv'
    rcases hv' with rfl | rfl | rfl <;> rfl
  exact Prod.ext e1 (Prod.ext e2 (Prod.ext e3 (Prod.ext e4 e5)))
theorem wt_prod (hu : (u0, u1, u2) ∈ sixU) {dn : Nat} (hdn : dn ∈ [2, 3, 4]) {wt : Int} (hw : wt ∈ allP (dn + 1)) {l : List Nat} : wtP u0 u1 u2 (prodE u0 u1 u2 wt l) = wt := (fct2 _ hu dn hdn wt hw).2.1
theorem like_ne (hu : (u0, u1, u2) ∈ sixU) {dn : Nat} (hdn : dn ∈ [2, 3, 4]) {wt wt' : Int} (hw : wt ∈ allP (dn + 1)) (hw' : wt' ∈ allP (dn + 1)) (h : wt ≠ wt') {l l' : List Nat} : likeB (prodE u0 u1 u2 wt l) (prodE u0 u1 u2 wt' l') = false := by
  cases q : likeB (prodE u0 u1 u2 wt l) (prodE u0 u1 u2 wt' l') with
  | false => rfl
  | true =>
    rw [likeB_iff] at q
    obtain ⟨e1, e2, e3⟩ := q
    refine absurd ?_ h
    rw [← wt_prod hu hdn hw (l := l), ← wt_prod hu hdn hw' (l := l')]
    unfold wtP
    rw [e1, e2, e3]
noncomputable def shadow (u0 u1 u2 : Int) (dn : Nat) (ws : List Int) : List Int := (allP (dn + 1)).filter fun wt => !(downL (usF u0 u1 u2) ws wt 3).isEmpty
theorem res_wt {ws : List Int} : ∀ {L : List Int}, (∀ wt ∈ L, ∀ l, wtP u0 u1 u2 (prodE u0 u1 u2 wt l) = wt) → (L.filterMap (resE u0 u1 u2 ws)).map (wtP u0 u1 u2) = L.filter fun wt => !(downL (usF u0 u1 u2) ws wt 3).isEmpty
  | [], _ => rfl
  | wt :: L, h => by
    have ih := res_wt (ws := ws) (L := L) fun a ha => h a (List.mem_cons_of_mem _ ha)
    by_cases q : (downL (usF u0 u1 u2) ws wt 3).isEmpty = true
    · rw [List.filterMap_cons_none (by unfold resE; rw [if_pos q]), ih, List.filter_cons_of_neg (by simp [q])]
    · rw [List.filterMap_cons_some (by unfold resE; rw [if_neg q]), List.map_cons, ih, h wt List.mem_cons_self, List.filter_cons_of_pos (by simpa using q)]
theorem res_told {ws : List Int} {deg : Int} : ∀ {L : List Int}, (∀ wt ∈ L, (∀ l, wtP u0 u1 u2 (prodE u0 u1 u2 wt l) = wt) ∧ (entP u0 u1 u2 wt).2.2.2.1 = deg) → (L.filterMap (resE u0 u1 u2 ws)).map (toldD u0 u1 u2) = L.flatMap (dueL (usF u0 u1 u2) ws deg)
  | [], _ => rfl
  | wt :: L, h => by
    have ih := res_told (ws := ws) (deg := deg) (L := L) fun a ha => h a (List.mem_cons_of_mem _ ha)
    rw [List.flatMap_cons, ← ih, dueL_eq]
    by_cases q : (downL (usF u0 u1 u2) ws wt 3).isEmpty = true
    · rw [List.filterMap_cons_none (by unfold resE; rw [if_pos q]), if_pos q]; rfl
    · rw [List.filterMap_cons_some (by unfold resE; rw [if_neg q]), List.map_cons, if_neg q]
      have e := h wt List.mem_cons_self
      unfold toldD
      rw [e.1]
      show dueD (entP u0 u1 u2 wt).2.2.2.1 wt _ :: _ = _
      rw [e.2]
      rfl
theorem ab_main (hu : (u0, u1, u2) ∈ sixU) {dn : Nat} (hdn : dn ∈ [2, 3, 4]) {ws : List Int} (hd : ws.Pairwise (· > ·)) (hs : ∀ w ∈ ws, w ∈ allP dn) (hn : 1 ≤ ws.length ∧ ws.length ≤ 100) : AbOK u0 u1 u2 dn ws ((allP (dn + 1)).filterMap (resE u0 u1 u2 ws)).reverse := by
  obtain ⟨hp, _, h21, hwb⟩ := fct3 dn hdn
  have hS : ∀ w ∈ ws, ∀ v < 3, w + usF u0 u1 u2 v ∈ allP (dn + 1) := fun w hw v hv => fct1b _ hu dn hdn w (hs w hw) v (by
    have : v = 0 ∨ v = 1 ∨ v = 2 := three_nat hv
    simpa using this)
  have hf : ∀ e ∈ (allP (dn + 1)).filterMap (resE u0 u1 u2 ws), ∃ wt ∈ allP (dn + 1), e = prodE u0 u1 u2 wt (downL (usF u0 u1 u2) ws wt 3) := by
    intro e he
    obtain ⟨wt, hw, h⟩ := List.mem_filterMap.mp he
    unfold resE at h
    split at h
    · cases h
    · cases h; exact ⟨wt, hw, rfl⟩
  refine ⟨?_, fun x hx => hwb x (hs x hx), hn, ?_, ?_, ?_⟩
  · have hk : HeapInv (usF u0 u1 u2) ws (fun _ => 0) (siftK [keyOf (usF u0 u1 u2) ws (fun _ => 0) 0, keyOf (usF u0 u1 u2) ws (fun _ => 0) 1, keyOf (usF u0 u1 u2) ws (fun _ => 0) 2]) := by
      refine heap_mk (fun k => ?_) ?_ (Nat.le_refl _)
      · simp only [List.mem_cons, List.not_mem_nil, or_false]
        constructor
        · rintro (rfl | rfl | rfl)
          · exact ⟨0, by decide, by omega, rfl⟩
          · exact ⟨1, by decide, by omega, rfl⟩
          · exact ⟨2, by decide, by omega, rfl⟩
        · rintro ⟨v, hv, _, rfl⟩
          have : v = 0 ∨ v = 1 ∨ v = 2 := three_nat hv
          rcases this with rfl | rfl | rfl
          · exact .inl rfl
          · exact .inr (.inl rfl)
          · exact .inr (.inr rfl)
      · refine List.nodup_cons.mpr ⟨?_, List.nodup_cons.mpr ⟨?_, List.nodup_cons.mpr ⟨List.not_mem_nil, List.nodup_nil⟩⟩⟩
        · simp only [List.mem_cons, List.not_mem_nil, or_false, not_or]
          exact ⟨keyOf_ne (by decide), keyOf_ne (by decide)⟩
        · simp only [List.mem_cons, List.not_mem_nil, or_false]
          exact keyOf_ne (by decide)
    have hr := runs_of (us := usF u0 u1 u2) hd hp (b := fun _ => 0) fun v hv => ⟨Nat.zero_le _, fun i hi => ⟨fun _ => Nat.zero_le _, fun _ => hS _ (mem_getD.mpr ⟨i, hi, rfl⟩) v hv⟩⟩
    have he := runE_all (u0 := u0) (u1 := u1) (u2 := u2) (ws := ws) (told := []) hp (fun a ha b hb h l l' => like_ne hu hdn ha hb h) (fun x r h => nomatch h)
    rw [List.append_nil] at he
    exact abGo_runs (fun w hw v hv => mul_prod hu hdn (hs w hw) hv) hr hk he (by have := evs_len (us := usF u0 u1 u2) (ws := ws) (allP (dn + 1)); omega)
  · rw [List.reverse_reverse]
    intro e he
    obtain ⟨wt, hw, rfl⟩ := hf e he
    have := (fct2 _ hu dn hdn wt hw).2.2
    exact ⟨this.1, this.2.1, this.2.2, downL_len 3⟩
  · rw [List.reverse_reverse]
    exact Nat.le_trans (List.length_filterMap_le _ _) (by omega)
  · rw [List.reverse_reverse]
    exact res_told fun wt hw => ⟨fun l => wt_prod hu hdn hw, (fct2 _ hu dn hdn wt hw).1⟩
theorem ab_wts (hu : (u0, u1, u2) ∈ sixU) {dn : Nat} (hdn : dn ∈ [2, 3, 4]) {ws : List Int} : (((allP (dn + 1)).filterMap (resE u0 u1 u2 ws)).reverse.reverse).map (wtP u0 u1 u2) = shadow u0 u1 u2 dn ws := by
  rw [List.reverse_reverse]
  exact res_wt fun wt hw l => wt_prod hu hdn hw
theorem ab_len (hu : (u0, u1, u2) ∈ sixU) {dn : Nat} (hdn : dn ∈ [2, 3, 4]) {ws : List Int} : (((allP (dn + 1)).filterMap (resE u0 u1 u2 ws)).reverse).length = (shadow u0 u1 u2 dn ws).length := by
  rw [← ab_wts hu hdn, List.length_map, List.length_reverse, List.length_reverse, List.length_reverse]
end

/-- the weights that some letter brings from ws, whatever the letters' order -/
noncomputable def shB (dn : Nat) (ws : List Int) : List Int := (allP (dn + 1)).filter fun wt => decide (wt - 64 ∈ ws) || (decide (wt - 8 ∈ ws) || decide (wt - 1 ∈ ws))
theorem downL_any {us : Nat → Int} {ws : List Int} {wt : Int} : (!(downL us ws wt 3).isEmpty) = (decide (wt - us 0 ∈ ws) || (decide (wt - us 1 ∈ ws) || decide (wt - us 2 ∈ ws))) := by
  rw [downL, downL, downL, downL]
  cases decide (wt - us 0 ∈ ws) <;> cases decide (wt - us 1 ∈ ws) <;> cases decide (wt - us 2 ∈ ws) <;> rfl
theorem shadow_eq {u0 u1 u2 : Int} (hu : (u0, u1, u2) ∈ sixU) {dn : Nat} {ws : List Int} : shadow u0 u1 u2 dn ws = shB dn ws := by
  unfold shadow shB
  refine List.filter_congr fun wt _ => ?_
  rw [downL_any]
  unfold sixU at hu
  simp only [List.mem_cons, List.not_mem_nil, or_false, Prod.mk.injEq] at hu
  rcases hu with ⟨rfl, rfl, rfl⟩ | ⟨rfl, rfl, rfl⟩ | ⟨rfl, rfl, rfl⟩ | ⟨rfl, rfl, rfl⟩ | ⟨rfl, rfl, rfl⟩ | ⟨rfl, rfl, rfl⟩
  all_goals
    simp only [usF]
    try (cases decide (wt - 64 ∈ ws) <;> cases decide (wt - 8 ∈ ws) <;> cases decide (wt - 1 ∈ ws) <;> rfl)
noncomputable def leChk (dn k : Nat) : Bool :=
  decide (shB dn ((allP dn).take k) = (allP (dn + 1)).take (shB dn ((allP dn).take k)).length) && decide (cascRun dn (((allP dn).length : Int) - k) 0 = some (((allP (dn + 1)).length : Int) - (shB dn ((allP dn).take k)).length))
noncomputable def upChk (dn : Nat) (a b t : Nat) : Bool := Nat.ble 1 a && (Nat.ble b a && (match cascRun (dn + 1) (((allP (dn + 1)).length : Int) - a) 0 with
  | none => false
  | some most => decide (((allP (dn + 2)).length : Int) - t ≤ most) && (!(Nat.beq a b) || decide (((allP (dn + 2)).length : Int) - t = most))))
noncomputable def stChk (dn : Nat) (qs : List Int) : Bool :=
  upChk dn (shB dn (qs.map fun q => (allP dn).getD q.toNat 0)).length (shB dn ((allP dn).take qs.length)).length (shB (dn + 1) (shB dn (qs.map fun q => (allP dn).getD q.toNat 0))).length
noncomputable def subsI : List Int → List (List Int)
  | [] => [[]]
  | x :: xs => subsI xs ++ (subsI xs).map (x :: ·)
theorem mem_subs : ∀ {l qs : List Int}, l.Pairwise (· < ·) → qs.Pairwise (· < ·) → (∀ q ∈ qs, q ∈ l) → qs ∈ subsI l
  | [], qs, _, _, h => by
    cases qs with
    | nil => exact List.mem_singleton.mpr rfl
    | cons q qs => exact absurd (h q List.mem_cons_self) List.not_mem_nil
  | x :: xs, qs, hl, hq, h => by
    rw [List.pairwise_cons] at hl
    rw [subsI]
    cases qs with
    | nil => exact List.mem_append.mpr (.inl (mem_subs hl.2 .nil fun q hq => nomatch hq))
    | cons q qs =>
      rw [List.pairwise_cons] at hq
      by_cases e : q = x
      · subst e
        refine List.mem_append.mpr (.inr (List.mem_map.mpr ⟨qs, mem_subs hl.2 hq.2 fun y hy => ?_, rfl⟩))
        rcases List.mem_cons.mp (h y (List.mem_cons_of_mem _ hy)) with rfl | h'
        · exact absurd (hq.1 _ hy) (Int.lt_irrefl _)
        · exact h'
      · refine List.mem_append.mpr (.inl (mem_subs hl.2 (List.pairwise_cons.mpr hq) fun y hy => ?_))
        have hqx : q ∈ xs := (List.mem_cons.mp (h q List.mem_cons_self)).resolve_left e
        rcases List.mem_cons.mp (h y hy) with rfl | h'
        · rcases List.mem_cons.mp hy with q2 | q2
          · exact absurd q2.symm e
          · have a1 := hq.1 _ q2
            have a2 := hl.1 _ hqx
            omega
        · exact h'
noncomputable def numsI : Nat → List Int
  | 2 => [0, 1, 2, 3, 4, 5]
  | _ => [0, 1, 2, 3, 4, 5, 6, 7, 8, 9]
noncomputable def okI (qs : List Int) : Bool := qs.any (· == 1) && (qs.any (· == 3) && Nat.ble qs.length 8)
theorem le_all2 : ∀ k ∈ [1, 2, 3, 4, 5, 6], leChk 2 k = true := by decide +kernel
theorem le_all3 : ∀ k ∈ [1, 2, 3, 4, 5, 6, 7, 8], leChk 3 k = true := by decide +kernel
theorem st_all2 : (subsI (numsI 2)).all (fun qs => !okI qs || stChk 2 qs) = true := by decide +kernel
noncomputable def numsT : List Int := [4, 5, 6, 7, 8, 9]
noncomputable def headsT : List (List Int) := [[1, 3], [0, 1, 3], [1, 2, 3], [0, 1, 2, 3]]
theorem st_a : (subsI numsT).all (fun qs => !okI ([1, 3] ++ qs) || stChk 3 ([1, 3] ++ qs)) = true := by decide +kernel
theorem st_b : (subsI numsT).all (fun qs => !okI ([0, 1, 3] ++ qs) || stChk 3 ([0, 1, 3] ++ qs)) = true := by decide +kernel
theorem st_c : (subsI numsT).all (fun qs => !okI ([1, 2, 3] ++ qs) || stChk 3 ([1, 2, 3] ++ qs)) = true := by decide +kernel
theorem st_d : (subsI numsT).all (fun qs => !okI ([0, 1, 2, 3] ++ qs) || stChk 3 ([0, 1, 2, 3] ++ qs)) = true := by decide +kernel
theorem st_all3 {qs : List Int} (h : qs ∈ subsI (numsI 3)) (ok : okI qs = true) : stChk 3 qs = true := by
  have k : ∀ (p : List Int), (subsI numsT).all (fun qs => !okI (p ++ qs) || stChk 3 (p ++ qs)) = true → ∀ r ∈ subsI numsT, qs = p ++ r → stChk 3 qs = true := by
    intro p hp r hr e
    have := List.all_eq_true.mp hp r hr
    rw [← e, ok] at this
    simpa using this
  have e4 : numsI 3 = 0 :: 1 :: 2 :: 3 :: numsT := rfl
  have bad : ∀ r ∈ subsI numsT, ¬ (1 : Int) ∈ r ∧ ¬ (3 : Int) ∈ r := by decide +kernel
  have o1 : (1 : Int) ∈ qs := by
    unfold okI at ok
    simp only [Bool.and_eq_true, List.any_eq_true, beq_iff_eq] at ok
    obtain ⟨⟨x, hx, rfl⟩, _⟩ := ok
    exact hx
  have o3 : (3 : Int) ∈ qs := by
    unfold okI at ok
    simp only [Bool.and_eq_true, List.any_eq_true, beq_iff_eq] at ok
    obtain ⟨_, ⟨x, hx, rfl⟩, _⟩ := ok
    exact hx
  have c : ∀ {x : Int} {xs qs : List Int}, qs ∈ subsI (x :: xs) → qs ∈ subsI xs ∨ ∃ r ∈ subsI xs, x :: r = qs := fun h => (List.mem_append.mp h).imp id List.mem_map.mp
  rw [e4] at h
  rcases c h with ha | ⟨r1, ha, rfl⟩ <;> rcases c ha with hb | ⟨r2, hb, rfl⟩ <;> rcases c hb with hc | ⟨r3, hc, rfl⟩ <;> rcases c hc with hd | ⟨r4, hd, rfl⟩
  all_goals first
    | exact k [1, 3] st_a _ hd rfl
    | exact k [0, 1, 3] st_b _ hd rfl
    | exact k [1, 2, 3] st_c _ hd rfl
    | exact k [0, 1, 2, 3] st_d _ hd rfl
    | (exfalso; have b := bad _ hd; simp [b.1, b.2] at o1; done)
    | (exfalso; have b := bad _ hd; simp [b.1, b.2] at o3; done)
theorem subs_len : ∀ {l qs : List Int}, qs ∈ subsI l → qs.length ≤ l.length
  | [], qs, h => by rw [List.mem_singleton.mp h]; exact Nat.le_refl _
  | x :: xs, qs, h => by
    rcases List.mem_append.mp h with h | h
    · have := subs_len h; rw [List.length_cons]; omega
    · obtain ⟨r, hr, rfl⟩ := List.mem_map.mp h
      have := subs_len hr
      rw [List.length_cons, List.length_cons]; omega
theorem nums_mem {dn : Nat} (hdn : dn = 2 ∨ dn = 3) {q : Int} (h : 0 ≤ q ∧ q < (allP dn).length) : q ∈ numsI dn := by
  rcases hdn with rfl | rfl
  · obtain ⟨k, rfl⟩ := Int.eq_ofNat_of_zero_le h.1
    have : ∀ k : Nat, k < 6 → (k : Int) ∈ numsI 2 := by decide
    exact this k (Int.ofNat_lt.mp h.2)
  · obtain ⟨k, rfl⟩ := Int.eq_ofNat_of_zero_le h.1
    have : ∀ k : Nat, k < 10 → (k : Int) ∈ numsI 3 := by decide
    exact this k (Int.ofNat_lt.mp h.2)
theorem pure_ok (u0 u1 u2 : Int) (dn : Nat) (qs : List Int) (hu : (u0, u1, u2) ∈ sixU) (hdn : dn = 2 ∨ dn = 3) (hs : qs.Pairwise (· < ·)) (hr : ∀ q ∈ qs, 0 ≤ q ∧ q < (allP dn).length) (h1 : 1 ∈ qs) (h3 : 3 ∈ qs) (h8 : qs.length ≤ 8) : PureOK u0 u1 u2 dn qs := by
  have hdm : dn ∈ [2, 3, 4] := by rcases hdn with rfl | rfl <;> decide
  have hdm1 : dn + 1 ∈ [2, 3, 4] := by rcases hdn with rfl | rfl <;> decide
  obtain ⟨hp1, hp0, h21, _⟩ := fct3 dn hdm
  obtain ⟨_, _, h21', _⟩ := fct3 (dn + 1) hdm1
  have hsub : qs ∈ subsI (numsI dn) := mem_subs (by rcases hdn with rfl | rfl <;> decide) hs fun q hq => nums_mem hdn (hr q hq)
  have hok : okI qs = true := by
    unfold okI
    simp only [Bool.and_eq_true, List.any_eq_true, beq_iff_eq]
    exact ⟨⟨1, h1, rfl⟩, ⟨3, h3, rfl⟩, Nat.ble_eq.mpr h8⟩
  have hq1 : 1 ≤ qs.length := List.length_pos_of_mem h1
  have hst : stChk dn qs = true := by
    rcases hdn with rfl | rfl
    · have := List.all_eq_true.mp st_all2 qs hsub
      rw [hok] at this
      simpa using this
    · exact st_all3 hsub hok
  have hle : leChk dn qs.length = true := by
    have hl := subs_len hsub
    rcases hdn with rfl | rfl
    · have hl : qs.length ≤ 6 := hl
      refine le_all2 _ ?_
      have : ∀ k : Nat, k < 7 → 1 ≤ k → k ∈ [1, 2, 3, 4, 5, 6] := by decide
      exact this _ (Nat.lt_succ_of_le hl) hq1
    · refine le_all3 _ ?_
      have : ∀ k : Nat, k < 9 → 1 ≤ k → k ∈ [1, 2, 3, 4, 5, 6, 7, 8] := by decide
      exact this _ (Nat.lt_succ_of_le h8) hq1
  have hP1 : qs.length ≤ (allP dn).length := by
    have hl := subs_len hsub
    rcases hdn with rfl | rfl
    · exact hl
    · exact hl
  -- the chosen weights
  have hgm : ∀ q ∈ qs, (allP dn).getD q.toNat 0 ∈ allP dn := fun q hq => mem_getD.mpr ⟨q.toNat, by have := hr q hq; omega, rfl⟩
  have hWd : (qs.map fun q => (allP dn).getD q.toNat 0).Pairwise (· > ·) := by
    rw [List.pairwise_map]
    refine hs.imp_of_mem fun {a b} ha hb hab => ?_
    have := hr a ha
    have := hr b hb
    exact desc_get hp0 (by omega) (by omega)
  have hWs : ∀ w ∈ qs.map fun q => (allP dn).getD q.toNat 0, w ∈ allP dn := by
    intro w hw
    obtain ⟨q, hq, rfl⟩ := List.mem_map.mp hw
    exact hgm q hq
  have hFd : ((allP dn).take qs.length).Pairwise (· > ·) := hp0.sublist (List.take_sublist _ _)
  have hFs : ∀ w ∈ (allP dn).take qs.length, w ∈ allP dn := fun w hw => List.mem_of_mem_take hw
  have okA := ab_main hu hdm hWd hWs (by rw [List.length_map]; omega)
  have okB := ab_main hu hdm hFd hFs (by rw [List.length_take]; omega)
  have eA := ab_wts hu hdm (ws := qs.map fun q => (allP dn).getD q.toNat 0)
  have eB := ab_wts hu hdm (ws := (allP dn).take qs.length)
  have lA := ab_len hu hdm (ws := qs.map fun q => (allP dn).getD q.toNat 0)
  have lB := ab_len hu hdm (ws := (allP dn).take qs.length)
  rw [shadow_eq hu] at eA eB lA lB
  have hSd : (shB dn (qs.map fun q => (allP dn).getD q.toNat 0)).Pairwise (· > ·) := hp1.sublist List.filter_sublist
  have hSs : ∀ w ∈ shB dn (qs.map fun q => (allP dn).getD q.toNat 0), w ∈ allP (dn + 1) := fun w hw => (List.mem_filter.mp hw).1
  have hSl : (shB dn (qs.map fun q => (allP dn).getD q.toNat 0)).length ≤ 21 := Nat.le_trans (List.length_filter_le _ _) h21
  unfold stChk upChk at hst
  simp only [Bool.and_eq_true, Nat.ble_eq] at hst
  obtain ⟨hA1, hBA, hst⟩ := hst
  have okT := ab_main hu hdm1 hSd hSs (by omega)
  have lT := ab_len hu hdm1 (ws := shB dn (qs.map fun q => (allP dn).getD q.toNat 0))
  rw [shadow_eq hu] at lT
  unfold leChk at hle
  simp only [Bool.and_eq_true, decide_eq_true_eq] at hle
  obtain ⟨hB1, hB2⟩ := hle
  split at hst
  · cases hst
  rename_i most hmost
  simp only [Bool.and_eq_true, decide_eq_true_eq, Bool.or_eq_true, Bool.not_eq_true'] at hst
  obtain ⟨hm1, hm2⟩ := hst
  have hBl : (shB dn ((allP dn).take qs.length)).length ≤ (allP (dn + 1)).length := List.length_filter_le _ _
  rw [← eA] at okT
  refine ⟨_, _, _, most, okA, okB, okT, by rw [lB]; exact hBl, ?_, by rw [lB]; exact hB2, by rw [lA, lB]; exact hBA, by rw [lA]; exact hmost, ?_, ?_⟩
  · intro j e he k hk
    have e1 := congrArg (fun l : List Int => l[j]?) eB
    try dsimp only at e1
    rw [List.getElem?_map, he, hB1] at e1
    have e2 : (allP (dn + 1))[j]? = some (wtP u0 u1 u2 e) := by
      have e1' : ((allP (dn + 1)).take (shB dn ((allP dn).take qs.length)).length)[j]? = some (wtP u0 u1 u2 e) := e1.symm
      rw [List.getElem?_take] at e1'
      split at e1'
      · exact e1'
      · cases e1'
    have hj : j < (allP (dn + 1)).length := by
      rcases Nat.lt_or_ge j (allP (dn + 1)).length with q | q
      · exact q
      · rw [List.getElem?_eq_none q] at e2; cases e2
    have e3 : (allP (dn + 1)).getD j 0 = wtP u0 u1 u2 e := by rw [List.getD_eq_getElem?_getD, e2]; rfl
    have e4 : ((allP (dn + 1)).map fun x => -x).getD k 0 = -((allP (dn + 1)).getD k 0) := by
      rw [List.getD_eq_getElem?_getD, List.getElem?_map, List.getD_eq_getElem?_getD, List.getElem?_eq_getElem hk]; rfl
    rw [e4, ← e3]
    constructor
    · intro q
      rcases Nat.lt_trichotomy k j with h | h | h
      · exact h
      · subst h; omega
      · have := desc_get hp1 h hk; omega
    · intro q
      have := desc_get hp1 q hj
      omega
  · rw [eA, lT]
    exact hm1
  · rw [lA, lB, eA, lT]
    intro q
    rcases hm2 with h | h
    · rw [q] at h
      rw [Nat.beq_refl] at h
      cases h
    · exact h
end
end Pure_part
section FinLem_part
open PySem PySem.W PyProof.Rows PyProof.Rows.LCg
section
theorem FunIs.of {K : Frag} {st : Stmt} {q : Str} {f : Addr} {dV kV : Value} {oc : Value} {od : Option Addr} {osl : Array (Option Value)} {pm doc cdv ct : Value} {an : Option Addr}
    (hl : K.lookup f = some ⟨oc, od, .func (fnOf (sN st) q (sA st) (sB st) (sS st) dV kV doc pm an cdv ct), osl⟩) (hc : codeIn K cdv q = true) : FunIs K st q f dV kV := ⟨oc, od, osl, pm, doc, cdv, ct, an, hl, hc⟩
theorem FunAt.of {K : Frag} {i : Nat} {f : Addr} {dV kV : Value} {oc : Value} {od : Option Addr} {osl : Array (Option Value)} {pm doc cdv ct : Value} {an : Option Addr} (hn : nsIn K mainGlobals (sN (top i)) = some (some (.ref f)))
    (hl : K.lookup f = some ⟨oc, od, .func (fnOf (sN (top i)) (sN (top i)) (sA (top i)) (sB (top i)) (sS (top i)) dV kV doc pm an cdv ct), osl⟩) (hc : codeIn K cdv (sN (top i)) = true) (hk : keepIn K (.ref f) = true) : FunAt K i f dV kV := ⟨.of hl hc, hk, hn⟩
theorem FunBAt.of {K : Frag} {i : Nat} {f : Addr} {dV kV : Value} {oc : Value} {od : Option Addr} {osl : Array (Option Value)} {pm doc cdv ct : Value} {an : Option Addr} {z : Tok} (hn : nsIn K mainGlobals (sN (top i)) = some (some (.ref f)))
    (hl : K.lookup f = some ⟨oc, od, .func (fnOf (sN (top i)) (sN (top i)) (sA (top i)) (sB (top i)) (sS (top i)) dV kV doc pm an cdv ct), osl⟩) (hc : codeIn K cdv (sN (top i)) = true) (hk : keepIn K (.ref f) = true)
    (h2 : ∀ S a x, peek K S (bindArgs (fnOf (sN (top i)) (sN (top i)) (sA (top i)) (sB (top i)) (sS (top i)) dV kV doc pm an cdv ct) ⟨[a, x], []⟩) = some [(Str.ofString "a", a), (Str.ofString "x", x), (Str.ofString "lo", .int 0 z), (Str.ofString "hi", .none), (Str.ofString "key", .none)])
    (h4 : ∀ S a x l h, peek K S (bindArgs (fnOf (sN (top i)) (sN (top i)) (sA (top i)) (sB (top i)) (sS (top i)) dV kV doc pm an cdv ct) ⟨[a, x, l, h], []⟩) = some [(Str.ofString "a", a), (Str.ofString "x", x), (Str.ofString "lo", l), (Str.ofString "hi", h), (Str.ofString "key", .none)]) : FunBAt K i f :=
  ⟨⟨oc, od, osl, pm, doc, cdv, ct, dV, kV, an, z, hl, hc, h2, h4⟩, hk, hn⟩
end

section
theorem both {a b : Bool} (h : a = true) (k : b = true) : (a && b) = true := Bool.and_eq_true_iff.mpr ⟨h, k⟩
set_option maxRecDepth 100000 in
/-- what the law's form asks of the text, piece by piece -/
theorem law_said : OpenLaw.wellSaid PySem.Challenge.rw_pg0194_01 = true := by
  unfold OpenLaw.wellSaid OpenRow.wellSaid OpenRow.partSaid looksOpen
  repeat' (with_reducible refine both ?_ ?_)
  all_goals decide +kernel
end
end FinLem_part
end P8
end Mine
local macro_rules | `(tactic| k_qdec) => `(tactic| decide +kernel)
set_option maxRecDepth 100000 in
set_option maxHeartbeats 8000000 in
theorem PySem.Challenge.cw_pg0194_01_holds : PySem.Challenge.rw_pg0194_01.Holds := by
  w_on
  refine holds_law Mine.law_said fun said => ?_
  refine' And.left (b := _) ⟨?main, ?hl⟩
  case main =>
    k_head
    (case hw => w_witness2)
    w_strict (
      k_go0
      refine' Mine.law_whole ?w_b_range ?w_b_len ?w_b_reversed ?w_b_sum ?w_b_isinstance ?w_b_tuple ?w_b_zip ?w_hC ?w_hfe ?w_hfy ?w_hfs ?w_hfr ?w_hfq ?w_hfd ?w_hfu ?w_hfa ?w_b_list ?w_hfl ?w_hfw ?w_hab ?w_har ?w_hf1 ?w_hf2 ?w_hf3 ?w_hfc ?w_B ?w_X ?w_T ?w_hL ?w_hI ?w_hlen ?w_hm ?w_h1 ?w_h2 ?w_h3 ?w_hdp ?w_hun ?w_F ?w_N ?w_pure9 ?_
      (case w_X => assumption)
      (case w_B => assumption)
      (case w_T => assumption)
      (case w_F => assumption)
      (case w_N => assumption)
      (case w_b_range => k_is)
      (case w_b_len => k_is)
      (case w_b_reversed => k_is)
      (case w_b_sum => k_is)
      (case w_b_isinstance => k_is)
      (case w_b_tuple => k_is)
      (case w_b_zip => k_is)
      (case w_hC => (refine' ⟨?cl0, ?cl1, ?cl2, ?cl3, ?cl4, ?cl5, ?cl6, ?cl7, ?cl8, ?cl9, ?cl10, ?cl11, ?cl12, ?cl13, ?cl14, ?cl15, ?cl16⟩; (case cl0 => k_is); (case cl1 => k_is); (case cl2 => k_is); (case cl3 => k_is); (case cl4 => k_is); (case cl5 => (refine' Mine.FunIs.of ?h1_1 ?h1_2; (case h1_1 => (dsimp only [Mine.top, Mine.sN, Mine.sA, Mine.sB, Mine.sS, Mine.nth, PySem.Challenge.pw_pg0194_01]; k_is)); (case h1_2 => k_is))); (case cl6 => k_is); (case cl7 => k_is); (case cl8 => k_is); (case cl9 => (refine' Mine.FunIs.of ?h2_1 ?h2_2; (case h2_1 => (dsimp only [Mine.top, Mine.sN, Mine.sA, Mine.sB, Mine.sS, Mine.nth, PySem.Challenge.pw_pg0194_01]; k_is)); (case h2_2 => k_is))); (case cl10 => k_is); (case cl11 => k_is); (case cl12 => k_is); (case cl13 => k_is); (case cl14 => k_is); (case cl15 => k_is); (case cl16 => k_is)))
      (case w_hfe => (refine' Mine.FunAt.of ?h3_1 ?h3_2 ?h3_3 ?h3_4; (case h3_1 => (dsimp only [Mine.top, Mine.sN, Mine.sA, Mine.sB, Mine.sS, Mine.nth, PySem.Challenge.pw_pg0194_01]; k_is)); (case h3_2 => (dsimp only [Mine.top, Mine.sN, Mine.sA, Mine.sB, Mine.sS, Mine.nth, PySem.Challenge.pw_pg0194_01]; k_is)); (case h3_3 => (dsimp only [Mine.top, Mine.sN, Mine.sA, Mine.sB, Mine.sS, Mine.nth, PySem.Challenge.pw_pg0194_01]; k_is)); (case h3_4 => k_is)))
      (case w_hfy => (refine' Mine.FunAt.of ?h4_1 ?h4_2 ?h4_3 ?h4_4; (case h4_1 => (dsimp only [Mine.top, Mine.sN, Mine.sA, Mine.sB, Mine.sS, Mine.nth, PySem.Challenge.pw_pg0194_01]; k_is)); (case h4_2 => (dsimp only [Mine.top, Mine.sN, Mine.sA, Mine.sB, Mine.sS, Mine.nth, PySem.Challenge.pw_pg0194_01]; k_is)); (case h4_3 => (dsimp only [Mine.top, Mine.sN, Mine.sA, Mine.sB, Mine.sS, Mine.nth, PySem.Challenge.pw_pg0194_01]; k_is)); (case h4_4 => k_is)))
      (case w_hfs => (refine' Mine.FunAt.of ?h5_1 ?h5_2 ?h5_3 ?h5_4; (case h5_1 => (dsimp only [Mine.top, Mine.sN, Mine.sA, Mine.sB, Mine.sS, Mine.nth, PySem.Challenge.pw_pg0194_01]; k_is)); (case h5_2 => (dsimp only [Mine.top, Mine.sN, Mine.sA, Mine.sB, Mine.sS, Mine.nth, PySem.Challenge.pw_pg0194_01]; k_is)); (case h5_3 => (dsimp only [Mine.top, Mine.sN, Mine.sA, Mine.sB, Mine.sS, Mine.nth, PySem.Challenge.pw_pg0194_01]; k_is)); (case h5_4 => k_is)))
      (case w_hfr => (refine' Mine.FunAt.of ?h6_1 ?h6_2 ?h6_3 ?h6_4; (case h6_1 => (dsimp only [Mine.top, Mine.sN, Mine.sA, Mine.sB, Mine.sS, Mine.nth, PySem.Challenge.pw_pg0194_01]; k_is)); (case h6_2 => (dsimp only [Mine.top, Mine.sN, Mine.sA, Mine.sB, Mine.sS, Mine.nth, PySem.Challenge.pw_pg0194_01]; k_is)); (case h6_3 => (dsimp only [Mine.top, Mine.sN, Mine.sA, Mine.sB, Mine.sS, Mine.nth, PySem.Challenge.pw_pg0194_01]; k_is)); (case h6_4 => k_is)))
      (case w_hfq => (refine' Mine.FunAt.of ?h7_1 ?h7_2 ?h7_3 ?h7_4; (case h7_1 => (dsimp only [Mine.top, Mine.sN, Mine.sA, Mine.sB, Mine.sS, Mine.nth, PySem.Challenge.pw_pg0194_01]; k_is)); (case h7_2 => (dsimp only [Mine.top, Mine.sN, Mine.sA, Mine.sB, Mine.sS, Mine.nth, PySem.Challenge.pw_pg0194_01]; k_is)); (case h7_3 => (dsimp only [Mine.top, Mine.sN, Mine.sA, Mine.sB, Mine.sS, Mine.nth, PySem.Challenge.pw_pg0194_01]; k_is)); (case h7_4 => k_is)))
      (case w_hfd => (refine' Mine.FunAt.of ?h8_1 ?h8_2 ?h8_3 ?h8_4; (case h8_1 => (dsimp only [Mine.top, Mine.sN, Mine.sA, Mine.sB, Mine.sS, Mine.nth, PySem.Challenge.pw_pg0194_01]; k_is)); (case h8_2 => (dsimp only [Mine.top, Mine.sN, Mine.sA, Mine.sB, Mine.sS, Mine.nth, PySem.Challenge.pw_pg0194_01]; k_is)); (case h8_3 => (dsimp only [Mine.top, Mine.sN, Mine.sA, Mine.sB, Mine.sS, Mine.nth, PySem.Challenge.pw_pg0194_01]; k_is)); (case h8_4 => k_is)))
      (case w_hfu => (refine' Mine.FunAt.of ?h9_1 ?h9_2 ?h9_3 ?h9_4; (case h9_1 => (dsimp only [Mine.top, Mine.sN, Mine.sA, Mine.sB, Mine.sS, Mine.nth, PySem.Challenge.pw_pg0194_01]; k_is)); (case h9_2 => (dsimp only [Mine.top, Mine.sN, Mine.sA, Mine.sB, Mine.sS, Mine.nth, PySem.Challenge.pw_pg0194_01]; k_is)); (case h9_3 => (dsimp only [Mine.top, Mine.sN, Mine.sA, Mine.sB, Mine.sS, Mine.nth, PySem.Challenge.pw_pg0194_01]; k_is)); (case h9_4 => k_is)))
      (case w_hfa => (refine' Mine.FunAt.of ?h10_1 ?h10_2 ?h10_3 ?h10_4; (case h10_1 => (dsimp only [Mine.top, Mine.sN, Mine.sA, Mine.sB, Mine.sS, Mine.nth, PySem.Challenge.pw_pg0194_01]; k_is)); (case h10_2 => (dsimp only [Mine.top, Mine.sN, Mine.sA, Mine.sB, Mine.sS, Mine.nth, PySem.Challenge.pw_pg0194_01]; k_is)); (case h10_3 => (dsimp only [Mine.top, Mine.sN, Mine.sA, Mine.sB, Mine.sS, Mine.nth, PySem.Challenge.pw_pg0194_01]; k_is)); (case h10_4 => k_is)))
      (case w_b_list => k_is)
      (case w_hfl => (refine' Mine.FunAt.of ?h11_1 ?h11_2 ?h11_3 ?h11_4; (case h11_1 => (dsimp only [Mine.top, Mine.sN, Mine.sA, Mine.sB, Mine.sS, Mine.nth, PySem.Challenge.pw_pg0194_01]; k_is)); (case h11_2 => (dsimp only [Mine.top, Mine.sN, Mine.sA, Mine.sB, Mine.sS, Mine.nth, PySem.Challenge.pw_pg0194_01]; k_is)); (case h11_3 => (dsimp only [Mine.top, Mine.sN, Mine.sA, Mine.sB, Mine.sS, Mine.nth, PySem.Challenge.pw_pg0194_01]; k_is)); (case h11_4 => k_is)))
      (case w_hfw => (refine' Mine.FunAt.of ?h12_1 ?h12_2 ?h12_3 ?h12_4; (case h12_1 => (dsimp only [Mine.top, Mine.sN, Mine.sA, Mine.sB, Mine.sS, Mine.nth, PySem.Challenge.pw_pg0194_01]; k_is)); (case h12_2 => (dsimp only [Mine.top, Mine.sN, Mine.sA, Mine.sB, Mine.sS, Mine.nth, PySem.Challenge.pw_pg0194_01]; k_is)); (case h12_3 => (dsimp only [Mine.top, Mine.sN, Mine.sA, Mine.sB, Mine.sS, Mine.nth, PySem.Challenge.pw_pg0194_01]; k_is)); (case h12_4 => k_is)))
      (case w_hab => (refine' Mine.FunAt.of ?h13_1 ?h13_2 ?h13_3 ?h13_4; (case h13_1 => (dsimp only [Mine.top, Mine.sN, Mine.sA, Mine.sB, Mine.sS, Mine.nth, PySem.Challenge.pw_pg0194_01]; k_is)); (case h13_2 => (dsimp only [Mine.top, Mine.sN, Mine.sA, Mine.sB, Mine.sS, Mine.nth, PySem.Challenge.pw_pg0194_01]; k_is)); (case h13_3 => (dsimp only [Mine.top, Mine.sN, Mine.sA, Mine.sB, Mine.sS, Mine.nth, PySem.Challenge.pw_pg0194_01]; k_is)); (case h13_4 => k_is)))
      (case w_har => (refine' Mine.FunAt.of ?h14_1 ?h14_2 ?h14_3 ?h14_4; (case h14_1 => (dsimp only [Mine.top, Mine.sN, Mine.sA, Mine.sB, Mine.sS, Mine.nth, PySem.Challenge.pw_pg0194_01]; k_is)); (case h14_2 => (dsimp only [Mine.top, Mine.sN, Mine.sA, Mine.sB, Mine.sS, Mine.nth, PySem.Challenge.pw_pg0194_01]; k_is)); (case h14_3 => (dsimp only [Mine.top, Mine.sN, Mine.sA, Mine.sB, Mine.sS, Mine.nth, PySem.Challenge.pw_pg0194_01]; k_is)); (case h14_4 => k_is)))
      (case w_hf1 => (refine' Mine.FunBAt.of ?h15_1 ?h15_2 ?h15_3 ?h15_4 ?h15_5 ?h15_6; (case h15_1 => (dsimp only [Mine.top, Mine.sN, Mine.sA, Mine.sB, Mine.sS, Mine.nth, PySem.Challenge.pw_pg0194_01]; k_is)); (case h15_2 => (dsimp only [Mine.top, Mine.sN, Mine.sA, Mine.sB, Mine.sS, Mine.nth, PySem.Challenge.pw_pg0194_01]; k_is)); (case h15_3 => (dsimp only [Mine.top, Mine.sN, Mine.sA, Mine.sB, Mine.sS, Mine.nth, PySem.Challenge.pw_pg0194_01]; k_is)); (case h15_4 => k_is); (case h15_5 => (intro S a x; rfl)); (case h15_6 => (intro S a x l h; rfl))))
      (case w_hf2 => (refine' Mine.FunBAt.of ?h16_1 ?h16_2 ?h16_3 ?h16_4 ?h16_5 ?h16_6; (case h16_1 => (dsimp only [Mine.top, Mine.sN, Mine.sA, Mine.sB, Mine.sS, Mine.nth, PySem.Challenge.pw_pg0194_01]; k_is)); (case h16_2 => (dsimp only [Mine.top, Mine.sN, Mine.sA, Mine.sB, Mine.sS, Mine.nth, PySem.Challenge.pw_pg0194_01]; k_is)); (case h16_3 => (dsimp only [Mine.top, Mine.sN, Mine.sA, Mine.sB, Mine.sS, Mine.nth, PySem.Challenge.pw_pg0194_01]; k_is)); (case h16_4 => k_is); (case h16_5 => (intro S a x; rfl)); (case h16_6 => (intro S a x l h; rfl))))
      (case w_hf3 => (refine' Mine.FunBAt.of ?h17_1 ?h17_2 ?h17_3 ?h17_4 ?h17_5 ?h17_6; (case h17_1 => (dsimp only [Mine.top, Mine.sN, Mine.sA, Mine.sB, Mine.sS, Mine.nth, PySem.Challenge.pw_pg0194_01]; k_is)); (case h17_2 => (dsimp only [Mine.top, Mine.sN, Mine.sA, Mine.sB, Mine.sS, Mine.nth, PySem.Challenge.pw_pg0194_01]; k_is)); (case h17_3 => (dsimp only [Mine.top, Mine.sN, Mine.sA, Mine.sB, Mine.sS, Mine.nth, PySem.Challenge.pw_pg0194_01]; k_is)); (case h17_4 => k_is); (case h17_5 => (intro S a x; rfl)); (case h17_6 => (intro S a x l h; rfl))))
      (case w_hfc => (refine' Mine.FunAt.of ?h18_1 ?h18_2 ?h18_3 ?h18_4; (case h18_1 => (dsimp only [Mine.top, Mine.sN, Mine.sA, Mine.sB, Mine.sS, Mine.nth, PySem.Challenge.pw_pg0194_01]; k_is)); (case h18_2 => (dsimp only [Mine.top, Mine.sN, Mine.sA, Mine.sB, Mine.sS, Mine.nth, PySem.Challenge.pw_pg0194_01]; k_is)); (case h18_3 => (dsimp only [Mine.top, Mine.sN, Mine.sA, Mine.sB, Mine.sS, Mine.nth, PySem.Challenge.pw_pg0194_01]; k_is)); (case h18_4 => k_is)))
      (case w_hL => assumption)
      (case w_hI => assumption)
      (case w_hlen => omega)
      (case w_hm => first | rfl | with_unfolding_all rfl)
      (case w_h1 => exact Eq.trans (by assumption) rfl)
      (case w_h2 => exact Eq.trans (by assumption) rfl)
      (case w_h3 => exact Eq.trans (by assumption) rfl)
      (case w_hdp => decide)
      (case w_hun => decide)
      (case w_pure9 => exact Mine.pure_ok)
      intro h' tk m' nn F' N'
      k_steps)
  case hl =>
    intro w
    kernel_rfl
