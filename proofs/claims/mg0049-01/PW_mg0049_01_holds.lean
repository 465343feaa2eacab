import PyProof.Rows.All
import Wide.All
import OpenK.AllK
import Wide.FinOn
import PyProof.CompFree
import PyProof.WalksPairs
import PyProof.Rows.TupAssign
import PyProof.SliceSyntax
import PyProof.Rows.CallKwBuiltin
import PyProof.Rows.SortShell
import PyProof.Rows.SeqSlice
import PyProof.RulesTry
import PyProof.Raises
import PyProof.CollectIter
import PyProof.RaisesMany
import PyProof.Rows.CatchTuple
import KE.KLam
import PyProof.WalkInts
import PyProof.Rows.SumAny
import PyProof.ListIndexNeg
import KE.KSortAsk
import KE.KSortTup
import PyProof.Rows.Tup
import PyProof.FactsAll.tuple_2
import PyProof.ZipIter
import PyProof.Rows.Range3
import KE.KDictIter
import KE.KMinKey
import PyProof.IsRules
import PyProof.ListTruth
import PyProof.Rows.RuleIs2
import PyProof.Rows.SeqMore
import PyProof.Rows.PlainObj
import PyProof.SliceMore
import Lean
import PySem.Challenge.RW_mg0049_01
set_option Elab.async false
set_option linter.unusedVariables false
set_option compiler.extract_closed false
set_option genSizeOf false
set_option genSizeOfSpec false
set_option genInjectivity false
namespace Mine
section
open _root_.PySem _root_.PySem.W _root_.PySem.W.X PyProof.Rows
set_option maxHeartbeats 8000000
set_option maxRecDepth 100000
theorem holds_late {r : OpenRow} {q : Program} {loose : List Str} {Xt : Shared → Bool} {XP : (Str → Option Value) → Heap → Prop} {α : Type} {Yf : Shared → α} {Ya : World → α} {d : DefRec} {kwd : List (Str × Expr)} {N : Nat}
    (_hl : ∀ w : World, w.params = w.params)
    (hX : ∀ s, Xt s = true → XP (s.heap.nsMap mainGlobals) s.heap) (hXk : ∀ mg h h', XP mg h → (∀ b o, h.get? b = some o → h'.get? b = some o) → XP mg h')
    (hdef : defOf q r.name = some (d, kwd)) (hp : r.prog.theDef r.name = some (d.params, d.body, d.scope)) (hk : kwWritten? d.params.kwonlyargs d.params.kw_defaults = some kwd) (hRf : ∀ s, Xt s = true → RecFacts r.records s.heap) (hwr : (!r.writes || r.records.isEmpty) = true)
    (k1 : r.wellSaid = true) (ok : (chainsOk q && opensWell r.prog && (frees r.toRowW && r.within.isEmpty)) = true) (hb : r.prog.bare) (hw : r.toRowW.promised)
    (call : LeftO r.prog q loose Xt Yf Ya N ∧ WalkX q loose XP Yf Ya r.toRowW d kwd fun f vs => PySem.call f vs) : r.Holds :=
  holds_openX call.1 hX hXk hdef hp hk hRf hwr k1 ok hb hw call.2
local macro_rules | `(tactic| refine PySem.W.holds_openX $as*) => `(tactic| refine Mine.holds_late $as*)
local macro_rules | `(tactic| o_law) => `(tactic| refine holds_law (by kernel_rfl) fun said => ?_)
local macro_rules | `(tactic| k_head) => `(tactic| z_head)
open_top hd for PySem.Challenge.rw_mg0049_01
end
inductive Ex2 {t0 t1 : Type} (P : t0 → t1 → Prop) : Prop | mk (a : t0) (b : t1) (h : P a b) : Ex2 P
inductive Ex3 {t0 t1 t2 : Type} (P : t0 → t1 → t2 → Prop) : Prop | mk (a : t0) (b : t1) (c : t2) (h : P a b c) : Ex3 P
inductive Ex4 {t0 t1 t2 t3 : Type} (P : t0 → t1 → t2 → t3 → Prop) : Prop | mk (a : t0) (b : t1) (c : t2) (d : t3) (h : P a b c d) : Ex4 P
inductive Ex5 {t0 t1 t2 t3 t4 : Type} (P : t0 → t1 → t2 → t3 → t4 → Prop) : Prop | mk (a : t0) (b : t1) (c : t2) (d : t3) (e : t4) (h : P a b c d e) : Ex5 P
inductive Ex6 {t0 t1 t2 t3 t4 t5 : Type} (P : t0 → t1 → t2 → t3 → t4 → t5 → Prop) : Prop | mk (a : t0) (b : t1) (c : t2) (d : t3) (e : t4) (i : t5) (h : P a b c d e i) : Ex6 P
inductive Ex7 {t0 t1 t2 t3 t4 t5 t6 : Type} (P : t0 → t1 → t2 → t3 → t4 → t5 → t6 → Prop) : Prop | mk (a : t0) (b : t1) (c : t2) (d : t3) (e : t4) (i : t5) (j : t6) (h : P a b c d e i j) : Ex7 P
inductive Ex8 {t0 t1 t2 t3 t4 t5 t6 t7 : Type} (P : t0 → t1 → t2 → t3 → t4 → t5 → t6 → t7 → Prop) : Prop | mk (a : t0) (b : t1) (c : t2) (d : t3) (e : t4) (i : t5) (j : t6) (l : t7) (h : P a b c d e i j l) : Ex8 P
inductive Ex9 {t0 t1 t2 t3 t4 t5 t6 t7 t8 : Type} (P : t0 → t1 → t2 → t3 → t4 → t5 → t6 → t7 → t8 → Prop) : Prop | mk (a : t0) (b : t1) (c : t2) (d : t3) (e : t4) (i : t5) (j : t6) (l : t7) (m : t8) (h : P a b c d e i j l m) : Ex9 P
inductive Ex10 {t0 t1 t2 t3 t4 t5 t6 t7 t8 t9 : Type} (P : t0 → t1 → t2 → t3 → t4 → t5 → t6 → t7 → t8 → t9 → Prop) : Prop | mk (a : t0) (b : t1) (c : t2) (d : t3) (e : t4) (i : t5) (j : t6) (l : t7) (m : t8) (n : t9) (h : P a b c d e i j l m n) : Ex10 P
section
variable {G : Prop} {S : Sort _} {s : S} {F : S → Prop} {P0 P1 P2 P3 P4 P5 P6 P7 P8 P9 P10 P11 : Prop} {T : S}
theorem rx0_1 (h : s = T ∧ P0) (q : P0 → F T) : F s := @Eq.subst _ F _ _ h.1.symm (q h.2)
theorem x0_2 (h : P0 ∧ P1) (q : P0 → P1 → G) : G := q h.1 h.2
theorem x0_3 (h : P0 ∧ P1 ∧ P2) (q : P0 → P1 → P2 → G) : G := q h.1 h.2.1 h.2.2
theorem x0_4 (h : P0 ∧ P1 ∧ P2 ∧ P3) (q : P0 → P1 → P2 → P3 → G) : G := q h.1 h.2.1 h.2.2.1 h.2.2.2
theorem x0_5 (h : P0 ∧ P1 ∧ P2 ∧ P3 ∧ P4) (q : P0 → P1 → P2 → P3 → P4 → G) : G := q h.1 h.2.1 h.2.2.1 h.2.2.2.1 h.2.2.2.2
theorem x0_6 (h : P0 ∧ P1 ∧ P2 ∧ P3 ∧ P4 ∧ P5) (q : P0 → P1 → P2 → P3 → P4 → P5 → G) : G := q h.1 h.2.1 h.2.2.1 h.2.2.2.1 h.2.2.2.2.1 h.2.2.2.2.2
theorem x0_7 (h : P0 ∧ P1 ∧ P2 ∧ P3 ∧ P4 ∧ P5 ∧ P6) (q : P0 → P1 → P2 → P3 → P4 → P5 → P6 → G) : G := q h.1 h.2.1 h.2.2.1 h.2.2.2.1 h.2.2.2.2.1 h.2.2.2.2.2.1 h.2.2.2.2.2.2
theorem x0_10 (h : P0 ∧ P1 ∧ P2 ∧ P3 ∧ P4 ∧ P5 ∧ P6 ∧ P7 ∧ P8 ∧ P9) (q : P0 → P1 → P2 → P3 → P4 → P5 → P6 → P7 → P8 → P9 → G) : G := q h.1 h.2.1 h.2.2.1 h.2.2.2.1 h.2.2.2.2.1 h.2.2.2.2.2.1 h.2.2.2.2.2.2.1 h.2.2.2.2.2.2.2.1 h.2.2.2.2.2.2.2.2.1 h.2.2.2.2.2.2.2.2.2
theorem x0_12 (h : P0 ∧ P1 ∧ P2 ∧ P3 ∧ P4 ∧ P5 ∧ P6 ∧ P7 ∧ P8 ∧ P9 ∧ P10 ∧ P11) (q : P0 → P1 → P2 → P3 → P4 → P5 → P6 → P7 → P8 → P9 → P10 → P11 → G) : G := q h.1 h.2.1 h.2.2.1 h.2.2.2.1 h.2.2.2.2.1 h.2.2.2.2.2.1 h.2.2.2.2.2.2.1 h.2.2.2.2.2.2.2.1 h.2.2.2.2.2.2.2.2.1 h.2.2.2.2.2.2.2.2.2.1 h.2.2.2.2.2.2.2.2.2.2.1 h.2.2.2.2.2.2.2.2.2.2.2
end
section
variable {G : Prop} {S : Sort _} {s : S} {F : S → Prop} {t0 : Sort _} {P0 P1 P2 P3 P4 P5 : t0 → Prop} {T : t0 → S}
theorem rx1_0 (h : ∃ a, s = T a) (q : ∀ a, F (T a)) : F s := h.elim fun a h => @Eq.subst _ F _ _ h.symm (q a)
theorem x1_1 (h : ∃ a, P0 a) (q : ∀ a, P0 a → G) : G := h.elim fun a h => q a h
theorem rx1_1 (h : ∃ a, s = T a ∧ P0 a) (q : ∀ a, P0 a → F (T a)) : F s := h.elim fun a h => @Eq.subst _ F _ _ h.1.symm (q a h.2)
theorem x1_2 (h : ∃ a, P0 a ∧ P1 a) (q : ∀ a, P0 a → P1 a → G) : G := h.elim fun a h => q a h.1 h.2
theorem rx1_2 (h : ∃ a, s = T a ∧ P0 a ∧ P1 a) (q : ∀ a, P0 a → P1 a → F (T a)) : F s := h.elim fun a h => @Eq.subst _ F _ _ h.1.symm (q a h.2.1 h.2.2)
theorem x1_3 (h : ∃ a, P0 a ∧ P1 a ∧ P2 a) (q : ∀ a, P0 a → P1 a → P2 a → G) : G := h.elim fun a h => q a h.1 h.2.1 h.2.2
theorem x1_4 (h : ∃ a, P0 a ∧ P1 a ∧ P2 a ∧ P3 a) (q : ∀ a, P0 a → P1 a → P2 a → P3 a → G) : G := h.elim fun a h => q a h.1 h.2.1 h.2.2.1 h.2.2.2
theorem x1_5 (h : ∃ a, P0 a ∧ P1 a ∧ P2 a ∧ P3 a ∧ P4 a) (q : ∀ a, P0 a → P1 a → P2 a → P3 a → P4 a → G) : G := h.elim fun a h => q a h.1 h.2.1 h.2.2.1 h.2.2.2.1 h.2.2.2.2
theorem x1_6 (h : ∃ a, P0 a ∧ P1 a ∧ P2 a ∧ P3 a ∧ P4 a ∧ P5 a) (q : ∀ a, P0 a → P1 a → P2 a → P3 a → P4 a → P5 a → G) : G := h.elim fun a h => q a h.1 h.2.1 h.2.2.1 h.2.2.2.1 h.2.2.2.2.1 h.2.2.2.2.2
end
section
variable {G : Prop} {S : Sort _} {s : S} {F : S → Prop} {t0 t1 : Sort _} {P0 P1 P2 P3 P4 P5 P6 P7 : t0 → t1 → Prop} {T : t0 → t1 → S}
theorem x2_1 (h : ∃ a, ∃ b, P0 a b) (q : ∀ a b, P0 a b → G) : G := h.elim fun a h => h.elim fun b h => q a b h
theorem x2_3 (h : ∃ a, ∃ b, P0 a b ∧ P1 a b ∧ P2 a b) (q : ∀ a b, P0 a b → P1 a b → P2 a b → G) : G := h.elim fun a h => h.elim fun b h => q a b h.1 h.2.1 h.2.2
theorem x2_8 (h : ∃ a, ∃ b, P0 a b ∧ P1 a b ∧ P2 a b ∧ P3 a b ∧ P4 a b ∧ P5 a b ∧ P6 a b ∧ P7 a b) (q : ∀ a b, P0 a b → P1 a b → P2 a b → P3 a b → P4 a b → P5 a b → P6 a b → P7 a b → G) : G := h.elim fun a h => h.elim fun b h => q a b h.1 h.2.1 h.2.2.1 h.2.2.2.1 h.2.2.2.2.1 h.2.2.2.2.2.1 h.2.2.2.2.2.2.1 h.2.2.2.2.2.2.2
end
section
variable {G : Prop} {S : Sort _} {s : S} {F : S → Prop} {t0 t1 : Type} {P0 P1 P2 P3 P4 : t0 → t1 → Prop} {T : t0 → t1 → S}
theorem ry2_0 (h : Ex2 fun a b => s = T a b) (q : ∀ a b, F (T a b)) : F s := h.casesOn fun a b h => @Eq.subst _ F _ _ h.symm (q a b)
theorem y2_1 (h : Ex2 fun a b => P0 a b) (q : ∀ a b, P0 a b → G) : G := h.casesOn fun a b h => q a b h
theorem y2_2 (h : Ex2 fun a b => P0 a b ∧ P1 a b) (q : ∀ a b, P0 a b → P1 a b → G) : G := h.casesOn fun a b h => q a b h.1 h.2
theorem ry2_2 (h : Ex2 fun a b => s = T a b ∧ P0 a b ∧ P1 a b) (q : ∀ a b, P0 a b → P1 a b → F (T a b)) : F s := h.casesOn fun a b h => @Eq.subst _ F _ _ h.1.symm (q a b h.2.1 h.2.2)
theorem y2_3 (h : Ex2 fun a b => P0 a b ∧ P1 a b ∧ P2 a b) (q : ∀ a b, P0 a b → P1 a b → P2 a b → G) : G := h.casesOn fun a b h => q a b h.1 h.2.1 h.2.2
theorem ry2_3 (h : Ex2 fun a b => s = T a b ∧ P0 a b ∧ P1 a b ∧ P2 a b) (q : ∀ a b, P0 a b → P1 a b → P2 a b → F (T a b)) : F s := h.casesOn fun a b h => @Eq.subst _ F _ _ h.1.symm (q a b h.2.1 h.2.2.1 h.2.2.2)
theorem y2_4 (h : Ex2 fun a b => P0 a b ∧ P1 a b ∧ P2 a b ∧ P3 a b) (q : ∀ a b, P0 a b → P1 a b → P2 a b → P3 a b → G) : G := h.casesOn fun a b h => q a b h.1 h.2.1 h.2.2.1 h.2.2.2
theorem ry2_4 (h : Ex2 fun a b => s = T a b ∧ P0 a b ∧ P1 a b ∧ P2 a b ∧ P3 a b) (q : ∀ a b, P0 a b → P1 a b → P2 a b → P3 a b → F (T a b)) : F s := h.casesOn fun a b h => @Eq.subst _ F _ _ h.1.symm (q a b h.2.1 h.2.2.1 h.2.2.2.1 h.2.2.2.2)
theorem y2_5 (h : Ex2 fun a b => P0 a b ∧ P1 a b ∧ P2 a b ∧ P3 a b ∧ P4 a b) (q : ∀ a b, P0 a b → P1 a b → P2 a b → P3 a b → P4 a b → G) : G := h.casesOn fun a b h => q a b h.1 h.2.1 h.2.2.1 h.2.2.2.1 h.2.2.2.2
end
section
variable {G : Prop} {S : Sort _} {s : S} {F : S → Prop} {t0 t1 t2 : Sort _} {P0 P1 P2 P3 : t0 → t1 → t2 → Prop} {T : t0 → t1 → t2 → S}
theorem x3_2 (h : ∃ a, ∃ b, ∃ c, P0 a b c ∧ P1 a b c) (q : ∀ a b c, P0 a b c → P1 a b c → G) : G := h.elim fun a h => h.elim fun b h => h.elim fun c h => q a b c h.1 h.2
theorem x3_3 (h : ∃ a, ∃ b, ∃ c, P0 a b c ∧ P1 a b c ∧ P2 a b c) (q : ∀ a b c, P0 a b c → P1 a b c → P2 a b c → G) : G := h.elim fun a h => h.elim fun b h => h.elim fun c h => q a b c h.1 h.2.1 h.2.2
theorem x3_4 (h : ∃ a, ∃ b, ∃ c, P0 a b c ∧ P1 a b c ∧ P2 a b c ∧ P3 a b c) (q : ∀ a b c, P0 a b c → P1 a b c → P2 a b c → P3 a b c → G) : G := h.elim fun a h => h.elim fun b h => h.elim fun c h => q a b c h.1 h.2.1 h.2.2.1 h.2.2.2
end
section
variable {G : Prop} {S : Sort _} {s : S} {F : S → Prop} {t0 t1 t2 : Type} {P0 P1 P2 P3 P4 : t0 → t1 → t2 → Prop} {T : t0 → t1 → t2 → S}
theorem ry3_0 (h : Ex3 fun a b c => s = T a b c) (q : ∀ a b c, F (T a b c)) : F s := h.casesOn fun a b c h => @Eq.subst _ F _ _ h.symm (q a b c)
theorem y3_1 (h : Ex3 fun a b c => P0 a b c) (q : ∀ a b c, P0 a b c → G) : G := h.casesOn fun a b c h => q a b c h
theorem ry3_1 (h : Ex3 fun a b c => s = T a b c ∧ P0 a b c) (q : ∀ a b c, P0 a b c → F (T a b c)) : F s := h.casesOn fun a b c h => @Eq.subst _ F _ _ h.1.symm (q a b c h.2)
theorem y3_2 (h : Ex3 fun a b c => P0 a b c ∧ P1 a b c) (q : ∀ a b c, P0 a b c → P1 a b c → G) : G := h.casesOn fun a b c h => q a b c h.1 h.2
theorem ry3_2 (h : Ex3 fun a b c => s = T a b c ∧ P0 a b c ∧ P1 a b c) (q : ∀ a b c, P0 a b c → P1 a b c → F (T a b c)) : F s := h.casesOn fun a b c h => @Eq.subst _ F _ _ h.1.symm (q a b c h.2.1 h.2.2)
theorem y3_3 (h : Ex3 fun a b c => P0 a b c ∧ P1 a b c ∧ P2 a b c) (q : ∀ a b c, P0 a b c → P1 a b c → P2 a b c → G) : G := h.casesOn fun a b c h => q a b c h.1 h.2.1 h.2.2
theorem ry3_3 (h : Ex3 fun a b c => s = T a b c ∧ P0 a b c ∧ P1 a b c ∧ P2 a b c) (q : ∀ a b c, P0 a b c → P1 a b c → P2 a b c → F (T a b c)) : F s := h.casesOn fun a b c h => @Eq.subst _ F _ _ h.1.symm (q a b c h.2.1 h.2.2.1 h.2.2.2)
theorem y3_4 (h : Ex3 fun a b c => P0 a b c ∧ P1 a b c ∧ P2 a b c ∧ P3 a b c) (q : ∀ a b c, P0 a b c → P1 a b c → P2 a b c → P3 a b c → G) : G := h.casesOn fun a b c h => q a b c h.1 h.2.1 h.2.2.1 h.2.2.2
theorem y3_5 (h : Ex3 fun a b c => P0 a b c ∧ P1 a b c ∧ P2 a b c ∧ P3 a b c ∧ P4 a b c) (q : ∀ a b c, P0 a b c → P1 a b c → P2 a b c → P3 a b c → P4 a b c → G) : G := h.casesOn fun a b c h => q a b c h.1 h.2.1 h.2.2.1 h.2.2.2.1 h.2.2.2.2
end
section
variable {G : Prop} {S : Sort _} {s : S} {F : S → Prop} {t0 t1 t2 t3 : Sort _} {P0 P1 P2 : t0 → t1 → t2 → t3 → Prop} {T : t0 → t1 → t2 → t3 → S}
theorem x4_1 (h : ∃ a, ∃ b, ∃ c, ∃ d, P0 a b c d) (q : ∀ a b c d, P0 a b c d → G) : G := h.elim fun a h => h.elim fun b h => h.elim fun c h => h.elim fun d h => q a b c d h
theorem x4_3 (h : ∃ a, ∃ b, ∃ c, ∃ d, P0 a b c d ∧ P1 a b c d ∧ P2 a b c d) (q : ∀ a b c d, P0 a b c d → P1 a b c d → P2 a b c d → G) : G := h.elim fun a h => h.elim fun b h => h.elim fun c h => h.elim fun d h => q a b c d h.1 h.2.1 h.2.2
end
section
variable {G : Prop} {S : Sort _} {s : S} {F : S → Prop} {t0 t1 t2 t3 : Type} {P0 P1 P2 P3 P4 P5 : t0 → t1 → t2 → t3 → Prop} {T : t0 → t1 → t2 → t3 → S}
theorem ry4_1 (h : Ex4 fun a b c d => s = T a b c d ∧ P0 a b c d) (q : ∀ a b c d, P0 a b c d → F (T a b c d)) : F s := h.casesOn fun a b c d h => @Eq.subst _ F _ _ h.1.symm (q a b c d h.2)
theorem ry4_2 (h : Ex4 fun a b c d => s = T a b c d ∧ P0 a b c d ∧ P1 a b c d) (q : ∀ a b c d, P0 a b c d → P1 a b c d → F (T a b c d)) : F s := h.casesOn fun a b c d h => @Eq.subst _ F _ _ h.1.symm (q a b c d h.2.1 h.2.2)
theorem ry4_3 (h : Ex4 fun a b c d => s = T a b c d ∧ P0 a b c d ∧ P1 a b c d ∧ P2 a b c d) (q : ∀ a b c d, P0 a b c d → P1 a b c d → P2 a b c d → F (T a b c d)) : F s := h.casesOn fun a b c d h => @Eq.subst _ F _ _ h.1.symm (q a b c d h.2.1 h.2.2.1 h.2.2.2)
theorem y4_5 (h : Ex4 fun a b c d => P0 a b c d ∧ P1 a b c d ∧ P2 a b c d ∧ P3 a b c d ∧ P4 a b c d) (q : ∀ a b c d, P0 a b c d → P1 a b c d → P2 a b c d → P3 a b c d → P4 a b c d → G) : G := h.casesOn fun a b c d h => q a b c d h.1 h.2.1 h.2.2.1 h.2.2.2.1 h.2.2.2.2
theorem y4_6 (h : Ex4 fun a b c d => P0 a b c d ∧ P1 a b c d ∧ P2 a b c d ∧ P3 a b c d ∧ P4 a b c d ∧ P5 a b c d) (q : ∀ a b c d, P0 a b c d → P1 a b c d → P2 a b c d → P3 a b c d → P4 a b c d → P5 a b c d → G) : G := h.casesOn fun a b c d h => q a b c d h.1 h.2.1 h.2.2.1 h.2.2.2.1 h.2.2.2.2.1 h.2.2.2.2.2
end
section
variable {G : Prop} {S : Sort _} {s : S} {F : S → Prop} {t0 t1 t2 t3 t4 : Sort _} {P0 P1 P2 P3 P4 P5 P6 P7 P8 : t0 → t1 → t2 → t3 → t4 → Prop} {T : t0 → t1 → t2 → t3 → t4 → S}
theorem x5_9 (h : ∃ a, ∃ b, ∃ c, ∃ d, ∃ e, P0 a b c d e ∧ P1 a b c d e ∧ P2 a b c d e ∧ P3 a b c d e ∧ P4 a b c d e ∧ P5 a b c d e ∧ P6 a b c d e ∧ P7 a b c d e ∧ P8 a b c d e) (q : ∀ a b c d e, P0 a b c d e → P1 a b c d e → P2 a b c d e → P3 a b c d e → P4 a b c d e → P5 a b c d e → P6 a b c d e → P7 a b c d e → P8 a b c d e → G) : G := h.elim fun a h => h.elim fun b h => h.elim fun c h => h.elim fun d h => h.elim fun e h => q a b c d e h.1 h.2.1 h.2.2.1 h.2.2.2.1 h.2.2.2.2.1 h.2.2.2.2.2.1 h.2.2.2.2.2.2.1 h.2.2.2.2.2.2.2.1 h.2.2.2.2.2.2.2.2
end
section
variable {G : Prop} {S : Sort _} {s : S} {F : S → Prop} {t0 t1 t2 t3 t4 : Type} {P0 P1 P2 : t0 → t1 → t2 → t3 → t4 → Prop} {T : t0 → t1 → t2 → t3 → t4 → S}
theorem ry5_1 (h : Ex5 fun a b c d e => s = T a b c d e ∧ P0 a b c d e) (q : ∀ a b c d e, P0 a b c d e → F (T a b c d e)) : F s := h.casesOn fun a b c d e h => @Eq.subst _ F _ _ h.1.symm (q a b c d e h.2)
theorem y5_2 (h : Ex5 fun a b c d e => P0 a b c d e ∧ P1 a b c d e) (q : ∀ a b c d e, P0 a b c d e → P1 a b c d e → G) : G := h.casesOn fun a b c d e h => q a b c d e h.1 h.2
theorem ry5_2 (h : Ex5 fun a b c d e => s = T a b c d e ∧ P0 a b c d e ∧ P1 a b c d e) (q : ∀ a b c d e, P0 a b c d e → P1 a b c d e → F (T a b c d e)) : F s := h.casesOn fun a b c d e h => @Eq.subst _ F _ _ h.1.symm (q a b c d e h.2.1 h.2.2)
theorem y5_3 (h : Ex5 fun a b c d e => P0 a b c d e ∧ P1 a b c d e ∧ P2 a b c d e) (q : ∀ a b c d e, P0 a b c d e → P1 a b c d e → P2 a b c d e → G) : G := h.casesOn fun a b c d e h => q a b c d e h.1 h.2.1 h.2.2
end
section
variable {G : Prop} {S : Sort _} {s : S} {F : S → Prop} {t0 t1 t2 t3 t4 t5 : Type} {P0 P1 P2 P3 P4 P5 : t0 → t1 → t2 → t3 → t4 → t5 → Prop} {T : t0 → t1 → t2 → t3 → t4 → t5 → S}
theorem y6_3 (h : Ex6 fun a b c d e i => P0 a b c d e i ∧ P1 a b c d e i ∧ P2 a b c d e i) (q : ∀ a b c d e i, P0 a b c d e i → P1 a b c d e i → P2 a b c d e i → G) : G := h.casesOn fun a b c d e i h => q a b c d e i h.1 h.2.1 h.2.2
theorem ry6_3 (h : Ex6 fun a b c d e i => s = T a b c d e i ∧ P0 a b c d e i ∧ P1 a b c d e i ∧ P2 a b c d e i) (q : ∀ a b c d e i, P0 a b c d e i → P1 a b c d e i → P2 a b c d e i → F (T a b c d e i)) : F s := h.casesOn fun a b c d e i h => @Eq.subst _ F _ _ h.1.symm (q a b c d e i h.2.1 h.2.2.1 h.2.2.2)
theorem y6_6 (h : Ex6 fun a b c d e i => P0 a b c d e i ∧ P1 a b c d e i ∧ P2 a b c d e i ∧ P3 a b c d e i ∧ P4 a b c d e i ∧ P5 a b c d e i) (q : ∀ a b c d e i, P0 a b c d e i → P1 a b c d e i → P2 a b c d e i → P3 a b c d e i → P4 a b c d e i → P5 a b c d e i → G) : G := h.casesOn fun a b c d e i h => q a b c d e i h.1 h.2.1 h.2.2.1 h.2.2.2.1 h.2.2.2.2.1 h.2.2.2.2.2
end
section
variable {G : Prop} {S : Sort _} {s : S} {F : S → Prop} {t0 t1 t2 t3 t4 t5 t6 : Type} {P0 P1 P2 P3 P4 P5 P6 : t0 → t1 → t2 → t3 → t4 → t5 → t6 → Prop} {T : t0 → t1 → t2 → t3 → t4 → t5 → t6 → S}
theorem ry7_0 (h : Ex7 fun a b c d e i j => s = T a b c d e i j) (q : ∀ a b c d e i j, F (T a b c d e i j)) : F s := h.casesOn fun a b c d e i j h => @Eq.subst _ F _ _ h.symm (q a b c d e i j)
theorem y7_2 (h : Ex7 fun a b c d e i j => P0 a b c d e i j ∧ P1 a b c d e i j) (q : ∀ a b c d e i j, P0 a b c d e i j → P1 a b c d e i j → G) : G := h.casesOn fun a b c d e i j h => q a b c d e i j h.1 h.2
theorem y7_6 (h : Ex7 fun a b c d e i j => P0 a b c d e i j ∧ P1 a b c d e i j ∧ P2 a b c d e i j ∧ P3 a b c d e i j ∧ P4 a b c d e i j ∧ P5 a b c d e i j) (q : ∀ a b c d e i j, P0 a b c d e i j → P1 a b c d e i j → P2 a b c d e i j → P3 a b c d e i j → P4 a b c d e i j → P5 a b c d e i j → G) : G := h.casesOn fun a b c d e i j h => q a b c d e i j h.1 h.2.1 h.2.2.1 h.2.2.2.1 h.2.2.2.2.1 h.2.2.2.2.2
theorem y7_7 (h : Ex7 fun a b c d e i j => P0 a b c d e i j ∧ P1 a b c d e i j ∧ P2 a b c d e i j ∧ P3 a b c d e i j ∧ P4 a b c d e i j ∧ P5 a b c d e i j ∧ P6 a b c d e i j) (q : ∀ a b c d e i j, P0 a b c d e i j → P1 a b c d e i j → P2 a b c d e i j → P3 a b c d e i j → P4 a b c d e i j → P5 a b c d e i j → P6 a b c d e i j → G) : G := h.casesOn fun a b c d e i j h => q a b c d e i j h.1 h.2.1 h.2.2.1 h.2.2.2.1 h.2.2.2.2.1 h.2.2.2.2.2.1 h.2.2.2.2.2.2
end
section
variable {G : Prop} {S : Sort _} {s : S} {F : S → Prop} {t0 t1 t2 t3 t4 t5 t6 t7 : Type} {P0 P1 : t0 → t1 → t2 → t3 → t4 → t5 → t6 → t7 → Prop} {T : t0 → t1 → t2 → t3 → t4 → t5 → t6 → t7 → S}
theorem ry8_2 (h : Ex8 fun a b c d e i j l => s = T a b c d e i j l ∧ P0 a b c d e i j l ∧ P1 a b c d e i j l) (q : ∀ a b c d e i j l, P0 a b c d e i j l → P1 a b c d e i j l → F (T a b c d e i j l)) : F s := h.casesOn fun a b c d e i j l h => @Eq.subst _ F _ _ h.1.symm (q a b c d e i j l h.2.1 h.2.2)
end
section
variable {G : Prop} {S : Sort _} {s : S} {F : S → Prop} {t0 t1 t2 t3 t4 t5 t6 t7 t8 : Type} {P0 P1 P2 P3 P4 P5 P6 P7 P8 P9 : t0 → t1 → t2 → t3 → t4 → t5 → t6 → t7 → t8 → Prop} {T : t0 → t1 → t2 → t3 → t4 → t5 → t6 → t7 → t8 → S}
theorem ry9_3 (h : Ex9 fun a b c d e i j l m => s = T a b c d e i j l m ∧ P0 a b c d e i j l m ∧ P1 a b c d e i j l m ∧ P2 a b c d e i j l m) (q : ∀ a b c d e i j l m, P0 a b c d e i j l m → P1 a b c d e i j l m → P2 a b c d e i j l m → F (T a b c d e i j l m)) : F s := h.casesOn fun a b c d e i j l m h => @Eq.subst _ F _ _ h.1.symm (q a b c d e i j l m h.2.1 h.2.2.1 h.2.2.2)
theorem y9_10 (h : Ex9 fun a b c d e i j l m => P0 a b c d e i j l m ∧ P1 a b c d e i j l m ∧ P2 a b c d e i j l m ∧ P3 a b c d e i j l m ∧ P4 a b c d e i j l m ∧ P5 a b c d e i j l m ∧ P6 a b c d e i j l m ∧ P7 a b c d e i j l m ∧ P8 a b c d e i j l m ∧ P9 a b c d e i j l m) (q : ∀ a b c d e i j l m, P0 a b c d e i j l m → P1 a b c d e i j l m → P2 a b c d e i j l m → P3 a b c d e i j l m → P4 a b c d e i j l m → P5 a b c d e i j l m → P6 a b c d e i j l m → P7 a b c d e i j l m → P8 a b c d e i j l m → P9 a b c d e i j l m → G) : G := h.casesOn fun a b c d e i j l m h => q a b c d e i j l m h.1 h.2.1 h.2.2.1 h.2.2.2.1 h.2.2.2.2.1 h.2.2.2.2.2.1 h.2.2.2.2.2.2.1 h.2.2.2.2.2.2.2.1 h.2.2.2.2.2.2.2.2.1 h.2.2.2.2.2.2.2.2.2
end
section
variable {G : Prop} {S : Sort _} {s : S} {F : S → Prop} {t0 t1 t2 t3 t4 t5 t6 t7 t8 t9 : Sort _} {P0 P1 P2 P3 P4 P5 P6 P7 P8 P9 P10 : t0 → t1 → t2 → t3 → t4 → t5 → t6 → t7 → t8 → t9 → Prop} {T : t0 → t1 → t2 → t3 → t4 → t5 → t6 → t7 → t8 → t9 → S}
theorem x10_11 (h : ∃ a, ∃ b, ∃ c, ∃ d, ∃ e, ∃ i, ∃ j, ∃ l, ∃ m, ∃ n, P0 a b c d e i j l m n ∧ P1 a b c d e i j l m n ∧ P2 a b c d e i j l m n ∧ P3 a b c d e i j l m n ∧ P4 a b c d e i j l m n ∧ P5 a b c d e i j l m n ∧ P6 a b c d e i j l m n ∧ P7 a b c d e i j l m n ∧ P8 a b c d e i j l m n ∧ P9 a b c d e i j l m n ∧ P10 a b c d e i j l m n) (q : ∀ a b c d e i j l m n, P0 a b c d e i j l m n → P1 a b c d e i j l m n → P2 a b c d e i j l m n → P3 a b c d e i j l m n → P4 a b c d e i j l m n → P5 a b c d e i j l m n → P6 a b c d e i j l m n → P7 a b c d e i j l m n → P8 a b c d e i j l m n → P9 a b c d e i j l m n → P10 a b c d e i j l m n → G) : G := h.elim fun a h => h.elim fun b h => h.elim fun c h => h.elim fun d h => h.elim fun e h => h.elim fun i h => h.elim fun j h => h.elim fun l h => h.elim fun m h => h.elim fun n h => q a b c d e i j l m n h.1 h.2.1 h.2.2.1 h.2.2.2.1 h.2.2.2.2.1 h.2.2.2.2.2.1 h.2.2.2.2.2.2.1 h.2.2.2.2.2.2.2.1 h.2.2.2.2.2.2.2.2.1 h.2.2.2.2.2.2.2.2.2.1 h.2.2.2.2.2.2.2.2.2.2
end
section
variable {G : Prop} {S : Sort _} {s : S} {F : S → Prop} {t0 t1 t2 t3 t4 t5 t6 t7 t8 t9 : Type} {P0 P1 P2 P3 : t0 → t1 → t2 → t3 → t4 → t5 → t6 → t7 → t8 → t9 → Prop} {T : t0 → t1 → t2 → t3 → t4 → t5 → t6 → t7 → t8 → t9 → S}
theorem ry10_4 (h : Ex10 fun a b c d e i j l m n => s = T a b c d e i j l m n ∧ P0 a b c d e i j l m n ∧ P1 a b c d e i j l m n ∧ P2 a b c d e i j l m n ∧ P3 a b c d e i j l m n) (q : ∀ a b c d e i j l m n, P0 a b c d e i j l m n → P1 a b c d e i j l m n → P2 a b c d e i j l m n → P3 a b c d e i j l m n → F (T a b c d e i j l m n)) : F s := h.casesOn fun a b c d e i j l m n h => @Eq.subst _ F _ _ h.1.symm (q a b c d e i j l m n h.2.1 h.2.2.1 h.2.2.2.1 h.2.2.2.2)
end
theorem nope {α : Type} {p : α} {P : Prop} (h : (none : Option α) = some p) : P := nomatch h
theorem nopf {α : Type} {p : α} {P : Prop} (h : some p = (none : Option α)) : P := nomatch h
theorem nft {P : Prop} (h : false = true) : P := nomatch h
theorem ntf {P : Prop} (h : true = false) : P := nomatch h
theorem leK {a m k n : Nat} (h : a ≤ m) (e : m + k ≤ n) : a + k ≤ n := Nat.le_trans (Nat.add_le_add_right h k) e
theorem leL {a m n : Nat} (h : a < m) (e : m ≤ n) : a ≤ n := Nat.le_trans (Nat.le_of_lt h) e
section
open Lean
def mcK (w : String) : Name := if w.isEmpty then `null else if w.front == '!' then (w.drop 1).toString.toName else `Lean.Parser ++ w.toName
def mcG (as : Array Syntax) (st : List (Name × Array Syntax)) (w : String) : List (Name × Array Syntax) :=
  let t := (w.drop 1).toString
  let c := w.front
  let p := st.headD (.anonymous, #[])
  let r := st.tail
  let q := r.headD (.anonymous, #[])
  if c == '{' then (mcK t, #[]) :: st
  else if c == '}' then (q.1, q.2.push (.node .none p.1 p.2)) :: r.tail
  else (p.1, p.2.push (if c == '$' then as.getD (w.back.toNat - 48) .missing else if c == '%' then mkIdent t.toName else mkAtom w)) :: r
def mc (s : String) (as : Array Syntax) : Syntax := (((s.splitOn " ").foldl (mcG as) [(.anonymous, #[])]).headD (.anonymous, #[])).2.getD 0 .missing
def mcs (a : Array Syntax) (s : String) : Syntax := Syntax.mkSep a (mkAtom s)
def mcQ (a : Array Syntax) : Syntax := mc "{Tactic.tacticSeq {Tactic.tacticSeq1Indented $0 } }" #[mcs a ";"]
def mc1 (s : String) (as : Array Syntax) : Syntax := mcQ #[mc s as]
def mcP (a : Array Syntax) : Syntax := mc "{Tactic.paren ( $0 ) }" #[mcQ a]
def mcR (a : Array Syntax) : Syntax := mc "{Tactic.withReducible with_reducible $0 }" #[mcQ a]
def mcF (a : Array Syntax) : Syntax := mc "{Tactic.first first $0 }" #[mkNullNode (a.map fun q => mc "{!group | $0 }" #[q])]
def mcI (s : String) : Syntax := mkIdent s.toName
def mcFl : Syntax := mc1 "{Tactic.fail fail { } }" #[]
def mcH : Syntax := mc "{Term.hole _ }" #[]
def mcIn (a : Array Syntax) : Syntax := mc "{Tactic.intro intro $0 }" #[mkNullNode a]
def mcE (w : String) (as : Array Syntax) : Syntax := if as.isEmpty then mc1 "{Tactic.exact exact $0 }" #[mcI w] else mc1 "{Tactic.exact exact {Term.app $0 $1 } }" #[mcI w, mkNullNode as]
def mcB (s : String) : Syntax := mc "{Term.byTactic by $0 }" #[mc1 s #[]]
def mcA : String := "{Tactic.assumption assumption }"
def mcD : String := "{Tactic.decide decide {Tactic.optConfig { } } }"
def mcW (s : String) : Syntax := mcQ #[mc "{!PyProof.Rows.tacticWalk_at_ walk_at $0 }" #[Syntax.mkStrLit s]]
def mcCl (s : String) (h : Syntax) : Syntax := if h.isIdent then mc s #[mc1 "{Tactic.clear clear { $0 } }" #[h]] else mc "{Tactic.skip skip }" #[]
def mcTC (h : Syntax) : Syntax := mcCl "{Tactic.tacticTry_ try $0 }" h
def mcO (p h : Syntax) : Syntax := mc "{Tactic.obtain obtain { $0 } { } { := { $1 } } }" #[p, h]
def mcM (a : Array Syntax) : Syntax := mc "{Tactic.rcasesPatMed $0 }" #[mcs a "|"]
def mcT (a : Array Syntax) : Syntax := mcM #[mc "{Tactic.rcasesPat.tuple ⟨ $0 ⟩ }" #[mcs a ","]]
def mcRc (e m : Syntax) : Syntax := mc "{Tactic.rcases rcases { {Tactic.elimTarget { } $0 } } { with {Tactic.rcasesPatLo $1 { } } } }" #[e, m]
def mcRK (s : String) (q : Syntax) : Bool := q.isOfKind (mcK ("Tactic.rcasesPat." ++ s))
def mcOne (q : Syntax) : Bool := mcRK "one" q && q[0].getId != `rfl
def mcS (q m h : Syntax) : Syntax := if mcRK "clear" q then mcTC h else mcO m h
def mcOH (ps : Array Syntax) (rf : Bool) (k n : Nat) (s : Array Syntax × Array Syntax) (i : Nat) : Array Syntax × Array Syntax :=
  let p := ps.getD i .missing
  let q := p[0][0][0]
  let h := mkIdent (.mkSimple ("hZ" ++ toString i))
  if rf && i == k then s
  else if n < ps.size && i + 1 == n then (s.1.push h, s.2.push (mcO (mcT (ps.extract i ps.size)) h))
  else if mcOne q then (s.1.push q[0], s.2)
  else if mcRK "ignore" q then (s.1.push mcH, s.2)
  else (s.1.push h, s.2.push (mcS q p[0] h))
def mcOG (ps : Array Syntax) (rf : Bool) (k n : Nat) : Array Syntax :=
  let s := (List.range n).foldl (mcOH ps rf k n) (#[], #[])
  if s.1.isEmpty then s.2 else #[mcIn s.1] ++ s.2
def mcCat (f : Nat → Array Syntax) (n : Nat) : Array Syntax := (List.range n).foldl (fun a i => a ++ f i) #[]
def mcOA (ps : Array Syntax) (e : Syntax) (st : Nat) : Array Syntax :=
  let n := ps.size
  mcCat (fun kk => mcCat (fun mm =>
    let k := n - kk
    let m := kk - mm
    if k ≤ 13 && m ≥ 1 && k + m ≥ 2 && ((st == 0) == (m == kk) || st == 2) then
      let go (rf : Bool) (y : String) : Syntax :=
        let t := #[mc (if rf then "{Tactic.apply apply {Term.app $0 { $1 } } }" else "{Tactic.refine refine {Term.app $0 { $1 {Term.syntheticHole ? _ } } } }") #[mcI ((if rf then "r" else "") ++ y ++ toString k ++ "_" ++ toString (if rf then m - 1 else m)), e], mcTC e] ++ mcOG ps rf k (k + m)
        if st == 2 then mcQ t else mcQ #[mcR t]
      let rf := st != 2 && (ps.getD k .missing)[0][0][0][0].getId == `rfl && (m ≥ 2 || m == kk)
      if rf then #[go true "y", go false "y", go true "x", go false "x"] else #[go false "y", go false "x"]
    else #[]) (kk + 1)) (n + 1)
def obM (ps : Array Syntax) (e : Syntax) : MacroM Syntax := if ps.size < 2 then Macro.throwUnsupported else return mcF ((mcOA ps e 0).push (mcQ #[mcRc e (mcT ps)]))
def mcRG (ps : Array Syntax) (i : Nat) : Array Syntax :=
  let q := (ps.getD i .missing)[0]
  let h := mkIdent (.mkSimple ("hY" ++ toString i))
  if mcOne q then #[mcIn #[q[0]]] else if mcRK "ignore" q then #[mcIn #[mcH]] else #[mcIn #[h], mcS q (mcM #[q]) h]
def riM (ps : Array Syntax) : MacroM Syntax := if ps.any (fun p => mcRK "tuple" p[0]) then return mcP (mcCat (mcRG ps) ps.size) else Macro.throwUnsupported
def orM (e : Syntax) (ps : Array Syntax) : MacroM Syntax :=
  let p := ps.getD 0 .missing
  let qs := p[1].getSepArgs
  let r := ps.extract 1 ps.size
  let h := mcI "hO"
  let one (q : Syntax) : Syntax := if mcOne q then mcIn #[q[0]] else mcP #[mcIn #[h], mcO (mcM #[q]) h]
  if ps.size == 1 then if mcRK "tuple" p && qs.size ≥ 2 then return mcF ((mcOA qs e 1 ++ mcOA qs e 2).push mcFl) else Macro.throwUnsupported
  else return mcF #[mc1 "{Tactic.focus focus $0 }" #[mcQ #[mcR #[mc "{Tactic.refine refine {Term.app %Or.elim { $0 {Term.syntheticHole ? _ } {Term.syntheticHole ? _ } } } }" #[e], mcCl "{Tactic.allGoals all_goals {Tactic.tacticSeq {Tactic.tacticSeq1Indented { {Tactic.tacticTry_ try $0 } } } } }" e, one p,
    mc "{Tactic.rotateLeft rotate_left { } }" #[], if r.size == 1 then one (r.getD 0 .missing) else mcP #[mcIn #[h], mcRc h (mcM r)], mc "{Tactic.rotateRight rotate_right { } }" #[]]]], mcFl]
def omM : Syntax :=
  let b := #[mcB mcA, mcB mcD]
  mcF #[mcQ #[mcP #[mcR #[mcF #[mc1 mcA #[], mcE "leK" b, mcE "Nat.le_trans" b, mcE "Nat.lt_of_le_of_lt" b, mcE "Nat.lt_of_lt_of_le" b, mcE "leL" b]]]], mcW "lia", mcFl]
def mcLS (o : String) (x : Syntax) : Syntax := mc1 ("{Tactic.show show {!«term_" ++ o ++ "_» $0 " ++ o ++ " {Term.hole _ } } }") #[x]
def mcLT (n : String) : Syntax := mc "{Term.typeAscription {Term.hygienicLParen ( {!hygieneInfo % } } {Term.hole _ } : { $0 } ) }" #[mcI n]
def liM : Syntax :=
  let n := mcLT "Nat"
  let z := mcLT "Int"
  mcP #[mcP #[mcR #[mcF #[mcLS "≤" n, mcLS "<" n, mcLS "=" n, mcLS "≤" z, mcLS "<" z, mcLS "=" z, mc1 "{Tactic.show show %False }" #[], mc1 "{Tactic.show show {!«term¬_» ¬ {Term.hole _ } } }" #[], mcLS "∧" mcH, mcLS "∨" mcH, mcLS "↔" mcH]]], mc "{Tactic.lia lia {Tactic.optConfig { } } }" #[]]
def csM (h : Syntax) : Syntax :=
  let a := #[h]
  mcF #[mcE "nft" a, mcE "nope" a, mcE "ntf" a, mcE "nopf" a, mc1 "{Tactic.paren ( {Tactic.tacticSeq {Tactic.tacticSeq1Indented { {Tactic.tacticHave__ have {Term.letConfig { } } {Term.letDecl {Term.letIdDecl {Term.letId %hJ } { } { } := {Term.app %Option.some.inj { $0 } } } } } ; {Tactic.clear clear { $0 } } ; {Tactic.subst subst { %hJ } } } } } ) }" a, mcFl]
end
local macro_rules | `(tactic| obtain ⟨$ps,*⟩ := $e:term) => obM ps.elemsAndSeps.getSepElems e
local macro_rules | `(tactic| rintro $ps*) => riM ps.raw
local macro_rules | `(tactic| rcases $t:elimTarget with $p:rcasesPatLo) => orM t.raw[1] p.raw[0][0].getSepArgs
local macro_rules | `(tactic| omega) => return omM
local macro_rules | `(tactic| walk_at "lia") => return liM
local macro_rules | `(tactic| cases $h:ident) => return csM h
section
open _root_.PySem _root_.PySem.W _root_.PySem.Calls PyProof.Rows
set_option maxRecDepth 100000
noncomputable def Sub (g h : Heap) : Prop := ∀ b o, g.get? b = some o → h.get? b = some o
theorem Sub.refl (h : Heap) : Sub h h := fun U U e => e
theorem Sub.trans {a b c : Heap} (x : Sub a b) (y : Sub b c) : Sub a c := fun U U e => y _ _ (x _ _ e)
theorem Sub.push (h : Heap) (o : Obj) : Sub h (h.push o) := fun U U e => Heap.get?_push_of_some _ e
noncomputable abbrev KK (w : World) : Frag := hd.heap_121 w.params
noncomputable def Gr (w : World) (h : Heap) : Prop := ∀ a o, (KK w).lookup a = some o → (a == 84 || a == 117) = false → h.get? a = some o
theorem Gr.sub {w : World} {g h : Heap} (G : Gr w g) (S : Sub g h) : Gr w h := fun a o e n => S _ _ (G a o e n)
theorem Gr.nolimit {w : World} {h : Heap} (G : Gr w h) : h.NoLimit :=
  ⟨fun U => none, ⟨_, _, _, G 2 _ (by rfl) (by rfl), rfl, fun U he => by simp at he, fun U => rfl⟩, rfl⟩

noncomputable def obAt (w : World) (a : Addr) : Obj := ((KK w).lookup a).getD default
theorem Gr.ob {w : World} {h : Heap} (G : Gr w h) {a : Addr} (ha : ((KK w).lookup a).isSome = true) (hn : (a == 84 || a == 117) = false) : h.get? a = some (obAt w a) := by
  obtain ⟨o, e⟩ := Option.isSome_iff_exists.mp ha
  rw [G a o e hn, obAt, e]; rfl
noncomputable def strKey : Value → Bool
  | .str .. => true
  | _ => false
theorem strKeys_of {es : Array DictEntry} (h : (es.toList.all fun e => strKey e.key) = true) : StrKeys es := by
  intro e he
  have := List.all_eq_true.mp h e (Array.mem_toList_iff.mpr he)
  cases hk : e.key with
  | str n t => exact ⟨n, t, rfl⟩
  | _ => rw [hk] at this; cases this
theorem nsFind_eq (l : List DictEntry) (x : Str) : nsFind l.toArray x = (match l.find? (fun e => e.key.isStr x) with | some e => some e.val | none => none) := by
  unfold nsFind findBy
  rw [List.find?_toArray]
  cases l.find? (fun e => e.key.isStr x) <;> rfl
noncomputable def esOf (o : Obj) : List DictEntry := match o.data with
  | .dict es _ => es.toList
  | _ => []
noncomputable def lkIn (o : Obj) (x : Str) : Option Value := match (esOf o).find? (fun e => e.key.isStr x) with
  | some e => some e.val
  | none => none
theorem Gr.ns {w : World} {h : Heap} (G : Gr w h) (a : Addr) (ha : ((KK w).lookup a).isSome = true) (hn : (a == 84 || a == 117) = false) (hd : (match (obAt w a).data with | .dict .. => true | _ => false) = true) (hs : ((esOf (obAt w a)).all fun e => strKey e.key) = true) :
    h.Ns a (lkIn (obAt w a)) := by
  have e := G.ob ha hn
  cases q : (obAt w a).data with
  | dict es n =>
    have he : esOf (obAt w a) = es.toList := by unfold esOf; rw [q]
    refine ⟨_, es, n, e, q, strKeys_of (by rw [← he]; exact hs), fun x => ?_⟩
    unfold lkIn
    rw [he]
    have := nsFind_eq es.toList x
    rw [Array.toArray_toList] at this
    exact this
  | _ => rw [q] at hd; cases hd
theorem Gr.glob {w : World} {h : Heap} (G : Gr w h) : h.Ns mainGlobals (lkIn (obAt w 3)) := G.ns 3 (by rfl) (by rfl) (by rfl) (by rfl)
theorem Gr.bui {w : World} {h : Heap} (G : Gr w h) : h.Ns builtinsNs (lkIn (obAt w 0)) := G.ns 0 (by rfl) (by rfl) (by rfl) (by rfl)

noncomputable abbrev Ledger := List (Addr × (Obj → Prop))
theorem getD_mem {xs : List Value} {i : Nat} (h : i < xs.length) : xs.getD i .none ∈ xs := by
  have : xs.getD i .none = xs[i] := by simp [h]
  rw [this]; exact List.getElem_mem h

noncomputable def IsL (xs : List Value) (o : Obj) : Prop := o.cls = .type "list" ∧ ∃ n, o.data = .seq xs.toArray n
theorem isList_of {h : Heap} {l : Addr} {xs : List Value} (x : ∃ o, h.get? l = some o ∧ IsL xs o) : h.IsList l xs.toArray := let ⟨o, a, b, n, c⟩ := x; ⟨o, a, b, n, c⟩
noncomputable abbrev mk (s : Shared) (h : Heap) (t : Nat) : Shared := ⟨h, s.gens, s.drawn, t, s.os⟩

structure Rm (d u : Nat) (A : Around) : Prop where
  none : A.handled = none
  dep : A.depth ≤ d
  uni : A.units ≤ u
theorem Rm.mono {d u d' u' : Nat} {A : Around} (r : Rm d u A) (h1 : d ≤ d') (h2 : u ≤ u') : Rm d' u' A := ⟨r.none, Nat.le_trans r.dep h1, Nat.le_trans r.uni h2⟩
theorem Rm.in1 {d u : Nat} {A : Around} (r : Rm d u A) : Rm d (u + 1) A.in1 := ⟨r.none, r.dep, Nat.add_le_add_right r.uni 1⟩

section
variable {prog : Program} {w : World} {A : Around} {E : Value → Shared → Prop} {s : Shared} {h : Heap} {tk : Nat} {env : Env} {g : Heap} {L : Addr} {m : Str → Option Value} {led : Ledger}

noncomputable def GlobIs (w : World) (x : Str) (v : Value) : Prop := lkIn (obAt w 3) x = some v
noncomputable def BuiIs (w : World) (x : Str) (v : Value) : Prop := lkIn (obAt w 3) x = none ∧ lkIn (obAt w 0) x = some v
noncomputable def fnData (o : Obj) : Option FuncData := match o.data with
  | .func fd => some fd
  | _ => none
theorem r_len {l : Addr} {xs : List Value} {Q : Value → Shared → Prop} (hl : ∃ o, h.get? l = some o ∧ IsL xs o) (hz : xs.length < 2 ^ 62) (k : ∀ t tk', Q (.int xs.length t) (mk s h tk')) : wpAny (model prog w) A (call (.builtin "len") [.ref l]) Q E (mk s h tk) :=
  PyProof.Rows.len_list (s := mk s h tk) (isList_of hl) (by simp; omega) (by simpa using k _ _)
theorem r_int {i : Int} {j : Nat} {pos : Pos} {Q : Value → Shared → Prop} (k : ∀ t tk', Q (.int i t) (mk s h tk')) : wpAny (model prog w) A (eval (.Constant (.int i) j pos) env) Q E (mk s h tk) := wpAny_Constant_int (k _ _)
theorem r_add {a b : Int} {t u : Tok} {Q : Value → Shared → Prop} (k : ∀ t tk', Q (.int (a + b) t) (mk s h tk')) : wpAny (model prog w) A (binaryOp .Add (.int a t) (.int b u)) Q E (mk s h tk) := PyProof.Rows.add_int (k _ _)
theorem r_sub {a b : Int} {t u : Tok} {Q : Value → Shared → Prop} (k : ∀ t tk', Q (.int (a - b) t) (mk s h tk')) : wpAny (model prog w) A (binaryOp .Sub (.int a t) (.int b u)) Q E (mk s h tk) := PyProof.Rows.sub_int (k _ _)
theorem r_mul {a b : Int} {t u : Tok} {Q : Value → Shared → Prop} (hm : IntMulOk a b) (k : ∀ t tk', Q (.int (a * b) t) (mk s h tk')) : wpAny (model prog w) A (binaryOp .Mult (.int a t) (.int b u)) Q E (mk s h tk) := PySem.P.mul_int (k _ _) hm
theorem r_shr1 {a : Int} {t u : Tok} {Q : Value → Shared → Prop} (k : ∀ t tk', Q (.int (a.fdiv 2) t) (mk s h tk')) : wpAny (model prog w) A (binaryOp .RShift (.int a t) (.int 1 u)) Q E (mk s h tk) := PyProof.Rows.rshift_int (by decide) (k _ _)

theorem r_item {value slice : Expr} {l : Addr} {xs : List Value} {k : Int} {u : Tok} {Q : Value → Shared → Prop} (hl : ∃ o, h.get? l = some o ∧ IsL xs o) (h0 : 0 ≤ k) (hk : k < xs.length) (hz : xs.length < 2 ^ 62)
    (hs : subscripted slice false (.ref l) (.int k u) = operate [.ref l, .int k u] (getItem (.ref l) (.int k u))) (kk : Q (xs.getD k.toNat .none) (mk s h tk)) :
    wpAny (model prog w) A (subscriptTail value slice (.ref l) (.int k u)) Q E (mk s h tk) := by
  have hlt : k.toNat < xs.length := by omega
  have e : xs.toArray[k.toNat]? = some (xs.getD k.toNat .none) := by simp [hlt]
  exact tail_any (s := mk s h tk) (isList_of hl).typeIs slot_list_getitem.lookup (wpAny_getItem_list (s := mk s h tk) (isList_of hl) h0 (by omega) e kk) hs

end
noncomputable def only (h : Heap) (p : Addr → Bool) : Heap := hideAll h ((List.range h.objs.size).filter fun b => !p b)
theorem only_get {h : Heap} {p : Addr → Bool} {b : Addr} {o : Obj} (e : h.get? b = some o) (hp : p b = true) : (only h p).get? b = some o :=
  hideAll_get _ e fun q => by have := (List.mem_filter.mp q).2; rw [hp] at this; cases this
theorem only_sub {h : Heap} {p : Addr → Bool} : Sub (only h p) h := fun U U e => of_hideAll _ e
theorem only_p {h : Heap} {p : Addr → Bool} {b : Addr} {o : Obj} (e : (only h p).get? b = some o) : p b = true := by
  cases q : p b with
  | true => rfl
  | false =>
    have hl : b < h.objs.size := Heap.lt_size (only_sub b o e)
    have : (only h p).get? b = none := hideAll_none _ (List.mem_filter.mpr ⟨List.mem_range.mpr hl, by rw [q]; rfl⟩)
    rw [this] at e; cases e

structure Fm where
  L : Addr
  ns : List (Str × Option Addr)
  own : List Addr
  F : Addr
noncomputable def Fm.all (f : Fm) : List Addr := f.L :: f.ns.filterMap (·.2)
structure St where
  g : Heap
  vs : List (Option Value)
  led : Ledger
  sz : Option Nat
noncomputable abbrev adr (led : Ledger) : List Addr := led.map (·.1)

noncomputable def IsDic (o : Obj) : Prop := Ex2 fun es ep => o.data = .dict es ep
structure Hp (w : World) (fs own all : List Addr) (g : Heap) (led : Ledger) (sz : Option Nat) (h : Heap) : Prop where
  gr : Gr w g
  sub : Sub g h
  ld : ∀ p ∈ led, ∃ o, h.get? p.1 = some o ∧ p.2 o
  here : ∀ a ∈ all, ∃ o, h.get? a = some o
  offO : ∀ a ∈ own, g.get? a = none
  offL : ∀ a ∈ adr led, g.get? a = none
  nd : (adr led).Nodup
  ap : ∀ a ∈ all, a ∉ adr led
  oa : ∀ a ∈ own, a ∈ all
  frm : ∀ a ∈ fs, (∃ o, h.get? a = some o ∧ IsDic o) ∧ g.get? a = none ∧ a ∉ adr led
  sz : ∀ n, sz = some n → h.objs.size = n

structure Mv (fs own : List Addr) (g : Heap) (led : Ledger) (h : Heap) (g' : Heap) (led' : Ledger) (h' : Heap) : Prop where
  gg : Sub g g'
  exs : ∀ b o, h.get? b = some o → b ∉ own → b ∉ adr led → h'.get? b = some o ∨ (b ∈ fs ∧ ∃ sl, h'.get? b = some { o with slots := sl })
  dom : ∀ b o, h.get? b = some o → b ∉ adr led → ∃ o', h'.get? b = some o'
  fr : ∀ b o, g'.get? b = some o → g.get? b = some o ∨ h.get? b = none ∨ b ∈ adr led
  ld : ∀ b ∈ adr led', b ∈ adr led ∨ h.get? b = none
theorem Mv.ext {fs own : List Addr} {g : Heap} {led : Ledger} {h g' : Heap} {led' : Ledger} {h' : Heap} (m : Mv fs own g led h g' led' h') (b : Addr) (o : Obj) (e : h.get? b = some o) (x : b ∉ own) (y : b ∉ adr led) (z : b ∉ fs) : h'.get? b = some o :=
  (m.exs b o e x y).resolve_right fun q => z q.1
theorem Mv.refl {fs own : List Addr} {g : Heap} {led : Ledger} {h : Heap} : Mv fs own g led h g led h :=
  ⟨Sub.refl _, fun U U e U U => .inl e, fun U o e U => ⟨o, e⟩, fun U U e => .inl e, fun U e => .inl e⟩
theorem none_of_dom {h h' : Heap} {led : Ledger} (d : ∀ b o, h.get? b = some o → b ∉ adr led → ∃ o', h'.get? b = some o') {b : Addr} (e : h'.get? b = none) : h.get? b = none ∨ b ∈ adr led := by
  cases q : h.get? b with
  | none => exact .inl rfl
  | some o =>
    by_cases z : b ∈ adr led
    · exact .inr z
    · obtain ⟨o', x⟩ := d b o q z; rw [x] at e; cases e
theorem Mv.trans {fs own : List Addr} {g g1 g2 : Heap} {led led1 led2 : Ledger} {h h1 h2 : Heap} (x : Mv fs own g led h g1 led1 h1) (y : Mv fs own g1 led1 h1 g2 led2 h2) : Mv fs own g led h g2 led2 h2 := by
  have hl : ∀ b, b ∈ adr led1 → b ∈ adr led ∨ h.get? b = none := x.ld
  refine ⟨x.gg.trans y.gg, fun b o e a c => ?_, fun b o e c => ?_, fun b o e => ?_, fun b e => ?_⟩
  · have n1 : b ∉ adr led1 := fun q => by
      rcases hl b q with z | z
      · exact c z
      · rw [z] at e; cases e
    rcases x.exs b o e a c with e1 | ⟨z1, sl, e1⟩
    · exact y.exs b o e1 a n1
    · rcases y.exs b _ e1 a n1 with e2 | ⟨U, sl2, e2⟩
      · exact .inr ⟨z1, sl, e2⟩
      · exact .inr ⟨z1, sl2, e2⟩
  · obtain ⟨o', e'⟩ := x.dom b o e c
    refine y.dom b o' e' fun q => ?_
    rcases hl b q with z | z
    · exact c z
    · rw [z] at e; cases e
  · rcases y.fr b o e with z | z | z
    · exact x.fr b o z
    · exact .inr (none_of_dom x.dom z)
    · rcases hl b z with z | z
      · exact .inr (.inr z)
      · exact .inr (.inl z)
  · rcases y.ld b e with z | z
    · exact hl b z
    · exact (none_of_dom x.dom z).symm

section
variable {w : World} {fs own all : List Addr} {g g' : Heap} {led led' : Ledger} {sz : Option Nat} {h h' : Heap}
theorem Hp.adrHere (H : Hp w fs own all g led sz h) {a : Addr} (ha : a ∈ adr led) : ∃ o, h.get? a = some o := by
  obtain ⟨p, hp, rfl⟩ := List.mem_map.mp ha
  obtain ⟨o, e, U⟩ := H.ld p hp
  exact ⟨o, e⟩
theorem Hp.grow (H : Hp w fs own all g led sz h) (S : Sub h h') {sz' : Option Nat} (hz : ∀ n, sz' = some n → h'.objs.size = n) : Hp w fs own all g led sz' h' :=
  ⟨H.gr, H.sub.trans S, fun p hp => let ⟨o, e, q⟩ := H.ld p hp; ⟨o, S _ _ e, q⟩, fun a ha => let ⟨o, e⟩ := H.here a ha; ⟨o, S _ _ e⟩, H.offO, H.offL, H.nd, H.ap, H.oa, fun a ha => let ⟨⟨o, e, q⟩, r⟩ := H.frm a ha; ⟨⟨o, S _ _ e, q⟩, r⟩, hz⟩
theorem Mv.grow (S : Sub h h') : Mv fs own g led h g led h' := ⟨Sub.refl _, fun b o e U U => .inl (S b o e), fun b o e U => ⟨o, S b o e⟩, fun U U e => .inl e, fun U e => .inl e⟩
theorem Hp.newL (H : Hp w fs own all g led sz h) (S : Sub h h') {a : Addr} {o : Obj} {P : Obj → Prop} (hn : h.get? a = none) (e : h'.get? a = some o) (hP : P o) {sz' : Option Nat} (hz : ∀ n, sz' = some n → h'.objs.size = n) :
    Hp w fs own all g ((a, P) :: led) sz' h' := by
  have hg : g.get? a = none := by
    cases q : g.get? a with
    | none => rfl
    | some o => rw [H.sub _ _ q] at hn; cases hn
  have hl : a ∉ adr led := fun q => by obtain ⟨o, x⟩ := H.adrHere q; rw [x] at hn; cases hn
  have G := H.grow S hz
  refine ⟨G.gr, G.sub, fun p hp => ?_, G.here, G.offO, fun b hb => ?_, List.nodup_cons.mpr ⟨hl, H.nd⟩, fun b hb q => ?_, H.oa, fun b hb => ?_, hz⟩
  · rcases List.mem_cons.mp hp with rfl | hp
    · exact ⟨o, e, hP⟩
    · exact G.ld p hp
  · rcases List.mem_cons.mp hb with rfl | hb
    · exact hg
    · exact G.offL b hb
  · rcases List.mem_cons.mp q with rfl | q
    · obtain ⟨o, x⟩ := H.here _ hb; simp only [hn] at x; cases x
    · exact H.ap b hb q
  · obtain ⟨q1, q2, q3⟩ := G.frm b hb
    refine ⟨q1, q2, fun q => ?_⟩
    rcases List.mem_cons.mp q with rfl | q
    · obtain ⟨⟨o, x, U⟩, U⟩ := H.frm _ hb; simp only [hn] at x; cases x
    · exact q3 q
theorem Mv.newL (S : Sub h h') {a : Addr} {P : Obj → Prop} (hn : h.get? a = none) : Mv fs own g led h g ((a, P) :: led) h' :=
  ⟨Sub.refl _, fun b o e U U => .inl (S b o e), fun b o e U => ⟨o, S b o e⟩, fun U U e => .inl e, fun b e => by
    rcases List.mem_cons.mp e with rfl | e
    · exact .inr hn
    · exact .inl e⟩
noncomputable def more (g h : Heap) (F : List Addr) : Heap := only h fun b => (g.get? b).isSome || F.contains b
theorem more_sub {F : List Addr} (S : Sub g h) : Sub g (more g h F) := fun b o e => only_get (S b o e) (by rw [e]; rfl)
theorem more_at {F : List Addr} {a : Addr} {o : Obj} (e : h.get? a = some o) (ha : a ∈ F) : (more g h F).get? a = some o :=
  only_get e (by rw [Bool.or_eq_true]; exact .inr (by simpa using ha))
theorem more_of {F : List Addr} {b : Addr} {o : Obj} (S : Sub g h) (e : (more g h F).get? b = some o) : g.get? b = some o ∨ b ∈ F := by
  have hp := only_p e
  rw [Bool.or_eq_true] at hp
  rcases hp with q | q
  · obtain ⟨o', q'⟩ := Option.isSome_iff_exists.mp q
    have h1 := S b o' q'
    have h2 := only_sub b o e
    rw [h1] at h2; cases h2
    exact .inl q'
  · exact .inr (by simpa using q)
theorem more_in {F : List Addr} : Sub (more g h F) h := only_sub
theorem none_one {a : Addr} (hn : h.get? a = none) : ∀ b ∈ [a], h.get? b = none := fun b m => (List.mem_singleton.mp m).symm ▸ hn
theorem Hp.newG (H : Hp w fs own all g led sz h) (S : Sub h h') {N : List Addr} (hn : ∀ b ∈ N, h.get? b = none) {sz' : Option Nat} (hz : ∀ n, sz' = some n → h'.objs.size = n) :
    Hp w fs own all (more g h' N) led sz' h' := by
  have S' : Sub g h' := H.sub.trans S
  have off : ∀ b, g.get? b = none → b ∉ N → (more g h' N).get? b = none := fun b hb hba => by
    cases q : (more g h' N).get? b with
    | none => rfl
    | some o =>
      rcases more_of S' q with z | z
      · rw [z] at hb; cases hb
      · exact absurd z hba
  have G := H.grow S hz
  refine ⟨G.gr.sub (more_sub S'), more_in, G.ld, G.here, fun b hb => off b (H.offO b hb) ?_, fun b hb => off b (H.offL b hb) ?_, H.nd, H.ap, H.oa, fun b hb => ?_, hz⟩
  · intro m; obtain ⟨o, x⟩ := H.here _ (H.oa _ hb); rw [hn b m] at x; cases x
  · intro m; obtain ⟨o, x⟩ := H.adrHere hb; rw [hn b m] at x; cases x
  · obtain ⟨q1, q2, q3⟩ := G.frm b hb
    refine ⟨q1, off b q2 ?_, q3⟩
    intro m; obtain ⟨⟨o, x, U⟩, U⟩ := H.frm _ hb; rw [hn b m] at x; cases x
theorem Mv.newG (H : Hp w fs own all g led sz h) (S : Sub h h') {N : List Addr} (hn : ∀ b ∈ N, h.get? b = none) : Mv fs own g led h (more g h' N) led h' :=
  ⟨more_sub (H.sub.trans S), fun b o e U U => .inl (S b o e), fun b o e U => ⟨o, S b o e⟩, fun b o e => by
    rcases more_of (H.sub.trans S) e with z | z
    · exact .inl z
    · exact .inr (.inl (hn b z)), fun U e => .inl e⟩
theorem Hp.chg (H : Hp w fs own all g led sz h) {a : Addr} {P P' : Obj → Prop} {l1 l2 : Ledger} (hl : led = l1 ++ (a, P) :: l2) (S : ∀ b o, b ≠ a → h.get? b = some o → h'.get? b = some o) {o : Obj} (e : h'.get? a = some o) (hP : P' o)
    {sz' : Option Nat} (hz : ∀ n, sz' = some n → h'.objs.size = n) : Hp w fs own all g (l1 ++ (a, P') :: l2) sz' h' := by
  have ha : a ∈ adr led := by rw [hl]; simp
  have hadr : adr (l1 ++ (a, P') :: l2) = adr led := by rw [hl]; simp
  have hga := H.offL a ha
  have nd := H.nd
  rw [hl] at nd
  have nd' : (adr l1 ++ a :: adr l2).Nodup := by simpa using nd
  have hne : ∀ p, p ∈ l1 ∨ p ∈ l2 → p.1 ≠ a := by
    rintro p hp rfl
    rw [List.nodup_append] at nd'
    obtain ⟨U, n2, n3⟩ := nd'
    rcases hp with hp | hp
    · exact n3 _ (List.mem_map_of_mem hp) _ (List.mem_cons_self) rfl
    · exact (List.nodup_cons.mp n2).1 (List.mem_map_of_mem hp)
  refine ⟨H.gr, fun b o' q => S b o' (fun z => by rw [z, hga] at q; cases q) (H.sub b o' q), fun p hp => ?_, fun b hb => ?_, H.offO, by rw [hadr]; exact H.offL, by rw [hadr]; exact H.nd, by rw [hadr]; exact H.ap, H.oa, fun b hb => ?_, hz⟩
  · rcases List.mem_append.mp hp with q | q
    · obtain ⟨o', e', x⟩ := H.ld p (by rw [hl]; exact List.mem_append_left _ q)
      exact ⟨o', S _ _ (hne p (.inl q)) e', x⟩
    · rcases List.mem_cons.mp q with rfl | q
      · exact ⟨o, e, hP⟩
      · obtain ⟨o', e', x⟩ := H.ld p (by rw [hl]; exact List.mem_append_right _ (List.mem_cons_of_mem _ q))
        exact ⟨o', S _ _ (hne p (.inr q)) e', x⟩
  · obtain ⟨o', e'⟩ := H.here b hb
    exact ⟨o', S b o' (fun z => H.ap b hb (z ▸ ha)) e'⟩
  · obtain ⟨⟨o', e', q1⟩, q2, q3⟩ := H.frm b hb
    exact ⟨⟨o', S b o' (fun z => q3 (z ▸ ha)) e', q1⟩, q2, by rw [hadr]; exact q3⟩
theorem Mv.chg {a : Addr} {P P' : Obj → Prop} {l1 l2 : Ledger} (hl : led = l1 ++ (a, P) :: l2) (S : ∀ b o, b ≠ a → h.get? b = some o → h'.get? b = some o) {o : Obj} (e : h'.get? a = some o) :
    Mv fs own g led h g (l1 ++ (a, P') :: l2) h' := by
  have ha : a ∈ adr led := by rw [hl]; simp
  have hadr : adr (l1 ++ (a, P') :: l2) = adr led := by rw [hl]; simp
  refine ⟨Sub.refl _, fun b o' q U hb => .inl (S b o' (fun z => hb (z ▸ ha)) q), fun b o' q U => ?_, fun U U q => .inl q, fun b hb => .inl (hadr ▸ hb)⟩
  by_cases z : b = a
  · exact ⟨o, z ▸ e⟩
  · exact ⟨o', S b o' z q⟩
theorem Hp.chgO (H : Hp w fs own all g led sz h) {a : Addr} (ha : a ∈ own) (S : ∀ b o, b ≠ a → h.get? b = some o → h'.get? b = some o) {o : Obj} (e : h'.get? a = some o) (hd : a ∈ fs → IsDic o) {sz' : Option Nat} (hz : ∀ n, sz' = some n → h'.objs.size = n) : Hp w fs own all g led sz' h' := by
  have hga := H.offO a ha
  refine ⟨H.gr, fun b o' q => S b o' (fun z => by rw [z, hga] at q; cases q) (H.sub b o' q), fun p hp => ?_, fun b hb => ?_, H.offO, H.offL, H.nd, H.ap, H.oa, fun b hb => ?_, hz⟩
  · obtain ⟨o', e', x⟩ := H.ld p hp
    exact ⟨o', S _ _ (fun z => H.ap a (H.oa a ha) (z ▸ List.mem_map_of_mem hp)) e', x⟩
  · by_cases z : b = a
    · exact ⟨o, z ▸ e⟩
    · obtain ⟨o', e'⟩ := H.here b hb
      exact ⟨o', S b o' z e'⟩
  · obtain ⟨⟨o', e', q1⟩, q2, q3⟩ := H.frm b hb
    refine ⟨?_, q2, q3⟩
    by_cases z : b = a
    · subst z; exact ⟨o, e, hd hb⟩
    · exact ⟨o', S b o' z e', q1⟩
theorem Mv.chgO {a : Addr} (ha : a ∈ own) (S : ∀ b o, b ≠ a → h.get? b = some o → h'.get? b = some o) {o : Obj} (e : h'.get? a = some o) : Mv fs own g led h g led h' := by
  refine ⟨Sub.refl _, fun b o' q hb U => .inl (S b o' (fun z => hb (z ▸ ha)) q), fun b o' q U => ?_, fun U U q => .inl q, fun U hb => .inl hb⟩
  by_cases z : b = a
  · exact ⟨o, z ▸ e⟩
  · exact ⟨o', S b o' z q⟩
theorem adr_app {l l' : Ledger} {b : Addr} : b ∈ adr (l ++ l') ↔ b ∈ adr l ∨ b ∈ adr l' := by unfold adr; rw [List.map_append, List.mem_append]
theorem Hp.frz (H : Hp w fs own all g (l ++ led) sz h) : Hp w fs own all (more g h (adr l)) led sz h := by
  have off : ∀ b, g.get? b = none → b ∉ adr l → (more g h (adr l)).get? b = none := fun b hb hba => by
    cases q : (more g h (adr l)).get? b with
    | none => rfl
    | some o =>
      rcases more_of H.sub q with z | z
      · rw [z] at hb; cases hb
      · exact absurd z hba
  have nd : (adr l ++ adr led).Nodup := by have := H.nd; simpa using this
  rw [List.nodup_append] at nd
  refine ⟨H.gr.sub (more_sub H.sub), more_in, fun p hp => H.ld p (List.mem_append_right _ hp), H.here, fun b hb => off b (H.offO b hb) fun q => ?_, fun b hb => off b ?_ fun q => ?_, nd.2.1, fun b hb q => ?_, H.oa, fun b hb => ?_, H.sz⟩
  · exact H.ap b (H.oa b hb) (adr_app.mpr (.inl q))
  · exact H.offL b (adr_app.mpr (.inr hb))
  · exact nd.2.2 b q b hb rfl
  · exact H.ap b hb (adr_app.mpr (.inr q))
  · obtain ⟨q1, q2, q3⟩ := H.frm b hb
    exact ⟨q1, off b q2 fun q => q3 (adr_app.mpr (.inl q)), fun q => q3 (adr_app.mpr (.inr q))⟩
theorem Mv.frz {l : Ledger} (H : Hp w fs own all g (l ++ led) sz h) : Mv fs own g (l ++ led) h (more g h (adr l)) led h :=
  ⟨more_sub H.sub, fun U U e U U => .inl e, fun U o e U => ⟨o, e⟩, fun b o e => by
    rcases more_of H.sub e with z | z
    · exact .inl z
    · exact .inr (.inr (adr_app.mpr (.inl z))), fun b hb => .inl (adr_app.mpr (.inr hb))⟩
theorem Hp.perm (H : Hp w fs own all g led sz h) (p : led.Perm led') : Hp w fs own all g led' sz h := by
  have pa : (adr led).Perm (adr led') := p.map _
  exact ⟨H.gr, H.sub, fun q hq => H.ld q (p.mem_iff.mpr hq), H.here, H.offO, fun a ha => H.offL a (pa.mem_iff.mpr ha), pa.nodup_iff.mp H.nd, fun a ha q => H.ap a ha (pa.mem_iff.mpr q), H.oa, fun a ha => let ⟨q1, q2, q3⟩ := H.frm a ha; ⟨q1, q2, fun q => q3 (pa.mem_iff.mpr q)⟩, H.sz⟩
theorem Mv.perm {l1 l2 l1' l2' : Ledger} (m : Mv fs own g l1 h g' l2 h') (p : l1.Perm l1') (q : l2.Perm l2') : Mv fs own g l1' h g' l2' h' := by
  have pa : (adr l1).Perm (adr l1') := p.map _
  have qa : (adr l2).Perm (adr l2') := q.map _
  exact ⟨m.gg, fun b o e a c => m.exs b o e a fun z => c (pa.mem_iff.mp z), fun b o e c => m.dom b o e fun z => c (pa.mem_iff.mp z), fun b o e => (m.fr b o e).imp_right (·.imp_right pa.mem_iff.mp), fun b hb => (m.ld b (qa.mem_iff.mpr hb)).imp_left pa.mem_iff.mp⟩
end
structure FrAt (f : Fm) (vs : List (Option Value)) (h : Heap) : Prop where
  len : vs.length = f.ns.length
  ns : ∃ m : Str → Option Value, h.Ns f.L m ∧ ∀ (i : Nat) (x : Str), f.ns[i]? = some (x, none) → m x = (vs[i]?).join
  cel : ∀ (i : Nat) (x : Str) (c : Addr), f.ns[i]? = some (x, some c) → h.IsCell c ((vs[i]?).join)
theorem Fm.all_cell {f : Fm} {i : Nat} {x : Str} {c : Addr} (h : f.ns[i]? = some (x, some c)) : c ∈ f.all :=
  List.mem_cons_of_mem _ (List.mem_filterMap.mpr ⟨(x, some c), List.mem_of_getElem? h, rfl⟩)
theorem FrAt.keepS {f : Fm} {vs : List (Option Value)} {h h' : Heap} (F : FrAt f vs h) (k : ∀ b ∈ f.all, ∀ o, h.get? b = some o → ∃ sl, h'.get? b = some { o with slots := sl }) : FrAt f vs h' := by
  obtain ⟨hl, ⟨m, ⟨oL, es, ep, ho, r⟩, hm⟩, hc⟩ := F
  obtain ⟨sl, e1⟩ := k _ List.mem_cons_self _ ho
  refine ⟨hl, ⟨m, ⟨_, es, ep, e1, r⟩, hm⟩, fun i x c e => ?_⟩
  obtain ⟨o, ho, hd⟩ := hc i x c e
  obtain ⟨sl, e2⟩ := k c (Fm.all_cell e) o ho
  exact ⟨_, e2, hd⟩
theorem FrAt.keep {f : Fm} {vs : List (Option Value)} {h h' : Heap} (F : FrAt f vs h) (k : ∀ b ∈ f.all, ∀ o, h.get? b = some o → h'.get? b = some o) : FrAt f vs h' := F.keepS fun b hb o e => ⟨o.slots, k b hb o e⟩

structure Cx where
  prog : Program
  w : World
  s : Shared
  d : Nat
  u : Nat
  fs : List Addr
  /-- the frames are known -/
  kf : Bool
structure Rk (c : Cx) (A : Around) : Prop where
  none : A.handled = none
  dep : A.depth ≤ c.d
  uni : A.units ≤ c.u
  frs : c.kf = true → ∃ l, A.frames = some l ∧ l.map (·.frame) = c.fs.map some ∧ ∀ e ∈ l, e.scope.kind ≠ .module
theorem Rk.rm {c : Cx} {A : Around} (r : Rk c A) : Rm c.d c.u A := ⟨r.none, r.dep, r.uni⟩
noncomputable def Cx.deep (c : Cx) (L : Addr) : Cx := { c with d := c.d + 1, u := c.u + 3, fs := L :: c.fs }
noncomputable def Cx.up1 (c : Cx) : Cx := { c with u := c.u + 1 }
theorem Rk.in1 {c : Cx} {A : Around} (r : Rk c A) : Rk c.up1 A.in1 := ⟨r.none, r.dep, Nat.add_le_add_right r.uni 1, r.frs⟩
theorem Rk.deeper {c : Cx} {A : Around} {env : Env} {L : Addr} (r : Rk c A) (hf : env.frame = some L) (hk : env.scope.kind ≠ .module) : Rk (c.deep L) (A.deeper env) := by
  refine ⟨r.none, Nat.succ_le_succ r.dep, Nat.add_le_add_right r.uni 3, fun kf => ?_⟩
  obtain ⟨l, h1, h2, h3⟩ := r.frs kf
  refine ⟨env :: l, ?_, ?_, fun e he => ?_⟩
  · show A.frames.map _ = _
    rw [h1]; rfl
  · show env.frame :: l.map (·.frame) = some L :: c.fs.map some
    rw [hf, h2]
  · rcases List.mem_cons.mp he with rfl | he
    · exact hk
    · exact h3 e he
structure At (c : Cx) (f : Fm) (σ : St) (h : Heap) : Prop where
  hp : Hp c.w c.fs f.own f.all σ.g σ.led σ.sz h
  fr : FrAt f σ.vs h
noncomputable def Pst {α : Type} (c : Cx) (f : Fm) (σ : St) (h : Heap) (Q : α → St → Prop) (v : α) (s' : Shared) : Prop :=
  Ex3 fun σ' h' tk' => s' = mk c.s h' tk' ∧ At c f σ' h' ∧ Mv c.fs f.own σ.g σ.led h σ'.g σ'.led h' ∧ Q v σ'
noncomputable def W {α : Type} (c : Cx) (f : Fm) (t : Sem α) (σ : St) (Q : α → St → Prop) : Prop :=
  ∀ (A : Around) (E : Value → Shared → Prop) (h : Heap) (tk : Nat), Rk c A → At c f σ h → wpAny (model c.prog c.w) A t (Pst c f σ h Q) E (mk c.s h tk)
section
variable {α β : Type} {c : Cx} {f : Fm} {σ : St}
theorem Pst.mono {h : Heap} {Q Q' : α → St → Prop} {v : α} {s' : Shared} (x : Pst c f σ h Q v s') (k : ∀ v σ', Sub σ.g σ'.g → Q v σ' → Q' v σ') : Pst c f σ h Q' v s' := by
  obtain ⟨σ', h', tk', e, a, m, q⟩ := x
  exact ⟨σ', h', tk', e, a, m, k v σ' m.gg q⟩
theorem W.mono {t : Sem α} {Q Q' : α → St → Prop} (x : W c f t σ Q) (k : ∀ v σ', Sub σ.g σ'.g → Q v σ' → Q' v σ') : W c f t σ Q' :=
  fun A E h tk r a => wpAny_mono (x A E h tk r a) (fun U U q => q.mono k) fun U U e => e
theorem Pst.then {h : Heap} {A : Around} {E : Value → Shared → Prop} {Q : α → St → Prop} {t : α → Sem β} {Q' : β → St → Prop} (r : Rk c A) {v : α} {s' : Shared} (x : Pst c f σ h Q v s') (k : ∀ v σ', Sub σ.g σ'.g → Q v σ' → W c f (t v) σ' Q') :
    wpAny (model c.prog c.w) A (t v) (Pst c f σ h Q') E s' := by
  obtain ⟨σ', h', tk', rfl, a, m, q⟩ := x
  refine wpAny_mono (k v σ' m.gg q A E h' tk' r a) (fun v' s'' y => ?_) fun U U e => e
  obtain ⟨σ'', h'', tk'', rfl, a', m', q'⟩ := y
  exact ⟨σ'', h'', tk'', rfl, a', m.trans m', q'⟩
theorem W.bind {t : Sem α} {k : α → Sem β} {Q : β → St → Prop} (x : W c f t σ fun v σ' => W c f (k v) σ' Q) : W c f (t >>= k) σ Q :=
  fun A E h tk r a => wpAny_bind (wpAny_mono (x A E h tk r a) (fun U U y => y.then r fun U U U z => z) fun U U e => e)
theorem W.pure {v : α} {Q : α → St → Prop} (q : Q v σ) : W c f (pure v) σ Q :=
  fun U U h tk U a => wpAny_pure ⟨σ, h, tk, rfl, a, .refl, q⟩
theorem Pst.here {h : Heap} {tk : Nat} {Q : α → St → Prop} {v : α} (a : At c f σ h) (q : Q v σ) : Pst c f σ h Q v (mk c.s h tk) := ⟨σ, h, tk, rfl, a, .refl, q⟩
theorem W.frz {t : Sem α} {Q : α → St → Prop} (l led : Ledger) (hl : σ.led.Perm (l ++ led)) (k : ∀ g', Sub σ.g g' → (∀ p ∈ l, ∃ o, g'.get? p.1 = some o ∧ p.2 o) → W c f t { σ with g := g', led := led } Q) : W c f t σ Q := by
  intro A E h tk r a
  have hp := a.hp.perm hl
  have hp' := hp.frz
  have m : Mv c.fs f.own σ.g σ.led h (more σ.g h (adr l)) led h := (Mv.frz hp).perm hl.symm (.refl _)
  refine wpAny_mono (k _ (more_sub hp.sub) (fun p hm => ?_) A E h tk r ⟨hp', a.fr⟩) (fun v s' x => ?_) fun U U e => e
  · obtain ⟨o, e, q⟩ := hp.ld p (List.mem_append_left _ hm)
    exact ⟨o, more_at e (List.mem_map_of_mem hm), q⟩
  · obtain ⟨σ', h', tk', rfl, a', m', q⟩ := x
    exact ⟨σ', h', tk', rfl, a', m.trans m', q⟩
end
theorem tI : True := True.intro
noncomputable def good {β E : Type} (mk : β → E) (o : Option β) (e : E) : Prop := @Option.casesOn β (fun _ => Prop) o True (fun p => e = mk p)
theorem good_ {β E : Type} {mk : β → E} {o : Option β} {e : E} {p : β} (g : good mk o e) (h : o = some p) : e = mk p := by subst h; exact g
noncomputable def nn1 {A0 β : Type} : A0 → Option β := fun _ => none
theorem t1 {A0 : Type} : A0 → True := fun _ => tI
noncomputable def nn2 {A0 A1 β : Type} : A0 → A1 → Option β := fun _ _ => none
theorem t2 {A0 A1 : Type} : A0 → A1 → True := fun _ _ => tI
noncomputable def nn3 {A0 A1 A2 β : Type} : A0 → A1 → A2 → Option β := fun _ _ _ => none
theorem t3 {A0 A1 A2 : Type} : A0 → A1 → A2 → True := fun _ _ _ => tI
noncomputable def nn4 {A0 A1 A2 A3 β : Type} : A0 → A1 → A2 → A3 → Option β := fun _ _ _ _ => none
theorem t4 {A0 A1 A2 A3 : Type} : A0 → A1 → A2 → A3 → True := fun _ _ _ _ => tI
noncomputable def nn5 {A0 A1 A2 A3 A4 β : Type} : A0 → A1 → A2 → A3 → A4 → Option β := fun _ _ _ _ _ => none
theorem t5 {A0 A1 A2 A3 A4 : Type} : A0 → A1 → A2 → A3 → A4 → True := fun _ _ _ _ _ => tI
noncomputable def nn6 {A0 A1 A2 A3 A4 A5 β : Type} : A0 → A1 → A2 → A3 → A4 → A5 → Option β := fun _ _ _ _ _ _ => none
theorem t6 {A0 A1 A2 A3 A4 A5 : Type} : A0 → A1 → A2 → A3 → A4 → A5 → True := fun _ _ _ _ _ _ => tI
noncomputable def nn7 {A0 A1 A2 A3 A4 A5 A6 β : Type} : A0 → A1 → A2 → A3 → A4 → A5 → A6 → Option β := fun _ _ _ _ _ _ _ => none
theorem t7 {A0 A1 A2 A3 A4 A5 A6 : Type} : A0 → A1 → A2 → A3 → A4 → A5 → A6 → True := fun _ _ _ _ _ _ _ => tI
noncomputable def nn8 {A0 A1 A2 A3 A4 A5 A6 A7 β : Type} : A0 → A1 → A2 → A3 → A4 → A5 → A6 → A7 → Option β := fun _ _ _ _ _ _ _ _ => none
theorem t8 {A0 A1 A2 A3 A4 A5 A6 A7 : Type} : A0 → A1 → A2 → A3 → A4 → A5 → A6 → A7 → True := fun _ _ _ _ _ _ _ _ => tI
noncomputable def nn9 {A0 A1 A2 A3 A4 A5 A6 A7 A8 β : Type} : A0 → A1 → A2 → A3 → A4 → A5 → A6 → A7 → A8 → Option β := fun _ _ _ _ _ _ _ _ _ => none
theorem t9 {A0 A1 A2 A3 A4 A5 A6 A7 A8 : Type} : A0 → A1 → A2 → A3 → A4 → A5 → A6 → A7 → A8 → True := fun _ _ _ _ _ _ _ _ _ => tI
noncomputable def nn10 {A0 A1 A2 A3 A4 A5 A6 A7 A8 A9 β : Type} : A0 → A1 → A2 → A3 → A4 → A5 → A6 → A7 → A8 → A9 → Option β := fun _ _ _ _ _ _ _ _ _ _ => none
theorem t10 {A0 A1 A2 A3 A4 A5 A6 A7 A8 A9 : Type} : A0 → A1 → A2 → A3 → A4 → A5 → A6 → A7 → A8 → A9 → True := fun _ _ _ _ _ _ _ _ _ _ => tI
noncomputable def nn11 {A0 A1 A2 A3 A4 A5 A6 A7 A8 A9 A10 β : Type} : A0 → A1 → A2 → A3 → A4 → A5 → A6 → A7 → A8 → A9 → A10 → Option β := fun _ _ _ _ _ _ _ _ _ _ _ => none
theorem t11 {A0 A1 A2 A3 A4 A5 A6 A7 A8 A9 A10 : Type} : A0 → A1 → A2 → A3 → A4 → A5 → A6 → A7 → A8 → A9 → A10 → True := fun _ _ _ _ _ _ _ _ _ _ _ => tI
noncomputable def vSet (e : Expr) : Option ((List Expr) × Nat × Pos) :=
  @Expr.casesOn (fun _ => Option ((List Expr) × Nat × Pos)) e nn3 nn3 nn4 nn3 nn4 nn4 nn3 (fun a0 a1 a2 => some (a0, a1, a2)) nn4 nn4 nn5 nn4 nn2 nn2 nn2 nn4 nn4 nn4 nn2 nn3 nn3 nn3 nn2 nn2 nn2 nn3 nn4
noncomputable def vSetComp (e : Expr) : Option (Expr × (List Comprehension) × Scope × Pos) :=
  @Expr.casesOn (fun _ => Option (Expr × (List Comprehension) × Scope × Pos)) e nn3 nn3 nn4 nn3 nn4 nn4 nn3 nn3 nn4 (fun a0 a1 a2 a3 => some (a0, a1, a2, a3)) nn5 nn4 nn2 nn2 nn2 nn4 nn4 nn4 nn2 nn3 nn3 nn3 nn2 nn2 nn2 nn3 nn4
noncomputable def vDictComp (e : Expr) : Option (Expr × Expr × (List Comprehension) × Scope × Pos) :=
  @Expr.casesOn (fun _ => Option (Expr × Expr × (List Comprehension) × Scope × Pos)) e nn3 nn3 nn4 nn3 nn4 nn4 nn3 nn3 nn4 nn4 (fun a0 a1 a2 a3 a4 => some (a0, a1, a2, a3, a4)) nn4 nn2 nn2 nn2 nn4 nn4 nn4 nn2 nn3 nn3 nn3 nn2 nn2 nn2 nn3 nn4
noncomputable def vStarred (e : Expr) : Option (Expr × Pos) :=
  @Expr.casesOn (fun _ => Option (Expr × Pos)) e nn3 nn3 nn4 nn3 nn4 nn4 nn3 nn3 nn4 nn4 nn5 nn4 nn2 nn2 nn2 nn4 nn4 nn4 nn2 nn3 nn3 nn3 (fun a0 a1 => some (a0, a1)) nn2 nn2 nn3 nn4
noncomputable def vName (e : Expr) : Option (Str × Pos) :=
  @Expr.casesOn (fun _ => Option (Str × Pos)) e nn3 nn3 nn4 nn3 nn4 nn4 nn3 nn3 nn4 nn4 nn5 nn4 nn2 nn2 nn2 nn4 nn4 nn4 nn2 nn3 nn3 nn3 nn2 (fun a0 a1 => some (a0, a1)) nn2 nn3 nn4
theorem vName_ {e : Expr} {p : Str × Pos} (h : vName e = some p) : e = .Name p.1 p.2 :=
  good_ (mk := (fun p : Str × Pos => Expr.Name p.1 p.2)) (@Expr.casesOn (fun e => good (fun p : Str × Pos => Expr.Name p.1 p.2) (vName e) e) e t3 t3 t4 t3 t4 t4 t3 t3 t4 t4 t5 t4 t2 t2 t2 t4 t4 t4 t2 t3 t3 t3 t2 (fun a0 a1 => rfl) t2 t3 t4) h
noncomputable def vConstant (e : Expr) : Option (Const × Nat × Pos) :=
  @Expr.casesOn (fun _ => Option (Const × Nat × Pos)) e nn3 nn3 nn4 nn3 nn4 nn4 nn3 nn3 nn4 nn4 nn5 nn4 nn2 nn2 nn2 nn4 nn4 nn4 nn2 (fun a0 a1 a2 => some (a0, a1, a2)) nn3 nn3 nn2 nn2 nn2 nn3 nn4
theorem vConstant_ {e : Expr} {p : Const × Nat × Pos} (h : vConstant e = some p) : e = .Constant p.1 p.2.1 p.2.2 :=
  good_ (mk := (fun p : Const × Nat × Pos => Expr.Constant p.1 p.2.1 p.2.2)) (@Expr.casesOn (fun e => good (fun p : Const × Nat × Pos => Expr.Constant p.1 p.2.1 p.2.2) (vConstant e) e) e t3 t3 t4 t3 t4 t4 t3 t3 t4 t4 t5 t4 t2 t2 t2 t4 t4 t4 t2 (fun a0 a1 a2 => rfl) t3 t3 t2 t2 t2 t3 t4) h
noncomputable def vAttribute (e : Expr) : Option (Expr × Str × Pos) :=
  @Expr.casesOn (fun _ => Option (Expr × Str × Pos)) e nn3 nn3 nn4 nn3 nn4 nn4 nn3 nn3 nn4 nn4 nn5 nn4 nn2 nn2 nn2 nn4 nn4 nn4 nn2 nn3 (fun a0 a1 a2 => some (a0, a1, a2)) nn3 nn2 nn2 nn2 nn3 nn4
theorem vAttribute_ {e : Expr} {p : Expr × Str × Pos} (h : vAttribute e = some p) : e = .Attribute p.1 p.2.1 p.2.2 :=
  good_ (mk := (fun p : Expr × Str × Pos => Expr.Attribute p.1 p.2.1 p.2.2)) (@Expr.casesOn (fun e => good (fun p : Expr × Str × Pos => Expr.Attribute p.1 p.2.1 p.2.2) (vAttribute e) e) e t3 t3 t4 t3 t4 t4 t3 t3 t4 t4 t5 t4 t2 t2 t2 t4 t4 t4 t2 t3 (fun a0 a1 a2 => rfl) t3 t2 t2 t2 t3 t4) h
noncomputable def vSubscript (e : Expr) : Option (Expr × Expr × Pos) :=
  @Expr.casesOn (fun _ => Option (Expr × Expr × Pos)) e nn3 nn3 nn4 nn3 nn4 nn4 nn3 nn3 nn4 nn4 nn5 nn4 nn2 nn2 nn2 nn4 nn4 nn4 nn2 nn3 nn3 (fun a0 a1 a2 => some (a0, a1, a2)) nn2 nn2 nn2 nn3 nn4
theorem vSubscript_ {e : Expr} {p : Expr × Expr × Pos} (h : vSubscript e = some p) : e = .Subscript p.1 p.2.1 p.2.2 :=
  good_ (mk := (fun p : Expr × Expr × Pos => Expr.Subscript p.1 p.2.1 p.2.2)) (@Expr.casesOn (fun e => good (fun p : Expr × Expr × Pos => Expr.Subscript p.1 p.2.1 p.2.2) (vSubscript e) e) e t3 t3 t4 t3 t4 t4 t3 t3 t4 t4 t5 t4 t2 t2 t2 t4 t4 t4 t2 t3 t3 (fun a0 a1 a2 => rfl) t2 t2 t2 t3 t4) h
noncomputable def vSlice (e : Expr) : Option ((Option Expr) × (Option Expr) × (Option Expr) × Pos) :=
  @Expr.casesOn (fun _ => Option ((Option Expr) × (Option Expr) × (Option Expr) × Pos)) e nn3 nn3 nn4 nn3 nn4 nn4 nn3 nn3 nn4 nn4 nn5 nn4 nn2 nn2 nn2 nn4 nn4 nn4 nn2 nn3 nn3 nn3 nn2 nn2 nn2 nn3 (fun a0 a1 a2 a3 => some (a0, a1, a2, a3))
theorem vSlice_ {e : Expr} {p : (Option Expr) × (Option Expr) × (Option Expr) × Pos} (h : vSlice e = some p) : e = .Slice p.1 p.2.1 p.2.2.1 p.2.2.2 :=
  good_ (mk := (fun p : (Option Expr) × (Option Expr) × (Option Expr) × Pos => Expr.Slice p.1 p.2.1 p.2.2.1 p.2.2.2)) (@Expr.casesOn (fun e => good (fun p : (Option Expr) × (Option Expr) × (Option Expr) × Pos => Expr.Slice p.1 p.2.1 p.2.2.1 p.2.2.2) (vSlice e) e) e t3 t3 t4 t3 t4 t4 t3 t3 t4 t4 t5 t4 t2 t2 t2 t4 t4 t4 t2 t3 t3 t3 t2 t2 t2 t3 (fun a0 a1 a2 a3 => rfl)) h
noncomputable def vCall (e : Expr) : Option (Expr × (List Expr) × (List Keyword) × Pos) :=
  @Expr.casesOn (fun _ => Option (Expr × (List Expr) × (List Keyword) × Pos)) e nn3 nn3 nn4 nn3 nn4 nn4 nn3 nn3 nn4 nn4 nn5 nn4 nn2 nn2 nn2 nn4 (fun a0 a1 a2 a3 => some (a0, a1, a2, a3)) nn4 nn2 nn3 nn3 nn3 nn2 nn2 nn2 nn3 nn4
theorem vCall_ {e : Expr} {p : Expr × (List Expr) × (List Keyword) × Pos} (h : vCall e = some p) : e = .Call p.1 p.2.1 p.2.2.1 p.2.2.2 :=
  good_ (mk := (fun p : Expr × (List Expr) × (List Keyword) × Pos => Expr.Call p.1 p.2.1 p.2.2.1 p.2.2.2)) (@Expr.casesOn (fun e => good (fun p : Expr × (List Expr) × (List Keyword) × Pos => Expr.Call p.1 p.2.1 p.2.2.1 p.2.2.2) (vCall e) e) e t3 t3 t4 t3 t4 t4 t3 t3 t4 t4 t5 t4 t2 t2 t2 t4 (fun a0 a1 a2 a3 => rfl) t4 t2 t3 t3 t3 t2 t2 t2 t3 t4) h
noncomputable def vListComp (e : Expr) : Option (Expr × (List Comprehension) × Scope × Pos) :=
  @Expr.casesOn (fun _ => Option (Expr × (List Comprehension) × Scope × Pos)) e nn3 nn3 nn4 nn3 nn4 nn4 nn3 nn3 (fun a0 a1 a2 a3 => some (a0, a1, a2, a3)) nn4 nn5 nn4 nn2 nn2 nn2 nn4 nn4 nn4 nn2 nn3 nn3 nn3 nn2 nn2 nn2 nn3 nn4
theorem vListComp_ {e : Expr} {p : Expr × (List Comprehension) × Scope × Pos} (h : vListComp e = some p) : e = .ListComp p.1 p.2.1 p.2.2.1 p.2.2.2 :=
  good_ (mk := (fun p : Expr × (List Comprehension) × Scope × Pos => Expr.ListComp p.1 p.2.1 p.2.2.1 p.2.2.2)) (@Expr.casesOn (fun e => good (fun p : Expr × (List Comprehension) × Scope × Pos => Expr.ListComp p.1 p.2.1 p.2.2.1 p.2.2.2) (vListComp e) e) e t3 t3 t4 t3 t4 t4 t3 t3 (fun a0 a1 a2 a3 => rfl) t4 t5 t4 t2 t2 t2 t4 t4 t4 t2 t3 t3 t3 t2 t2 t2 t3 t4) h
noncomputable def vTuple (e : Expr) : Option ((List Expr) × Nat × Pos) :=
  @Expr.casesOn (fun _ => Option ((List Expr) × Nat × Pos)) e nn3 nn3 nn4 nn3 nn4 nn4 nn3 nn3 nn4 nn4 nn5 nn4 nn2 nn2 nn2 nn4 nn4 nn4 nn2 nn3 nn3 nn3 nn2 nn2 nn2 (fun a0 a1 a2 => some (a0, a1, a2)) nn4
theorem vTuple_ {e : Expr} {p : (List Expr) × Nat × Pos} (h : vTuple e = some p) : e = .Tuple p.1 p.2.1 p.2.2 :=
  good_ (mk := (fun p : (List Expr) × Nat × Pos => Expr.Tuple p.1 p.2.1 p.2.2)) (@Expr.casesOn (fun e => good (fun p : (List Expr) × Nat × Pos => Expr.Tuple p.1 p.2.1 p.2.2) (vTuple e) e) e t3 t3 t4 t3 t4 t4 t3 t3 t4 t4 t5 t4 t2 t2 t2 t4 t4 t4 t2 t3 t3 t3 t2 t2 t2 (fun a0 a1 a2 => rfl) t4) h
noncomputable def vUnaryOp (e : Expr) : Option (UnaryOp × Expr × Pos) :=
  @Expr.casesOn (fun _ => Option (UnaryOp × Expr × Pos)) e nn3 nn3 nn4 (fun a0 a1 a2 => some (a0, a1, a2)) nn4 nn4 nn3 nn3 nn4 nn4 nn5 nn4 nn2 nn2 nn2 nn4 nn4 nn4 nn2 nn3 nn3 nn3 nn2 nn2 nn2 nn3 nn4
theorem vUnaryOp_ {e : Expr} {p : UnaryOp × Expr × Pos} (h : vUnaryOp e = some p) : e = .UnaryOp p.1 p.2.1 p.2.2 :=
  good_ (mk := (fun p : UnaryOp × Expr × Pos => Expr.UnaryOp p.1 p.2.1 p.2.2)) (@Expr.casesOn (fun e => good (fun p : UnaryOp × Expr × Pos => Expr.UnaryOp p.1 p.2.1 p.2.2) (vUnaryOp e) e) e t3 t3 t4 (fun a0 a1 a2 => rfl) t4 t4 t3 t3 t4 t4 t5 t4 t2 t2 t2 t4 t4 t4 t2 t3 t3 t3 t2 t2 t2 t3 t4) h
noncomputable def vBinOp (e : Expr) : Option (Expr × Operator × Expr × Pos) :=
  @Expr.casesOn (fun _ => Option (Expr × Operator × Expr × Pos)) e nn3 nn3 (fun a0 a1 a2 a3 => some (a0, a1, a2, a3)) nn3 nn4 nn4 nn3 nn3 nn4 nn4 nn5 nn4 nn2 nn2 nn2 nn4 nn4 nn4 nn2 nn3 nn3 nn3 nn2 nn2 nn2 nn3 nn4
theorem vBinOp_ {e : Expr} {p : Expr × Operator × Expr × Pos} (h : vBinOp e = some p) : e = .BinOp p.1 p.2.1 p.2.2.1 p.2.2.2 :=
  good_ (mk := (fun p : Expr × Operator × Expr × Pos => Expr.BinOp p.1 p.2.1 p.2.2.1 p.2.2.2)) (@Expr.casesOn (fun e => good (fun p : Expr × Operator × Expr × Pos => Expr.BinOp p.1 p.2.1 p.2.2.1 p.2.2.2) (vBinOp e) e) e t3 t3 (fun a0 a1 a2 a3 => rfl) t3 t4 t4 t3 t3 t4 t4 t5 t4 t2 t2 t2 t4 t4 t4 t2 t3 t3 t3 t2 t2 t2 t3 t4) h
noncomputable def vCompare (e : Expr) : Option (Expr × (List CmpOp) × (List Expr) × Pos) :=
  @Expr.casesOn (fun _ => Option (Expr × (List CmpOp) × (List Expr) × Pos)) e nn3 nn3 nn4 nn3 nn4 nn4 nn3 nn3 nn4 nn4 nn5 nn4 nn2 nn2 nn2 (fun a0 a1 a2 a3 => some (a0, a1, a2, a3)) nn4 nn4 nn2 nn3 nn3 nn3 nn2 nn2 nn2 nn3 nn4
theorem vCompare_ {e : Expr} {p : Expr × (List CmpOp) × (List Expr) × Pos} (h : vCompare e = some p) : e = .Compare p.1 p.2.1 p.2.2.1 p.2.2.2 :=
  good_ (mk := (fun p : Expr × (List CmpOp) × (List Expr) × Pos => Expr.Compare p.1 p.2.1 p.2.2.1 p.2.2.2)) (@Expr.casesOn (fun e => good (fun p : Expr × (List CmpOp) × (List Expr) × Pos => Expr.Compare p.1 p.2.1 p.2.2.1 p.2.2.2) (vCompare e) e) e t3 t3 t4 t3 t4 t4 t3 t3 t4 t4 t5 t4 t2 t2 t2 (fun a0 a1 a2 a3 => rfl) t4 t4 t2 t3 t3 t3 t2 t2 t2 t3 t4) h
noncomputable def vList (e : Expr) : Option ((List Expr) × Pos) :=
  @Expr.casesOn (fun _ => Option ((List Expr) × Pos)) e nn3 nn3 nn4 nn3 nn4 nn4 nn3 nn3 nn4 nn4 nn5 nn4 nn2 nn2 nn2 nn4 nn4 nn4 nn2 nn3 nn3 nn3 nn2 nn2 (fun a0 a1 => some (a0, a1)) nn3 nn4
theorem vList_ {e : Expr} {p : (List Expr) × Pos} (h : vList e = some p) : e = .List p.1 p.2 :=
  good_ (mk := (fun p : (List Expr) × Pos => Expr.List p.1 p.2)) (@Expr.casesOn (fun e => good (fun p : (List Expr) × Pos => Expr.List p.1 p.2) (vList e) e) e t3 t3 t4 t3 t4 t4 t3 t3 t4 t4 t5 t4 t2 t2 t2 t4 t4 t4 t2 t3 t3 t3 t2 t2 (fun a0 a1 => rfl) t3 t4) h
noncomputable def vIfExp (e : Expr) : Option (Expr × Expr × Expr × Pos) :=
  @Expr.casesOn (fun _ => Option (Expr × Expr × Expr × Pos)) e nn3 nn3 nn4 nn3 nn4 (fun a0 a1 a2 a3 => some (a0, a1, a2, a3)) nn3 nn3 nn4 nn4 nn5 nn4 nn2 nn2 nn2 nn4 nn4 nn4 nn2 nn3 nn3 nn3 nn2 nn2 nn2 nn3 nn4
theorem vIfExp_ {e : Expr} {p : Expr × Expr × Expr × Pos} (h : vIfExp e = some p) : e = .IfExp p.1 p.2.1 p.2.2.1 p.2.2.2 :=
  good_ (mk := (fun p : Expr × Expr × Expr × Pos => Expr.IfExp p.1 p.2.1 p.2.2.1 p.2.2.2)) (@Expr.casesOn (fun e => good (fun p : Expr × Expr × Expr × Pos => Expr.IfExp p.1 p.2.1 p.2.2.1 p.2.2.2) (vIfExp e) e) e t3 t3 t4 t3 t4 (fun a0 a1 a2 a3 => rfl) t3 t3 t4 t4 t5 t4 t2 t2 t2 t4 t4 t4 t2 t3 t3 t3 t2 t2 t2 t3 t4) h
noncomputable def vBoolOp (e : Expr) : Option (BoolOp × (List Expr) × Pos) :=
  @Expr.casesOn (fun _ => Option (BoolOp × (List Expr) × Pos)) e (fun a0 a1 a2 => some (a0, a1, a2)) nn3 nn4 nn3 nn4 nn4 nn3 nn3 nn4 nn4 nn5 nn4 nn2 nn2 nn2 nn4 nn4 nn4 nn2 nn3 nn3 nn3 nn2 nn2 nn2 nn3 nn4
theorem vBoolOp_ {e : Expr} {p : BoolOp × (List Expr) × Pos} (h : vBoolOp e = some p) : e = .BoolOp p.1 p.2.1 p.2.2 :=
  good_ (mk := (fun p : BoolOp × (List Expr) × Pos => Expr.BoolOp p.1 p.2.1 p.2.2)) (@Expr.casesOn (fun e => good (fun p : BoolOp × (List Expr) × Pos => Expr.BoolOp p.1 p.2.1 p.2.2) (vBoolOp e) e) e (fun a0 a1 a2 => rfl) t3 t4 t3 t4 t4 t3 t3 t4 t4 t5 t4 t2 t2 t2 t4 t4 t4 t2 t3 t3 t3 t2 t2 t2 t3 t4) h
noncomputable def uAssign (e : Stmt) : Option ((List Expr) × Expr × Pos) :=
  @Stmt.casesOn (fun _ => Option ((List Expr) × Expr × Pos)) e nn10 nn10 nn11 nn2 nn2 (fun a0 a1 a2 => some (a0, a1, a2)) nn7 nn4 nn5 nn5 nn5 nn4 nn4 nn3 nn3 nn3 nn3 nn5 nn5 nn3 nn2 nn4 nn2 nn2 nn2 nn1 nn1 nn1
theorem uAssign_ {e : Stmt} {p : (List Expr) × Expr × Pos} (h : uAssign e = some p) : e = .Assign p.1 p.2.1 p.2.2 :=
  good_ (mk := (fun p : (List Expr) × Expr × Pos => Stmt.Assign p.1 p.2.1 p.2.2)) (@Stmt.casesOn (fun e => good (fun p : (List Expr) × Expr × Pos => Stmt.Assign p.1 p.2.1 p.2.2) (uAssign e) e) e t10 t10 t11 t2 t2 (fun a0 a1 a2 => rfl) t7 t4 t5 t5 t5 t4 t4 t3 t3 t3 t3 t5 t5 t3 t2 t4 t2 t2 t2 t1 t1 t1) h
noncomputable def uAugAssign (e : Stmt) : Option (Expr × Operator × Expr × Pos) :=
  @Stmt.casesOn (fun _ => Option (Expr × Operator × Expr × Pos)) e nn10 nn10 nn11 nn2 nn2 nn3 nn7 (fun a0 a1 a2 a3 => some (a0, a1, a2, a3)) nn5 nn5 nn5 nn4 nn4 nn3 nn3 nn3 nn3 nn5 nn5 nn3 nn2 nn4 nn2 nn2 nn2 nn1 nn1 nn1
theorem uAugAssign_ {e : Stmt} {p : Expr × Operator × Expr × Pos} (h : uAugAssign e = some p) : e = .AugAssign p.1 p.2.1 p.2.2.1 p.2.2.2 :=
  good_ (mk := (fun p : Expr × Operator × Expr × Pos => Stmt.AugAssign p.1 p.2.1 p.2.2.1 p.2.2.2)) (@Stmt.casesOn (fun e => good (fun p : Expr × Operator × Expr × Pos => Stmt.AugAssign p.1 p.2.1 p.2.2.1 p.2.2.2) (uAugAssign e) e) e t10 t10 t11 t2 t2 t3 t7 (fun a0 a1 a2 a3 => rfl) t5 t5 t5 t4 t4 t3 t3 t3 t3 t5 t5 t3 t2 t4 t2 t2 t2 t1 t1 t1) h
noncomputable def uExpr (e : Stmt) : Option (Expr × Pos) :=
  @Stmt.casesOn (fun _ => Option (Expr × Pos)) e nn10 nn10 nn11 nn2 nn2 nn3 nn7 nn4 nn5 nn5 nn5 nn4 nn4 nn3 nn3 nn3 nn3 nn5 nn5 nn3 nn2 nn4 nn2 nn2 (fun a0 a1 => some (a0, a1)) nn1 nn1 nn1
theorem uExpr_ {e : Stmt} {p : Expr × Pos} (h : uExpr e = some p) : e = .Expr p.1 p.2 :=
  good_ (mk := (fun p : Expr × Pos => Stmt.Expr p.1 p.2)) (@Stmt.casesOn (fun e => good (fun p : Expr × Pos => Stmt.Expr p.1 p.2) (uExpr e) e) e t10 t10 t11 t2 t2 t3 t7 t4 t5 t5 t5 t4 t4 t3 t3 t3 t3 t5 t5 t3 t2 t4 t2 t2 (fun a0 a1 => rfl) t1 t1 t1) h
noncomputable def uReturn (e : Stmt) : Option ((Option Expr) × Pos) :=
  @Stmt.casesOn (fun _ => Option ((Option Expr) × Pos)) e nn10 nn10 nn11 (fun a0 a1 => some (a0, a1)) nn2 nn3 nn7 nn4 nn5 nn5 nn5 nn4 nn4 nn3 nn3 nn3 nn3 nn5 nn5 nn3 nn2 nn4 nn2 nn2 nn2 nn1 nn1 nn1
theorem uReturn_ {e : Stmt} {p : (Option Expr) × Pos} (h : uReturn e = some p) : e = .Return p.1 p.2 :=
  good_ (mk := (fun p : (Option Expr) × Pos => Stmt.Return p.1 p.2)) (@Stmt.casesOn (fun e => good (fun p : (Option Expr) × Pos => Stmt.Return p.1 p.2) (uReturn e) e) e t10 t10 t11 (fun a0 a1 => rfl) t2 t3 t7 t4 t5 t5 t5 t4 t4 t3 t3 t3 t3 t5 t5 t3 t2 t4 t2 t2 t2 t1 t1 t1) h
noncomputable def uIf (e : Stmt) : Option (Expr × (List Stmt) × (List Stmt) × Pos) :=
  @Stmt.casesOn (fun _ => Option (Expr × (List Stmt) × (List Stmt) × Pos)) e nn10 nn10 nn11 nn2 nn2 nn3 nn7 nn4 nn5 nn5 nn5 nn4 (fun a0 a1 a2 a3 => some (a0, a1, a2, a3)) nn3 nn3 nn3 nn3 nn5 nn5 nn3 nn2 nn4 nn2 nn2 nn2 nn1 nn1 nn1
theorem uIf_ {e : Stmt} {p : Expr × (List Stmt) × (List Stmt) × Pos} (h : uIf e = some p) : e = .If p.1 p.2.1 p.2.2.1 p.2.2.2 :=
  good_ (mk := (fun p : Expr × (List Stmt) × (List Stmt) × Pos => Stmt.If p.1 p.2.1 p.2.2.1 p.2.2.2)) (@Stmt.casesOn (fun e => good (fun p : Expr × (List Stmt) × (List Stmt) × Pos => Stmt.If p.1 p.2.1 p.2.2.1 p.2.2.2) (uIf e) e) e t10 t10 t11 t2 t2 t3 t7 t4 t5 t5 t5 t4 (fun a0 a1 a2 a3 => rfl) t3 t3 t3 t3 t5 t5 t3 t2 t4 t2 t2 t2 t1 t1 t1) h
noncomputable def uWhile (e : Stmt) : Option (Expr × (List Stmt) × (List Stmt) × Pos) :=
  @Stmt.casesOn (fun _ => Option (Expr × (List Stmt) × (List Stmt) × Pos)) e nn10 nn10 nn11 nn2 nn2 nn3 nn7 nn4 nn5 nn5 nn5 (fun a0 a1 a2 a3 => some (a0, a1, a2, a3)) nn4 nn3 nn3 nn3 nn3 nn5 nn5 nn3 nn2 nn4 nn2 nn2 nn2 nn1 nn1 nn1
theorem uWhile_ {e : Stmt} {p : Expr × (List Stmt) × (List Stmt) × Pos} (h : uWhile e = some p) : e = .While p.1 p.2.1 p.2.2.1 p.2.2.2 :=
  good_ (mk := (fun p : Expr × (List Stmt) × (List Stmt) × Pos => Stmt.While p.1 p.2.1 p.2.2.1 p.2.2.2)) (@Stmt.casesOn (fun e => good (fun p : Expr × (List Stmt) × (List Stmt) × Pos => Stmt.While p.1 p.2.1 p.2.2.1 p.2.2.2) (uWhile e) e) e t10 t10 t11 t2 t2 t3 t7 t4 t5 t5 t5 (fun a0 a1 a2 a3 => rfl) t4 t3 t3 t3 t3 t5 t5 t3 t2 t4 t2 t2 t2 t1 t1 t1) h
noncomputable def uFor (e : Stmt) : Option (Expr × Expr × (List Stmt) × (List Stmt) × Pos) :=
  @Stmt.casesOn (fun _ => Option (Expr × Expr × (List Stmt) × (List Stmt) × Pos)) e nn10 nn10 nn11 nn2 nn2 nn3 nn7 nn4 nn5 (fun a0 a1 a2 a3 a4 => some (a0, a1, a2, a3, a4)) nn5 nn4 nn4 nn3 nn3 nn3 nn3 nn5 nn5 nn3 nn2 nn4 nn2 nn2 nn2 nn1 nn1 nn1
theorem uFor_ {e : Stmt} {p : Expr × Expr × (List Stmt) × (List Stmt) × Pos} (h : uFor e = some p) : e = .For p.1 p.2.1 p.2.2.1 p.2.2.2.1 p.2.2.2.2 :=
  good_ (mk := (fun p : Expr × Expr × (List Stmt) × (List Stmt) × Pos => Stmt.For p.1 p.2.1 p.2.2.1 p.2.2.2.1 p.2.2.2.2)) (@Stmt.casesOn (fun e => good (fun p : Expr × Expr × (List Stmt) × (List Stmt) × Pos => Stmt.For p.1 p.2.1 p.2.2.1 p.2.2.2.1 p.2.2.2.2) (uFor e) e) e t10 t10 t11 t2 t2 t3 t7 t4 t5 (fun a0 a1 a2 a3 a4 => rfl) t5 t4 t4 t3 t3 t3 t3 t5 t5 t3 t2 t4 t2 t2 t2 t1 t1 t1) h
noncomputable def uTry (e : Stmt) : Option ((List Stmt) × (List ExceptHandler) × (List Stmt) × (List Stmt) × Pos) :=
  @Stmt.casesOn (fun _ => Option ((List Stmt) × (List ExceptHandler) × (List Stmt) × (List Stmt) × Pos)) e nn10 nn10 nn11 nn2 nn2 nn3 nn7 nn4 nn5 nn5 nn5 nn4 nn4 nn3 nn3 nn3 nn3 (fun a0 a1 a2 a3 a4 => some (a0, a1, a2, a3, a4)) nn5 nn3 nn2 nn4 nn2 nn2 nn2 nn1 nn1 nn1
theorem uTry_ {e : Stmt} {p : (List Stmt) × (List ExceptHandler) × (List Stmt) × (List Stmt) × Pos} (h : uTry e = some p) : e = .Try p.1 p.2.1 p.2.2.1 p.2.2.2.1 p.2.2.2.2 :=
  good_ (mk := (fun p : (List Stmt) × (List ExceptHandler) × (List Stmt) × (List Stmt) × Pos => Stmt.Try p.1 p.2.1 p.2.2.1 p.2.2.2.1 p.2.2.2.2)) (@Stmt.casesOn (fun e => good (fun p : (List Stmt) × (List ExceptHandler) × (List Stmt) × (List Stmt) × Pos => Stmt.Try p.1 p.2.1 p.2.2.1 p.2.2.2.1 p.2.2.2.2) (uTry e) e) e t10 t10 t11 t2 t2 t3 t7 t4 t5 t5 t5 t4 t4 t3 t3 t3 t3 (fun a0 a1 a2 a3 a4 => rfl) t5 t3 t2 t4 t2 t2 t2 t1 t1 t1) h
noncomputable def uBreak (e : Stmt) : Option (Pos) :=
  @Stmt.casesOn (fun _ => Option (Pos)) e nn10 nn10 nn11 nn2 nn2 nn3 nn7 nn4 nn5 nn5 nn5 nn4 nn4 nn3 nn3 nn3 nn3 nn5 nn5 nn3 nn2 nn4 nn2 nn2 nn2 nn1 (fun a0 => some a0) nn1
theorem uBreak_ {e : Stmt} {p : Pos} (h : uBreak e = some p) : e = .Break p :=
  good_ (mk := (fun p : Pos => Stmt.Break p)) (@Stmt.casesOn (fun e => good (fun p : Pos => Stmt.Break p) (uBreak e) e) e t10 t10 t11 t2 t2 t3 t7 t4 t5 t5 t5 t4 t4 t3 t3 t3 t3 t5 t5 t3 t2 t4 t2 t2 t2 t1 (fun a0 => rfl) t1) h
noncomputable def uContinue (e : Stmt) : Option (Pos) :=
  @Stmt.casesOn (fun _ => Option (Pos)) e nn10 nn10 nn11 nn2 nn2 nn3 nn7 nn4 nn5 nn5 nn5 nn4 nn4 nn3 nn3 nn3 nn3 nn5 nn5 nn3 nn2 nn4 nn2 nn2 nn2 nn1 nn1 (fun a0 => some a0)
theorem uContinue_ {e : Stmt} {p : Pos} (h : uContinue e = some p) : e = .Continue p :=
  good_ (mk := (fun p : Pos => Stmt.Continue p)) (@Stmt.casesOn (fun e => good (fun p : Pos => Stmt.Continue p) (uContinue e) e) e t10 t10 t11 t2 t2 t3 t7 t4 t5 t5 t5 t4 t4 t3 t3 t3 t3 t5 t5 t3 t2 t4 t2 t2 t2 t1 t1 (fun a0 => rfl)) h
theorem any_ {α : Type} {o : Option α} {p : α → Bool} (h : o.any p = true) : ∃ a, o = some a ∧ p a = true := by
  cases o with
  | none => cases h
  | some a => exact ⟨a, rfl, h⟩
structure EnvOk (f : Fm) (env : Env) (names : List (Str × NameKind)) (cw : Bool) : Prop where
  loc : env.locals = f.L
  frm : env.frame = some f.F
  ownL : f.L ∈ f.own
  ownC : cw = true → ∀ (i : Nat) (x : Str) (ce : Addr), f.ns[i]? = some (x, some ce) → names[i]? = some (x, NameKind.cell) → ce ∈ f.own
  knd : env.scope.kind = .function
  nm : env.scope.names = names
  glo : env.globals = mainGlobals
  bui : env.builtins = builtinsNs
  len : f.ns.length = names.length
  ndA : f.all.Nodup
  at_ : ∀ (i : Nat) x k, names[i]? = some (x, k) → ∃ p, f.ns[i]? = some (x, p) ∧ (k = .local → p = none) ∧ (k = .cell ∨ k = .free → ∃ c, p = some c ∧ env.cells.lookup x = some c)

noncomputable def nmAt (names : List (Str × NameKind)) (i : Nat) (x : Str) : Bool := match names[i]? with
  | some (y, k) => y == x && decide (names.lookup x = some k) && (k == .local || k == .cell || (k == .free && !(x == ("__classdict__" : Str)))) && !(x == ("__debug__" : Str))
  | none => false
noncomputable def nmSt (names : List (Str × NameKind)) (cw : Bool) (i : Nat) (x : Str) : Bool := match names[i]? with
  | some (y, k) => y == x && decide (names.lookup x = some k) && (k == .local || (k == .cell && cw)) && !(names.eraseIdx i).any fun q => q.1 == x
  | none => false
theorem nmAt_ {names : List (Str × NameKind)} {i : Nat} {x : Str} (h : nmAt names i x = true) : ∃ k, names[i]? = some (x, k) ∧ names.lookup x = some k ∧ (k = .local ∨ k = .cell ∨ (k = .free ∧ (x == ("__classdict__" : Str)) = false)) ∧ (x == ("__debug__" : Str)) = false := by
  unfold nmAt at h
  split at h
  · rename_i y k e
    simp only [Bool.and_eq_true, Bool.or_eq_true, beq_iff_eq, decide_eq_true_eq, Bool.not_eq_true'] at h
    obtain ⟨⟨⟨(rfl), h2⟩, h3⟩, h4⟩ := h
    refine ⟨k, e, h2, ?_, h4⟩
    rcases h3 with (h3 | h3) | h3
    · exact .inl h3
    · exact .inr (.inl h3)
    · exact .inr (.inr h3)
  · cases h

section
variable {c : Cx} {f : Fm} {σ : St} {env : Env} {names : List (Str × NameKind)} {cw : Bool}
theorem W_var {i : Nat} {x : Str} {pos : Pos} {v : Value} {Q : Value → St → Prop} (e : EnvOk f env names cw) (hi : nmAt names i x = true) (hv : (σ.vs[i]?).join = some v) (q : Q v σ) : W c f (eval (.Name x pos) env) σ Q := by
  obtain ⟨k, h1, h2, h3, h4⟩ := nmAt_ hi
  obtain ⟨p, hp, hl, hc⟩ := e.at_ i x k h1
  intro A E h tk r a
  have hk : env.kindOf x = some k := by unfold Env.kindOf; rw [e.nm]; exact h2
  rcases h3 with rfl | rfl | ⟨(rfl), h3⟩
  · obtain ⟨m, hn, hm⟩ := a.fr.ns
    have hx := hm i x (by rw [hp, hl rfl])
    exact wpAny_Name (wpAny_loadName_local (s := mk c.s h tk) e.knd hk (e.loc ▸ hn) (hx.trans hv) (.here a q)) h4
  · obtain ⟨ce, (rfl), hce⟩ := hc (.inl rfl)
    have hx := a.fr.cel i x ce hp
    rw [hv] at hx
    exact wpAny_Name (wpAny_loadName_cell (s := mk c.s h tk) e.knd hk hce hx (.here a q)) h4
  · obtain ⟨ce, (rfl), hce⟩ := hc (.inr rfl)
    have hx := a.fr.cel i x ce hp
    rw [hv] at hx
    exact wpAny_Name (wpAny_loadName_free (s := mk c.s h tk) e.knd hk hce hx (.here a q) h3) h4

theorem FrAt.set {vs : List (Option Value)} {h h' : Heap} {i : Nat} {x : Str} {p : Option Addr} {v : Value} (F : FrAt f vs h) (hown : f.all.Nodup) (hp : f.ns[i]? = some (x, p)) (hu : ∀ j y q, f.ns[j]? = some (y, q) → j ≠ i → y ≠ x)
    (k : match p with
      | none => (∀ m, h.Ns f.L m → h'.Ns f.L (fun y => if y = x then some v else m y)) ∧ ∀ b o, b ≠ f.L → h.get? b = some o → h'.get? b = some o
      | some ce => h'.IsCell ce (some v) ∧ ∀ b o, b ≠ ce → h.get? b = some o → h'.get? b = some o) : FrAt f (vs.set i (some v)) h' := by
  obtain ⟨hl, ⟨m, hn, hm⟩, hc⟩ := F
  have hz : (vs.set i (some v)).length = f.ns.length := by rw [List.length_set, hl]
  have hi : i < vs.length := by rw [hl]; exact (List.getElem?_eq_some_iff.mp hp).1
  have hsame : ((vs.set i (some v))[i]?).join = some v := by rw [List.getElem?_set_self hi]; rfl
  have hother : ∀ j, j ≠ i → ((vs.set i (some v))[j]?).join = (vs[j]?).join := fun j hj => by rw [List.getElem?_set_ne (fun z => hj z.symm)]
  cases p with
  | none =>
    obtain ⟨k1, k2⟩ := k
    refine ⟨hz, ⟨_, k1 m hn, fun j y e => ?_⟩, fun j y ce e => ?_⟩
    · by_cases hj : j = i
      · subst hj
        rw [hp] at e; cases e
        rw [if_pos rfl, hsame]
      · rw [if_neg (hu j y _ e hj), hother j hj]; exact hm j y e
    · have hj : j ≠ i := fun z => by subst z; rw [hp] at e; cases e
      rw [hother j hj]
      obtain ⟨o, ho, hd⟩ := hc j y ce e
      refine ⟨o, k2 ce o (fun z => ?_) ho, hd⟩
      have hce : ce ∈ f.ns.filterMap (·.2) := List.mem_filterMap.mpr ⟨(y, some ce), List.mem_of_getElem? e, rfl⟩
      exact (List.nodup_cons.mp hown).1 (z ▸ hce)
  | some c0 =>
    obtain ⟨k1, k2⟩ := k
    have hc0 : c0 ∈ f.ns.filterMap (·.2) := List.mem_filterMap.mpr ⟨(x, some c0), List.mem_of_getElem? hp, rfl⟩
    have hL : f.L ≠ c0 := fun z => (List.nodup_cons.mp hown).1 (z ▸ hc0)
    obtain ⟨oL, es, ep, ho, rest⟩ := hn
    refine ⟨hz, ⟨m, ⟨oL, es, ep, k2 _ _ hL ho, rest⟩, fun j y e => ?_⟩, fun j y ce e => ?_⟩
    · have hj : j ≠ i := fun z => by subst z; rw [hp] at e; cases e
      rw [hother j hj]; exact hm j y e
    · by_cases hj : j = i
      · subst hj
        rw [hp] at e; cases e
        rw [hsame]; exact k1
      · rw [hother j hj]
        obtain ⟨o, ho', hd⟩ := hc j y ce e
        refine ⟨o, k2 ce o (fun z => ?_) ho', hd⟩
        subst z
        -- two cells of one address
        have nd := (List.nodup_cons.mp hown).2
        have key : ∀ (l : List (Str × Option Addr)), (l.filterMap (·.2)).Nodup → ∀ (a b : Nat) (xa xb : Str), l[a]? = some (xa, some ce) → l[b]? = some (xb, some ce) → a = b := by
          intro l
          induction l with
          | nil => intro _ a b xa xb h1; simp at h1
          | cons q l ih =>
            intro nd a b xa xb h1 h2
            obtain ⟨y, o⟩ := q
            have nd' : (l.filterMap (·.2)).Nodup := by
              cases o with
              | none => simpa using nd
              | some z => simp only [List.filterMap_cons] at nd; exact (List.nodup_cons.mp nd).2
            have hin : ∀ (n : Nat) (xn : Str), l[n]? = some (xn, some ce) → ce ∈ l.filterMap (·.2) := fun n xn e => List.mem_filterMap.mpr ⟨(xn, some ce), List.mem_of_getElem? e, rfl⟩
            cases a with
            | zero =>
              cases b with
              | zero => rfl
              | succ b =>
                simp only [List.getElem?_cons_zero] at h1
                cases h1
                simp only [List.filterMap_cons] at nd
                exact absurd (hin b xb (by simpa using h2)) (List.nodup_cons.mp nd).1
            | succ a =>
              cases b with
              | zero =>
                simp only [List.getElem?_cons_zero] at h2
                cases h2
                simp only [List.filterMap_cons] at nd
                exact absurd (hin a xa (by simpa using h1)) (List.nodup_cons.mp nd).1
              | succ b => rw [ih nd' a b xa xb (by simpa using h1) (by simpa using h2)]
        exact hj (key f.ns nd j i y x e hp)

theorem nmSt_ {names : List (Str × NameKind)} {cw : Bool} {i : Nat} {x : Str} (h : nmSt names cw i x = true) : ∃ k, names[i]? = some (x, k) ∧ names.lookup x = some k ∧ (k = .local ∨ (k = .cell ∧ cw = true)) ∧ ∀ j y k', names[j]? = some (y, k') → j ≠ i → y ≠ x := by
  unfold nmSt at h
  split at h
  · rename_i y k e
    simp only [Bool.and_eq_true, Bool.or_eq_true, beq_iff_eq, decide_eq_true_eq, Bool.not_eq_true'] at h
    obtain ⟨⟨⟨(rfl), h2⟩, h3⟩, h4⟩ := h
    refine ⟨k, e, h2, h3, fun j z k' e' hj hz => ?_⟩
    subst hz
    have : (names.eraseIdx i).any (fun q => q.1 == z) = true := by
      refine List.any_eq_true.mpr ⟨(z, k'), List.mem_eraseIdx_iff_getElem?.mpr ⟨j, hj, e'⟩, by simp⟩
    rw [this] at h4; cases h4
  · cases h
theorem W_store {i : Nat} {x : Str} {v : Value} {Q : Unit → St → Prop} (e : EnvOk f env names cw) (hi : nmSt names cw i x = true) (q : Q () { σ with vs := σ.vs.set i (some v) }) : W c f (storeName env x v) σ Q := by
  obtain ⟨k, h1, h2, h3, h4⟩ := nmSt_ hi
  obtain ⟨p, hp, hl, hc⟩ := e.at_ i x k h1
  have hu : ∀ j y q, f.ns[j]? = some (y, q) → j ≠ i → y ≠ x := fun j y q hj hne => by
    have hlt : j < names.length := by rw [← e.len]; exact (List.getElem?_eq_some_iff.mp hj).1
    obtain ⟨p', hp', _⟩ := e.at_ j (names[j]).1 (names[j]).2 (by simp [hlt])
    rw [hj] at hp'
    have hy : y = (names[j]).1 := (Prod.mk.inj (Option.some.inj hp')).1
    rw [hy]; exact h4 j _ (names[j]).2 (by simp [hlt]) hne
  intro A E h tk r a
  have hk : env.kindOf x = some k := by unfold Env.kindOf; rw [e.nm]; exact h2
  rcases h3 with rfl | ⟨(rfl), hcw⟩
  · have hpn := hl rfl
    subst hpn
    obtain ⟨m, hn, hm⟩ := a.fr.ns
    refine wpAny_storeName_local (s := mk c.s h tk) hk (e.loc ▸ hn) (fun h' hn' hs => ?_) (by rw [e.knd]; rfl)
    rw [e.loc] at hs hn'
    obtain ⟨oL, es, ep, ho, hdat, hrest⟩ := hn'
    have S : ∀ b o, b ≠ f.L → h.get? b = some o → h'.get? b = some o := fun b o hb eb => (hs.2 b hb).trans eb
    refine ⟨{ σ with vs := σ.vs.set i (some v) }, h', _, rfl, ⟨a.hp.chgO e.ownL S ho (fun _ => ⟨es, ep, hdat⟩) (fun n hz => hs.1.trans (a.hp.sz n hz)), a.fr.set e.ndA hp hu ⟨fun m' hm' => ?_, S⟩⟩, .chgO e.ownL S ho, q⟩
    have hmm : m = m' := by
      obtain ⟨o1, e1, p1, g1, d1, k1, f1⟩ := hn
      obtain ⟨o2, e2, p2, g2, d2, k2, f2⟩ := hm'
      rw [g1] at g2
      cases g2
      rw [d1] at d2
      injection d2 with d2a d2b
      subst d2a
      funext y
      rw [← f1 y, ← f2 y]
    subst hmm
    exact ⟨oL, es, ep, ho, hdat, hrest⟩
  · obtain ⟨ce, (rfl), hce⟩ := hc (.inl rfl)
    have hx := a.fr.cel i x ce hp
    refine wpAny_storeName_cell (s := mk c.s h tk) e.knd hk hce hx (fun h' hn' hs => ?_)
    have S : ∀ b o, b ≠ ce → h.get? b = some o → h'.get? b = some o := fun b o hb eb => (hs.2 b hb).trans eb
    obtain ⟨o, ho, hd⟩ := id hn'
    have hnf : ce ∈ c.fs → IsDic o := fun q => by
      obtain ⟨⟨o1, e1, es, ep, e2⟩, _⟩ := a.hp.frm ce q
      obtain ⟨o2, e3, e4⟩ := hx
      rw [e1] at e3; cases e3; rw [e2] at e4; cases e4
    exact ⟨{ σ with vs := σ.vs.set i (some v) }, h', _, rfl, ⟨a.hp.chgO (e.ownC hcw i x ce hp h1) S ho hnf (fun n hz => hs.1.trans (a.hp.sz n hz)), a.fr.set e.ndA hp hu ⟨hn', S⟩⟩, .chgO (e.ownC hcw i x ce hp h1) S ho, q⟩
theorem W_bindName {i : Nat} {x : Str} {v : Value} {Q : Unit → St → Prop} (e : EnvOk f env names cw) (hi : nmSt names cw i x = true) (q : Q () { σ with vs := σ.vs.set i (some v) }) : W c f (bindName env x v) σ Q :=
  fun A E h tk r a => bindName_ (W_store e hi q A E h tk r a)
end
noncomputable def IsLs (xs : List Value) (o : Obj) : Prop := o.cls = .type "list" ∧ o.dict = none ∧ ∃ n, o.data = .seq xs.toArray n
theorem IsLs.isList {h : Heap} {l : Addr} {xs : List Value} (x : ∃ o, h.get? l = some o ∧ IsLs xs o) : h.IsList l xs.toArray := let ⟨o, a, b, _, n, c⟩ := x; ⟨o, a, b, n, c⟩
theorem IsLs.isL {h : Heap} {l : Addr} {xs : List Value} (x : ∃ o, h.get? l = some o ∧ IsLs xs o) : ∃ o, h.get? l = some o ∧ IsL xs o := let ⟨o, a, b, _, n, c⟩ := x; ⟨o, a, b, n, c⟩
theorem IsLs.map {xs : List Value} {o : Obj} (x : IsLs xs o) (g : Array Value → Array Value) {ys : List Value} (e : g xs.toArray = ys.toArray) : IsLs ys (o.mapSeq g) := by
  obtain ⟨a, b, n, d⟩ := x
  obtain ⟨c, di, dt, sl⟩ := o
  simp only at a b d
  subst a b d
  exact ⟨rfl, rfl, _, congrArg (fun z => Data.seq z (if (g xs.toArray).size == xs.toArray.size then n else n + 1)) e⟩
theorem IsLs.notFreed {xs : List Value} {o : Obj} (x : IsLs xs o) : o.isFreed = false := let ⟨_, _, _, d⟩ := x; Obj.isFreed_of_seq d
noncomputable def Lst (σ : St) (l : Addr) (xs : List Value) : Prop := (∃ o, σ.g.get? l = some o ∧ IsLs xs o) ∨ (l, IsLs xs) ∈ σ.led
noncomputable def IsT (xs : List Value) (o : Obj) : Prop := o = { cls := .type "tuple", data := .seq xs.toArray }
noncomputable def chgL (led : Ledger) (a : Addr) (P : Obj → Prop) : Ledger := led.map fun p => if p.1 = a then (a, P) else p
theorem chgL_split {led : Ledger} {a : Addr} {P P' : Obj → Prop} (nd : (adr led).Nodup) (h : (a, P) ∈ led) : Ex2 fun l1 l2 => led = l1 ++ (a, P) :: l2 ∧ chgL led a P' = l1 ++ (a, P') :: l2 := by
  obtain ⟨l1, l2, (rfl)⟩ := List.append_of_mem h
  refine ⟨l1, l2, rfl, ?_⟩
  have nd' : (adr l1 ++ a :: adr l2).Nodup := by simpa using nd
  rw [List.nodup_append] at nd'
  obtain ⟨U, n2, n3⟩ := nd'
  have e1 : ∀ l : Ledger, a ∉ adr l → chgL l a P' = l := by
    intro l hl
    unfold chgL
    conv => rhs; rw [← List.map_id l]
    refine List.map_congr_left fun p hp => ?_
    have hz : ¬ p.1 = a := fun z => hl (by rw [← z]; exact List.mem_map_of_mem (f := fun q : Addr × (Obj → Prop) => q.1) hp)
    rw [if_neg hz]; rfl
  unfold chgL at e1 ⊢
  rw [List.map_append, List.map_cons, e1 l1 (fun q => n3 a q a List.mem_cons_self rfl), e1 l2 (List.nodup_cons.mp n2).1, if_pos rfl]

section
variable {c : Cx} {f : Fm} {σ : St} {h : Heap}
theorem Lst.at {l : Addr} {xs : List Value} (a : At c f σ h) (x : Lst σ l xs) : ∃ o, h.get? l = some o ∧ IsLs xs o := by
  rcases x with ⟨o, e, q⟩ | x
  · exact ⟨o, a.hp.sub _ _ e, q⟩
  · exact a.hp.ld _ x
theorem W_addI {x y : Int} {t u : Tok} {Q : Value → St → Prop} (q : ∀ t, Q (.int (x + y) t) σ) : W c f (binaryOp .Add (.int x t) (.int y u)) σ Q :=
  fun U U U U U a => r_add fun t U => .here a (q t)
theorem W_subI {x y : Int} {t u : Tok} {Q : Value → St → Prop} (q : ∀ t, Q (.int (x - y) t) σ) : W c f (binaryOp .Sub (.int x t) (.int y u)) σ Q :=
  fun U U U U U a => r_sub fun t U => .here a (q t)
theorem W_mulI {x y : Int} {t u : Tok} {Q : Value → St → Prop} (hm : IntMulOk x y) (q : ∀ t, Q (.int (x * y) t) σ) : W c f (binaryOp .Mult (.int x t) (.int y u)) σ Q :=
  fun U U U U U a => r_mul hm fun t U => .here a (q t)
theorem W_shrI {x : Int} {t u : Tok} {Q : Value → St → Prop} (q : ∀ t, Q (.int (x.fdiv 2) t) σ) : W c f (binaryOp .RShift (.int x t) (.int 1 u)) σ Q :=
  fun U U U U U a => r_shr1 fun t U => .here a (q t)
theorem W_negI {x : Int} {t : Tok} {Q : Value → St → Prop} (q : ∀ t, Q (.int (-x) t) σ) : W c f (unaryOp .USub (.int x t)) σ Q :=
  fun U U U U U a => PyProof.Rows.neg_int (.here a (q _))
theorem W_ltI {x y : Int} {t u : Tok} {Q : Value → St → Prop} (q : Q (.bool (decide (x < y))) σ) : W c f (compareOp .Lt (.int x t) (.int y u)) σ Q :=
  fun U U U U U a => PyProof.Rows.lt_int (.here a q)
theorem W_gtI {x y : Int} {t u : Tok} {Q : Value → St → Prop} (q : Q (.bool (decide (y < x))) σ) : W c f (compareOp .Gt (.int x t) (.int y u)) σ Q :=
  fun U U U U U a => PyProof.Rows.gt_int (.here a q)
theorem W_truthB {b : Bool} {Q : Bool → St → Prop} (q : Q b σ) : W c f (truthy (.bool b)) σ Q := fun U U U U U a => wpAny_truthy_bool (.here a q)
theorem W_item {value slice : Expr} {l : Addr} {xs : List Value} {k : Int} {u : Tok} {Q : Value → St → Prop} (hl : Lst σ l xs) (h0 : 0 ≤ k) (hk : k < xs.length) (hz : xs.length < 2 ^ 62)
    (hs : subscripted slice false (.ref l) (.int k u) = operate [.ref l, .int k u] (getItem (.ref l) (.int k u))) (q : Q (xs.getD k.toNat .none) σ) : W c f (subscriptTail value slice (.ref l) (.int k u)) σ Q :=
  fun U U U U U a => r_item (IsLs.isL (hl.at a)) h0 hk hz hs (.here a q)
theorem At.chg {a : Addr} {P P' : Obj → Prop} {h' : Heap} (A : At c f σ h) (hm : (a, P) ∈ σ.led) (hs : Heap.SameBut a h h') {o : Obj} (e : h'.get? a = some o) (hP : P' o) :
    At c f { σ with led := chgL σ.led a P' } h' ∧ Mv c.fs f.own σ.g σ.led h σ.g (chgL σ.led a P') h' := by
  obtain ⟨l1, l2, e1, e2⟩ := chgL_split (P' := P') A.hp.nd hm
  have S : ∀ b o, b ≠ a → h.get? b = some o → h'.get? b = some o := fun b o hb eb => (hs.2 b hb).trans eb
  have ha : a ∈ adr σ.led := List.mem_map_of_mem (f := fun p : Addr × (Obj → Prop) => p.1) hm
  refine ⟨⟨?_, A.fr.keep fun b hb o eb => S b o (fun z => A.hp.ap b hb (z ▸ ha)) eb⟩, ?_⟩
  · have := A.hp.chg e1 S e hP (sz' := σ.sz) (fun n hn => hs.1.trans (A.hp.sz n hn))
    rw [← e2] at this; exact this
  · have := Mv.chg (fs := c.fs) (own := f.own) (g := σ.g) (P' := P') e1 S e
    rw [← e2] at this; exact this
theorem W_setItem {l : Addr} {xs : List Value} {k : Int} {u : Tok} {v : Value} {Q : Unit → St → Prop} (hl : (l, IsLs xs) ∈ σ.led) (h0 : 0 ≤ k) (hk : k < xs.length) (hz : xs.length ≤ sizeLine)
    (q : Q () { σ with led := chgL σ.led l (IsLs (xs.set k.toNat v)) }) : W c f (setItem (.ref l) (.int k u) v) σ Q := by
  intro A E h tk r a
  obtain ⟨o, ho, hP⟩ := a.hp.ld _ hl
  have hL : h.IsList l xs.toArray := IsLs.isList ⟨o, ho, hP⟩
  obtain ⟨U, U, n, hd⟩ := id hP
  have hsz : sizeLine < 2 ^ 63 := by decide
  unfold setItem
  try with_reducible refine wpAny_holding ?_
  first | refine wpAny_bind (wpAny_pure ?_) | skip
  refine wpAny_bind (wpAny_sequenceKey (s := mk c.s h tk) hL.typeIs (by decide) ?_)
  refine wpAny_bind (wpAny_callSpecial?_slot (s := mk c.s h tk) (name := Str.ofString "__setitem__") hL.typeIs slot_list_setitem
    (wpAny_call_entry (s := mk c.s h tk) slot_list_setitem hL.typeIs entry_list_setitem ?_ (args_list_setitem _ _ _)))
  show wpAny _ _ (Builtin.List.listSubscript? (.int k u) >>= _) _ _ _
  refine wpAny_bind (wpAny_listSubscript_int (fitsIndex_of h0 (by omega)) ?_)
  obtain ⟨j, (rfl)⟩ := Int.eq_ofNat_of_zero_le h0
  have hj : j < xs.toArray.size := by simp; omega
  show wpAny _ _ ((seqItemAt l j >>= fun r => pure (r.map (j, ·))) >>= _) _ _ _
  refine wpAny_bind (wpAny_bind (wpAny_seqItemAt (s := mk c.s h tk) ho hd (wpAny_pure ?_)))
  rw [Array.getElem?_eq_getElem hj]
  show wpAny _ _ (setSeqItemAt l j v >>= _) _ _ _
  have hP' : IsLs (xs.set j v) (o.mapSeq (·.setIfInBounds j v)) := hP.map _ (by simp)
  obtain ⟨a', m'⟩ := a.chg hl (Heap.SameBut.update h l (Obj.mapSeq (·.setIfInBounds j v))) (Heap.get?_update_self _ ho hP'.notFreed) hP'
  have fin : Pst c f σ h Q () (mk c.s (h.update l (Obj.mapSeq (·.setIfInBounds j v))) tk) := ⟨_, _, _, rfl, a', m', q⟩
  exact wpAny_bind (wpAny_setSeqItemAt (s := mk c.s h tk) ho hd (wpAny_pure ⟨_, rfl, wpAny_pure fin⟩))
theorem W_len {l : Addr} {xs : List Value} {Q : Value → St → Prop} (hl : Lst σ l xs) (hz : xs.length < 2 ^ 62) (q : ∀ t, Q (.int xs.length t) σ) : W c f (call (.builtin "len") [.ref l]) σ Q :=
  fun U U U U U a => r_len (IsLs.isL (hl.at a)) hz fun t U => .here a (q t)
noncomputable def szUp (σ : St) (k : Nat) : Option Nat := σ.sz.map (· + k)
theorem At.newL {o : Obj} {P : Obj → Prop} (A : At c f σ h) (hf : o.isFreed = false) (hP : P o) :
    At c f { σ with led := (h.objs.size, P) :: σ.led, sz := szUp σ 1 } (h.push o) ∧ Mv c.fs f.own σ.g σ.led h σ.g ((h.objs.size, P) :: σ.led) (h.push o) := by
  have hn : h.get? h.objs.size = none := Heap.get?_none_of_le (Nat.le_refl _)
  refine ⟨⟨A.hp.newL (Sub.push _ _) hn (Heap.get?_push_size _ hf) hP fun n hz => ?_, A.fr.keep fun b U o e => Sub.push _ _ _ _ e⟩, .newL (Sub.push _ _) hn⟩
  unfold szUp at hz
  cases q : σ.sz with
  | none => rw [q] at hz; cases hz
  | some m => rw [q] at hz; cases hz; rw [Heap.size_push, A.hp.sz m q]
theorem At.newG {o : Obj} (A : At c f σ h) (hf : o.isFreed = false) :
    At c f { σ with g := more σ.g (h.push o) [h.objs.size], sz := szUp σ 1 } (h.push o) ∧ Mv c.fs f.own σ.g σ.led h (more σ.g (h.push o) [h.objs.size]) σ.led (h.push o) ∧ Sub σ.g (more σ.g (h.push o) [h.objs.size]) ∧
      (more σ.g (h.push o) [h.objs.size]).get? h.objs.size = some o ∧ σ.g.get? h.objs.size = none := by
  have hn : h.get? h.objs.size = none := Heap.get?_none_of_le (Nat.le_refl _)
  refine ⟨⟨A.hp.newG (Sub.push _ _) (none_one hn) fun n hz => ?_, A.fr.keep fun b U o e => Sub.push _ _ _ _ e⟩, .newG A.hp (Sub.push _ _) (none_one hn), more_sub (A.hp.sub.trans (Sub.push _ _)), more_at (Heap.get?_push_size _ hf) (List.mem_singleton.mpr rfl), ?_⟩
  · unfold szUp at hz
    cases q : σ.sz with
    | none => rw [q] at hz; cases hz
    | some m => rw [q] at hz; cases hz; rw [Heap.size_push, A.hp.sz m q]
  · cases q : σ.g.get? h.objs.size with
    | none => rfl
    | some o => rw [A.hp.sub _ _ q] at hn; cases hn
theorem W_newList {vs : List Value} {Q : Value → St → Prop} (hz : vs.length ≤ sizeLine) (q : ∀ a, σ.g.get? a = none → a ∉ adr σ.led → Q (.ref a) { σ with led := (a, IsLs vs) :: σ.led, sz := szUp σ 1 }) : W c f (newList vs) σ Q := by
  intro A E h tk r a
  refine wpAny_newList (s := mk c.s h tk) ?_ hz
  obtain ⟨a', m'⟩ := a.newL (o := { cls := .type "list", data := .seq vs.toArray }) (P := IsLs vs) rfl ⟨rfl, rfl, _, rfl⟩
  exact ⟨_, _, _, rfl, a', m', q _ (a'.hp.offL _ List.mem_cons_self) (List.nodup_cons.mp a'.hp.nd).1⟩
theorem W_newTuple {vs : List Value} {Q : Value → St → Prop} (hz : vs.length ≤ sizeLine) (q : ∀ g' a o, Sub σ.g g' → σ.g.get? a = none → g'.get? a = some o → IsT vs o → Q (.ref a) { σ with g := g', sz := szUp σ 1 }) : W c f (newTuple vs) σ Q := by
  intro A E h tk r a
  refine wpAny_newTuple (s := mk c.s h tk) ?_ hz
  obtain ⟨a', m', s', e', n'⟩ := a.newG (o := { cls := .type "tuple", data := .seq vs.toArray }) rfl
  exact ⟨_, _, _, rfl, a', m', q _ _ _ s' n' e' rfl⟩
theorem W_append {l : Addr} {xs : List Value} {x : Value} {Q : Value → St → Prop} (hl : (l, IsLs xs) ∈ σ.led) (hz : xs.length ≤ sizeLine) (q : Q .none { σ with led := chgL σ.led l (IsLs (xs ++ [x])) }) : W c f (call (.builtin "list.append") [.ref l, x]) σ Q := by
  intro A E h tk r a
  obtain ⟨o, ho, hP⟩ := a.hp.ld _ hl
  have hL : h.IsList l xs.toArray := IsLs.isList ⟨o, ho, hP⟩
  obtain ⟨U, U, n, hd⟩ := id hP
  refine wpAny_call_entry (s := mk c.s h tk) slot_list_append hL.typeIs entry_list_append ?_ (args_list_append _ _)
  show wpAny _ _ (updateSeq l (·.push x) >>= fun U => ret .none) _ _ _
  have hP' : IsLs (xs ++ [x]) (o.mapSeq (·.push x)) := hP.map _ (by simp)
  obtain ⟨a', m'⟩ := a.chg hl (Heap.SameBut.update h l (Obj.mapSeq (·.push x))) (Heap.get?_update_self _ ho hP'.notFreed) hP'
  exact wpAny_bind (wpAny_updateSeq (s := mk c.s h tk) ho hd (wpAny_pure ⟨.none, rfl, _, _, _, rfl, a', m', q⟩) (by simpa using hz) (by simp; omega))
end
structure Tb where
  names : List (Str × NameKind)
  tab : List (Str × Value)
  cw : Bool := true
noncomputable def Plain (c : Cx) (g : Heap) (fv : Value) : Prop :=
  ∀ (A : Around) (E : Value → Shared → Prop) (st : Shared) (pos : Pos) (env : Env) (e : Expr) (rest : List Expr) (Q : Value → Shared → Prop), Rk c A →
    starEach (e :: rest) env = (false, eval e env) :: starEach rest env → (backTo pos (starEach rest env)).any (·.1) = false →
    wpAny (model c.prog c.w) A (spliced (backTo pos (starEach (e :: rest) env))) (fun vs s' => Sub g s'.heap ∧ wpAny (model c.prog c.w) A (call fv vs) Q E s') E st →
    wpAny (model c.prog c.w) A (callWith pos fv [] (backTo pos (starEach (e :: rest) env)) []) Q E st
theorem Plain.bui {c : Cx} {g : Heap} {id : String} : Plain c g (.builtin id) := fun U U U U U U U U U he hp x =>
  PyProof.Rows.callWith_builtin1 (wpAny_mono x (fun U U y => y.2) fun U U y => y) he hp
theorem Plain.typ {c : Cx} {g : Heap} {T : String} : Plain c g (.type T) := fun A E st pos env e rest Q r he hp x => by
  rw [he] at x ⊢
  exact PySem.callWith_type (by show (false || (backTo pos (starEach rest env)).any (·.1)) = false; rw [hp]; rfl) (evalArgs_plain (wpAny_mono x (fun U U y => y.2) fun U U y => y))
theorem Plain.fn {c : Cx} {g : Heap} {a : Addr} {o : Obj} {fd : FuncData} (ho : g.get? a = some o) (hd : o.data = .func fd) : Plain c g (.ref a) := fun A E st pos env e rest Q r he hp x =>
  callWith_def (o := o) (fd := fd) hd (wpAny_mono x (fun U U y => ⟨y.1 _ _ ho, y.2⟩) fun U U y => y) he

section
variable {α β : Type} {c : Cx} {f : Fm} {σ : St} {env : Env}
theorem Pst.step {h : Heap} {A : Around} {E : Value → Shared → Prop} {t : α → Sem β} {Q : β → St → Prop} {R : β → Shared → Prop} (r : Rk c A) {v : α} {s' : Shared} (x : Pst c f σ h (fun v σ' => W c f (t v) σ' Q) v s')
    (k : ∀ v' s'', Pst c f σ h Q v' s'' → R v' s'') : wpAny (model c.prog c.w) A (t v) R E s' :=
  wpAny_mono (x.then r fun U U U y => y) k fun U U e => e
theorem W_BinOp {l : Expr} {op : Operator} {r : Expr} {pos : Pos} {Q : Value → St → Prop} (H : W c f (eval l env) σ fun x σ => W c f (eval r env) σ fun y σ => W c f (binaryOp op x y) σ Q) : W c f (eval (.BinOp l op r pos) env) σ Q :=
  fun A E h tk r a => wpAny_BinOp (wpAny_mono (H A E h tk r a) (fun x s1 p1 => p1.step r fun y s2 p2 => p2.step r fun U U p => p) fun U U e => e)
theorem W_Compare {l : Expr} {op : CmpOp} {r : Expr} {pos : Pos} {Q : Value → St → Prop} (hm : behindInMarks op r = false) (H : W c f (eval l env) σ fun x σ => W c f (eval r env) σ fun y σ => W c f (compareOp op x y) σ Q) : W c f (eval (.Compare l [op] [r] pos) env) σ Q :=
  fun A E h tk r a => wpAny_Compare1 (wpAny_mono (H A E h tk r a) (fun x s1 p1 => p1.step r fun y s2 p2 => p2.step r fun U U p => p) fun U U e => e) hm
theorem W_isCompare {l : Expr} {op : CmpOp} {r : Expr} {pos : Pos} {whole : Sem Value} {Q : Bool → St → Prop} (hm : behindInMarks op r = false)
    (H : W c f (eval l env) σ fun x σ => W c f (eval r env) σ fun y σ => W c f (compareOp op x y) σ fun z σ => W c f (truthy z) σ Q) : W c f (isTrue (.Compare l [op] [r] pos) env whole) σ Q :=
  fun A E h tk r a => wpAny_isTrue_Compare1 (wpAny_mono (H A E h tk r a) (fun x s1 p1 => p1.step r fun y s2 p2 => p2.step r fun z s3 p3 => p3.step r fun U U p => p) fun U U e => e) hm
theorem W_Sub {v s : Expr} {pos : Pos} {Q : Value → St → Prop} (H : W c f (eval v env) σ fun x σ => W c f (eval s env) σ fun y σ => W c f (subscriptTail v s x y) σ Q) : W c f (eval (.Subscript v s pos) env) σ Q :=
  fun A E h tk r a => Subscript_ (wpAny_mono (H A E h tk r a) (fun x s1 p1 => p1.step r fun y s2 p2 => p2.step r fun U U p => p) fun U U e => e)
theorem W_Neg {x : Expr} {op : UnaryOp} {pos : Pos} {Q : Value → St → Prop} (H : W c f (eval x env) σ fun v σ => W c f (unaryOp op v) σ Q) : W c f (eval (.UnaryOp op x pos) env) σ Q :=
  fun A E h tk r a => UnaryOp_ (wpAny_mono (H A E h tk r a) (fun x s1 p1 => p1.step r fun U U p => p) fun U U e => e)
theorem W_List {es : List Expr} {pos : Pos} {Q : Value → St → Prop} (H : W c f (spliced (backTo pos (starEach es env))) σ fun vs σ => W c f (newList vs) σ Q) : W c f (eval (.List es pos) env) σ Q :=
  fun A E h tk r a => List_ (wpAny_mono (H A E h tk r a) (fun x s1 p1 => p1.step r fun U U p => p) fun U U e => e)
theorem W_Tuple {es : List Expr} {k : Nat} {pos : Pos} {Q : Value → St → Prop} (H : W c f (spliced (backTo pos (starEach es env))) σ fun vs σ => W c f (newTuple vs) σ Q) : W c f (eval (.Tuple es k pos) env) σ Q :=
  fun A E h tk r a => Tuple_ (wpAny_mono (H A E h tk r a) (fun x s1 p1 => p1.step r fun U U p => p) fun U U e => e)
theorem Pst.at {h : Heap} {Q Q' : α → St → Prop} {v : α} {s' : Shared} (x : Pst c f σ h Q v s') (k : ∀ σ', Sub σ.g σ'.g → Q v σ' → Q' v σ') : Pst c f σ h Q' v s' := by
  obtain ⟨σ', h', tk', e, a, m, q⟩ := x
  exact ⟨σ', h', tk', e, a, m, k σ' m.gg q⟩
theorem Pst.stepB {h : Heap} {A : Around} {E : Value → Shared → Prop} {t t' : Sem β} {Q Q' : β → St → Prop} {R : β → Shared → Prop} (r : Rk c A) {z : Bool} {s' : Shared} (x : Pst c f σ h (fun z σ => if z = true then W c f t σ Q else W c f t' σ Q') z s')
    (k : ∀ v' s'', z = true → Pst c f σ h Q v' s'' → R v' s'') (k' : ∀ v' s'', z = false → Pst c f σ h Q' v' s'' → R v' s'') : if z = true then wpAny (model c.prog c.w) A t R E s' else wpAny (model c.prog c.w) A t' R E s' := by
  cases z with
  | true => exact Pst.step (t := fun U => t) r (x.at (Q' := fun _ σ => W c f t σ Q) fun U U q => q) fun v s p => k v s rfl p
  | false => exact Pst.step (t := fun U => t') r (x.at (Q' := fun _ σ => W c f t' σ Q') fun U U q => q) fun v s p => k' v s rfl p
theorem W_IfExp {t a b : Expr} {pos : Pos} {Q : Value → St → Prop} (H : W c f (isTrue t env (eval t env)) σ fun z σ => if z = true then W c f (eval a env) σ Q else W c f (eval b env) σ Q) : W c f (eval (.IfExp t a b pos) env) σ Q :=
  fun A E h tk r x => IfExp_ (wpAny_mono (H A E h tk r x) (fun z s1 p1 => p1.stepB r (fun U U U p => p) (fun U U U p => p)) fun U U e => e)
theorem W_isAnd {x : Expr} {rest : List Expr} {pos : Pos} {whole : Sem Value} {Q : Bool → St → Prop} (H : W c f (isTrue x env (eval x env)) σ fun z σ => if z = true then W c f (isTrue (.BoolOp .And rest pos) env whole) σ Q else Q false σ) :
    W c f (isTrue (.BoolOp .And (x :: rest) pos) env whole) σ Q := by
  intro A E h tk r a
  refine isTrue_and (wpAny_mono (H A E h tk r a) (fun z s1 p1 => ?_) fun U U e => e)
  cases z with
  | true => exact Pst.step (t := fun U => isTrue (.BoolOp .And rest pos) env whole) r (p1.at (Q' := fun _ σ => W c f (isTrue (.BoolOp .And rest pos) env whole) σ Q) fun U U q => q) fun U U p => p
  | false => exact p1.at fun U U q => q
theorem W_isOr {x : Expr} {rest : List Expr} {pos : Pos} {whole : Sem Value} {Q : Bool → St → Prop} (H : W c f (isTrue x env (eval x env)) σ fun z σ => if z = true then Q true σ else W c f (isTrue (.BoolOp .Or rest pos) env whole) σ Q) :
    W c f (isTrue (.BoolOp .Or (x :: rest) pos) env whole) σ Q := by
  intro A E h tk r a
  refine isTrue_or (wpAny_mono (H A E h tk r a) (fun z s1 p1 => ?_) fun U U e => e)
  cases z with
  | false => exact Pst.step (t := fun U => isTrue (.BoolOp .Or rest pos) env whole) r (p1.at (Q' := fun _ σ => W c f (isTrue (.BoolOp .Or rest pos) env whole) σ Q) fun U U q => q) fun U U p => p
  | true => exact p1.at fun U U q => q
theorem W_isNot {x : Expr} {pos : Pos} {whole : Sem Value} {Q : Bool → St → Prop} (H : W c f (isTrue x env (eval x env)) σ fun z σ => Q (!z) σ) : W c f (isTrue (.UnaryOp .Not x pos) env whole) σ Q :=
  fun A E h tk r a => isTrue_not (wpAny_mono (H A E h tk r a) (fun z s1 p1 => by
    obtain ⟨σ', h', tk', e, a', m, q⟩ := p1
    exact ⟨σ', h', tk', e, a', m, q⟩) fun U U e => e)
theorem W_isName {x : Str} {pos : Pos} {Q : Bool → St → Prop} (H : W c f (eval (.Name x pos) env) σ fun v σ => W c f (truthy v) σ Q) : W c f (isTrue (.Name x pos) env (eval (.Name x pos) env)) σ Q :=
  fun A E h tk r a => isTrue_plain (wpAny_mono (H A E h tk r a) (fun z s1 p1 => p1.step r fun U U p => p) fun U U e => e)
theorem W_spliced {e : Expr} {rest : List Expr} {pos : Pos} {Q : List Value → St → Prop} (he : starEach (e :: rest) env = (false, eval e env) :: starEach rest env)
    (H : W c f (eval e env) σ fun v σ => W c f (spliced (backTo pos (starEach rest env))) σ fun vs σ => Q (v :: vs) σ) : W c f (spliced (backTo pos (starEach (e :: rest) env))) σ Q :=
  fun A E h tk r a => spliced_more (wpAny_mono (H A E h tk r a) (fun v s1 p1 => p1.step r fun vs s2 p2 => by
    obtain ⟨σ', h', tk', e, a', m, q⟩ := p2
    exact ⟨σ', h', tk', e, a', m, q⟩) fun U U e => e) he
theorem W_Call {x : Str} {px : Pos} {e : Expr} {rest : List Expr} {pos : Pos} {Q : Value → St → Prop} (he : starEach (e :: rest) env = (false, eval e env) :: starEach rest env) (hp : (backTo pos (starEach rest env)).any (·.1) = false)
    (H : W c f (eval (.Name x px) env) σ fun fv σ => (Gr c.w σ.g → Plain c σ.g fv) ∧ W c f (spliced (backTo pos (starEach (e :: rest) env))) σ fun vs σ => W c f (call fv vs) σ Q) : W c f (eval (.Call (.Name x px) (e :: rest) [] pos) env) σ Q := by
  intro A E h tk r a
  refine Call_ (wpAny_mono (H A E h tk r a) (fun fv s1 p1 => ?_) fun U U e => e)
  obtain ⟨σ1, h1, tk1, (rfl), a1, m1, hpl, q1⟩ := p1
  refine hpl a1.hp.gr A E _ pos env e rest _ r he hp (wpAny_mono (q1 A E h1 tk1 r a1) (fun vs s2 p2 => ?_) fun U U e => e)
  obtain ⟨σ2, h2, tk2, (rfl), a2, m2, q2⟩ := p2
  refine ⟨m2.gg.trans a2.hp.sub, wpAny_mono (q2 A E h2 tk2 r a2) (fun v s3 p3 => ?_) fun U U e => e⟩
  obtain ⟨σ3, h3, tk3, (rfl), a3, m3, q3⟩ := p3
  exact ⟨σ3, h3, tk3, rfl, a3, (m1.trans m2).trans m3, q3⟩
end

noncomputable def TabOk (w : World) (tab : List (Str × Value)) : Prop := ∀ x v, tab.lookup x = some v → GlobIs w x v ∨ BuiIs w x v
theorem W_glob {c : Cx} {f : Fm} {σ : St} {env : Env} {K : Tb} {x : Str} {pos : Pos} {v : Value} {Q : Value → St → Prop} (e : EnvOk f env K.names K.cw) (T : TabOk c.w K.tab) (h1 : K.names.lookup x = some .globalImplicit) (h2 : K.tab.lookup x = some v) (h3 : (x == ("__debug__" : Str)) = false)
    (q : Q v σ) : W c f (eval (.Name x pos) env) σ Q := by
  intro A E h tk r a
  have hk : env.kindOf x = some .globalImplicit := by unfold Env.kindOf; rw [e.nm]; exact h1
  have G : Gr c.w h := a.hp.gr.sub a.hp.sub
  rcases T x v h2 with hv | hv
  · exact Calls.Name_function_global e.knd hk (Calls.loadGlobal_global (s := mk c.s h tk) (e.glo ▸ G.glob) hv (.here a q)) h3
  · exact Calls.Name_function_global e.knd hk (Calls.loadGlobal_builtin (s := mk c.s h tk) (e.glo ▸ G.glob) hv.1 (e.bui ▸ G.bui) hv.2 (.here a q)) h3
structure Wk (prog : Program) (w : World) (A : Around) (I : Addr) (fp wr : List Addr) (n : Nat) (P : Nat → Value → Prop) (Sx : Nat → Heap → Prop) (z : Bool) : Prop where
  sub : ∀ b ∈ wr, b ∈ fp
  frame : ∀ i h h', Sx i h → (∀ b ∈ fp, ∀ o, h.get? b = some o → h'.get? b = some o) → Sx i h'
  item : ∀ i (s : Shared) (Q : Option Value → Shared → Prop) (E : Value → Shared → Prop), i < n → Sx i s.heap →
    (∀ v h' tk, P i v → Sx (i + 1) h' → (∀ b o, b ∉ wr → s.heap.get? b = some o → h'.get? b = some o) → (z = true → h'.objs.size = s.heap.objs.size) → Q (some v) { s with heap := h', toks := tk }) → wpAny (model prog w) A (pyNext (.ref I)) Q E s
  done : ∀ (s : Shared) (Q : Option Value → Shared → Prop) (E : Value → Shared → Prop), Sx n s.heap →
    (∀ h' tk, (∀ b o, b ∉ wr → s.heap.get? b = some o → h'.get? b = some o) → (z = true → h'.objs.size = s.heap.objs.size + 2) → Q none { s with heap := h', toks := tk }) → wpAny (model prog w) A (pyNext (.ref I)) Q E s
  self : ∀ i (s : Shared) (Q : Value → Shared → Prop) (E : Value → Shared → Prop), Sx i s.heap → Q (.ref I) s → wpAny (model prog w) A (pyIter (.ref I)) Q E s
theorem Wk.of {prog : Program} {w : World} {A : Around} {I : Addr} {fp wr : List Addr} {n : Nat} {P : Nat → Value → Prop} {Sx : Nat → Heap → Prop} (W : Walks prog w A I fp wr n P Sx) : Wk prog w A I fp wr n P Sx false :=
  ⟨W.sub, W.frame, fun i s Q E hi st k => W.item i s Q E hi st fun v h' tk p s' x => k v h' tk p s' x (fun e => nomatch e), fun s Q E st k => W.done s Q E st fun h' tk x => k h' tk x (fun e => nomatch e), W.self⟩
noncomputable def zAdd (z : Bool) (k : Nat) (sz : Option Nat) : Option Nat := if z = true then sz.map (· + k) else none
noncomputable def Iter (c : Cx) (f : Fm) (σ : St) (D : Ledger) (v : Value) (n : Nat) (P : Nat → Value → Prop) (z : Bool) (zk : Nat) : Prop :=
  ∀ (A : Around) (E : Value → Shared → Prop) (h : Heap) (tk : Nat) (Q : Value → Shared → Prop), Rk c A → At c f { σ with led := D ++ σ.led } h →
    (∀ I fp wr Sx h' tk', Wk c.prog c.w A I fp wr n P Sx z → Sx 0 h' → Sub h h' → (z = true → h'.objs.size = h.objs.size + zk) → (∀ b ∈ fp, (∃ o, σ.g.get? b = some o) ∨ h.get? b = none ∨ b ∈ adr D) → (∀ b ∈ wr, h.get? b = none ∨ b ∈ adr D) → (∀ i h, Sx i h → ∀ b ∈ fp, ∃ o, h.get? b = some o) → Q (.ref I) (mk c.s h' tk')) →
    wpAny (model c.prog c.w) A (pyIter v) Q E (mk c.s h tk)

noncomputable def Frz (K : St → Prop) (σ : St) : Prop := Ex2 fun l led => σ.led.Perm (l ++ led) ∧ ∀ g', Sub σ.g g' → (∀ p ∈ l, ∃ o, g'.get? p.1 = some o ∧ p.2 o) → K { σ with g := g', led := led }
theorem Frz.now {K : St → Prop} {σ : St} (h : ∀ g', Sub σ.g g' → K { σ with g := g' }) : Frz K σ := ⟨[], σ.led, .refl _, fun g' S _ => h g' S⟩
noncomputable def setAll (vs : List (Option Value)) : List Nat → List Value → List (Option Value)
  | i :: is, x :: xs => setAll (vs.set i (some x)) is xs
  | _, _ => vs
section
variable {c : Cx} {f : Fm} {σ : St} {env : Env}
theorem At.frzK {K : St → Prop} {h : Heap} (a : At c f σ h) (k : Frz K σ) : ∃ σ', At c f σ' h ∧ Mv c.fs f.own σ.g σ.led h σ'.g σ'.led h ∧ K σ' ∧ σ'.sz = σ.sz := by
  obtain ⟨l, led, p, q⟩ := k
  have hp := a.hp.perm p
  refine ⟨{ σ with g := more σ.g h (adr l), led := led }, ⟨hp.frz, a.fr⟩, (Mv.frz hp).perm p.symm (.refl _), q _ (more_sub hp.sub) fun x hm => ?_, rfl⟩
  obtain ⟨o, e, hP⟩ := hp.ld x (List.mem_append_left _ hm)
  exact ⟨o, more_at e (List.mem_map_of_mem hm), hP⟩
theorem At.sz0 {h : Heap} (a : At c f σ h) : At c f { σ with sz := none } h :=
  ⟨⟨a.hp.gr, a.hp.sub, a.hp.ld, a.hp.here, a.hp.offO, a.hp.offL, a.hp.nd, a.hp.ap, a.hp.oa, a.hp.frm, fun _ e => nomatch e⟩, a.fr⟩
theorem At.outer {h h' : Heap} {wr : List Addr} {sz' : Option Nat} (a : At c f σ h) (X : ∀ b o, b ∉ wr → h.get? b = some o → h'.get? b = some o) (hg : ∀ b ∈ wr, σ.g.get? b = none) (ho : ∀ b ∈ wr, b ∉ f.all) (hl : ∀ b ∈ wr, b ∉ adr σ.led) (hfs : ∀ b ∈ wr, b ∉ c.fs)
    (hz : ∀ n, sz' = some n → h'.objs.size = n) : At c f { σ with sz := sz' } h' := by
  refine ⟨⟨a.hp.gr, fun b o e => X b o (fun q => by rw [hg b q] at e; cases e) (a.hp.sub b o e), fun p hp => ?_, fun b hb => ?_, a.hp.offO, a.hp.offL, a.hp.nd, a.hp.ap, a.hp.oa, fun b hb => let ⟨⟨o, e, q⟩, r⟩ := a.hp.frm b hb; ⟨⟨o, X b o (fun q => hfs b q hb) e, q⟩, r⟩, hz⟩, a.fr.keep fun b hb o e => X b o (fun q => ho b q hb) e⟩
  · obtain ⟨o, e, q⟩ := a.hp.ld p hp
    exact ⟨o, X _ _ (fun z => hl _ z (List.mem_map_of_mem hp)) e, q⟩
  · obtain ⟨o, e⟩ := a.hp.here b hb
    exact ⟨o, X _ _ (fun q => ho b q hb) e⟩
theorem Mv.outer {fs own : List Addr} {g : Heap} {led : Ledger} {g1 : Heap} {led1 : Ledger} {h h1 h2 : Heap} {wr : List Addr} (m : Mv fs own g led h g1 led1 h1) (X : ∀ b o, b ∉ wr → h1.get? b = some o → h2.get? b = some o) (hw : ∀ b ∈ wr, h.get? b = none ∨ b ∈ adr led) : Mv fs own g led h g1 led1 h2 := by
  have nw : ∀ b o, h.get? b = some o → b ∉ adr led → b ∉ wr := fun b o e y q => by
    rcases hw b q with z | z
    · rw [z] at e; cases e
    · exact y z
  exact ⟨m.gg, fun b o e x y => (m.exs b o e x y).imp (X b o (nw b o e y)) fun q => ⟨q.1, q.2.imp fun sl e => X b _ (nw b o ‹_› y) e⟩, fun b o e y => (m.dom b o e y).elim fun o' e' => ⟨o', X b o' (nw b o e y) e'⟩, m.fr, m.ld⟩
noncomputable def LInv (c : Cx) (f : Fm) (g0 : Heap) (led0 : Ledger) (h1 gb : Heap) (fp : List Addr) (Sx : Nat → Heap → Prop) (J : Nat → St → Prop) (z : Bool) (j : Nat) (h' : Heap) : Prop :=
  ∃ σ', Sx j h' ∧ At c f σ' h' ∧ Mv c.fs f.own g0 led0 h1 σ'.g σ'.led h' ∧ (∀ b ∈ fp, b ∉ adr σ'.led ∧ ∀ o, σ'.g.get? b = some o → gb.get? b = some o) ∧ J j σ' ∧ (z = false → σ'.sz = none)
structure WkIn (fs : List Addr) (f : Fm) (led0 : Ledger) (h1 gb : Heap) (fp wr : List Addr) (Sx : Nat → Heap → Prop) : Prop where
  wf : ∀ b ∈ wr, b ∈ fp
  gn : ∀ b ∈ wr, gb.get? b = none
  fo : ∀ b ∈ fp, b ∉ f.own
  ff : ∀ b ∈ fp, b ∉ fs
  wa : ∀ b ∈ wr, b ∉ f.all
  hw : ∀ b ∈ wr, h1.get? b = none ∨ b ∈ adr led0
  ex : ∀ i h, Sx i h → ∀ b ∈ fp, ∃ o, h.get? b = some o
section
variable {g0 h1 gb : Heap} {led0 : Ledger} {fp wr : List Addr} {Sx : Nat → Heap → Prop} {J : Nat → St → Prop} {z : Bool} {A : Around} {I : Addr} {n : Nat} {P : Nat → Value → Prop}
theorem keepOff {σa σb : St} {ha hb : Heap} (m : Mv c.fs f.own σa.g σa.led ha σb.g σb.led hb) (ex : ∀ b ∈ fp, ∃ o, ha.get? b = some o) (off : ∀ b ∈ fp, b ∉ adr σa.led ∧ ∀ o, σa.g.get? b = some o → gb.get? b = some o) :
    ∀ b ∈ fp, b ∉ adr σb.led ∧ ∀ o, σb.g.get? b = some o → gb.get? b = some o := fun b hb => by
  obtain ⟨o, e⟩ := ex b hb
  refine ⟨fun q => ?_, fun o' q => ?_⟩
  · rcases m.ld b q with z | z
    · exact (off b hb).1 z
    · rw [z] at e; cases e
  · rcases m.fr b o' q with z | z | z
    · exact (off b hb).2 _ z
    · rw [z] at e; cases e
    · exact absurd z (off b hb).1
theorem linv_start {h2 : Heap} (K : WkIn c.fs f led0 h1 gb fp wr Sx) (a : At c f σ h2) (m : Mv c.fs f.own g0 led0 h1 σ.g σ.led h2) (s0 : Sx 0 h2) (off : ∀ b ∈ fp, b ∉ adr σ.led ∧ ∀ o, σ.g.get? b = some o → gb.get? b = some o) (j0 : Frz (J 0) σ) (z0 : z = false → σ.sz = none) :
    LInv c f g0 led0 h1 gb fp Sx J z 0 h2 := by
  obtain ⟨σ3, a3, m3, j3, z3⟩ := a.frzK j0
  exact ⟨σ3, s0, a3, m.trans m3, keepOff m3 (K.ex 0 h2 s0) off, j3, fun e => z3.trans (z0 e)⟩
theorem linv_step {σ' : St} {h' h3 : Heap} {j : Nat} (K : WkIn c.fs f led0 h1 gb fp wr Sx) (fr : ∀ i h h', Sx i h → (∀ b ∈ fp, ∀ o, h.get? b = some o → h'.get? b = some o) → Sx i h') (a' : At c f σ' h') (m' : Mv c.fs f.own g0 led0 h1 σ'.g σ'.led h')
    (off : ∀ b ∈ fp, b ∉ adr σ'.led ∧ ∀ o, σ'.g.get? b = some o → gb.get? b = some o) (U : z = false → σ'.sz = none)
    (X : ∀ b o, b ∉ wr → h'.get? b = some o → h3.get? b = some o) (hz : z = true → h3.objs.size = h'.objs.size) :
    At c f σ' h3 ∧ (Sx (j + 1) h3 → ∀ σ5 h5, At c f σ5 h5 → Mv c.fs f.own σ'.g σ'.led h3 σ5.g σ5.led h5 → Mv c.fs f.own g0 led0 h1 σ5.g σ5.led h5 ∧ (Frz (J (j + 1)) { σ5 with sz := zAdd z 0 σ5.sz } → LInv c f g0 led0 h1 gb fp Sx J z (j + 1) h5)) := by
  have gw : ∀ b ∈ wr, σ'.g.get? b = none := fun b hb => by
    cases q : σ'.g.get? b with
    | none => rfl
    | some o => have := (off b (K.wf b hb)).2 o q; rw [K.gn b hb] at this; cases this
  have a3 : At c f σ' h3 := a'.outer (sz' := σ'.sz) X gw K.wa (fun b hb => (off b (K.wf b hb)).1) (fun b hb => K.ff b (K.wf b hb)) fun n e => by
    cases z with
    | true => rw [hz rfl]; exact a'.hp.sz n e
    | false => rw [U rfl] at e; cases e
  refine ⟨a3, fun st3 σ5 h5 a5 m35 => ?_⟩
  have m15 := (m'.outer X K.hw).trans m35
  refine ⟨m15, fun j5 => ?_⟩
  have st5 : Sx (j + 1) h5 := fr _ _ _ st3 fun b hb o e => m35.ext b o e (K.fo b hb) (off b hb).1 (K.ff b hb)
  have a5' : At c f { σ5 with sz := zAdd z 0 σ5.sz } h5 := ⟨⟨a5.hp.gr, a5.hp.sub, a5.hp.ld, a5.hp.here, a5.hp.offO, a5.hp.offL, a5.hp.nd, a5.hp.ap, a5.hp.oa, a5.hp.frm, fun n e => by
    unfold zAdd at e
    split at e
    · cases q : σ5.sz with
      | none => rw [q] at e; cases e
      | some k => rw [q] at e; cases e; exact a5.hp.sz k q
    · cases e⟩, a5.fr⟩
  obtain ⟨σ6, a6, m6, j6, z6⟩ := a5'.frzK j5
  refine ⟨σ6, st5, a6, m15.trans m6, keepOff m6 (K.ex _ _ st5) (keepOff m35 (K.ex _ _ st3) off), j6, fun e => ?_⟩
  rw [z6]; subst e; rfl
theorem linv_item {h' : Heap} {j tk : Nat} {Q : Option Value → Shared → Prop} {E : Value → Shared → Prop} (K : WkIn c.fs f led0 h1 gb fp wr Sx) (W : Wk c.prog c.w A I fp wr n P Sx z) (hlt : j < n) (L : LInv c f g0 led0 h1 gb fp Sx J z j h')
    (k : ∀ v σ' h3 tk3, P j v → At c f σ' h3 → Mv c.fs f.own g0 led0 h1 σ'.g σ'.led h3 → J j σ' → (∀ σ5 h5, At c f σ5 h5 → Mv c.fs f.own σ'.g σ'.led h3 σ5.g σ5.led h5 → Mv c.fs f.own g0 led0 h1 σ5.g σ5.led h5 ∧ (Frz (J (j + 1)) { σ5 with sz := zAdd z 0 σ5.sz } → LInv c f g0 led0 h1 gb fp Sx J z (j + 1) h5)) →
      Q (some v) (mk c.s h3 tk3)) : wpAny (model c.prog c.w) A (pyNext (.ref I)) Q E (mk c.s h' tk) := by
  obtain ⟨σ', st, a', m', off, jj, U⟩ := L
  refine W.item j (mk c.s h' tk) _ _ hlt st fun v h3 tk3 hP st3 X hz => ?_
  obtain ⟨a3, go⟩ := linv_step K W.frame a' m' off U X hz
  exact k v σ' h3 tk3 hP a3 (m'.outer X K.hw) jj (go st3)
theorem linv_end {h' h3 : Heap} {j : Nat} (K : WkIn c.fs f led0 h1 gb fp wr Sx) {σ' : St} (a' : At c f σ' h') (off : ∀ b ∈ fp, b ∉ adr σ'.led ∧ ∀ o, σ'.g.get? b = some o → gb.get? b = some o)
    (X : ∀ b o, b ∉ wr → h'.get? b = some o → h3.get? b = some o) (hz : z = true → h3.objs.size = h'.objs.size + 2) : At c f { σ' with sz := zAdd z 2 σ'.sz } h3 := by
  have gw : ∀ b ∈ wr, σ'.g.get? b = none := fun b hb => by
    cases q : σ'.g.get? b with
    | none => rfl
    | some o => have := (off b (K.wf b hb)).2 o q; rw [K.gn b hb] at this; cases this
  refine a'.outer X gw K.wa (fun b hb => (off b (K.wf b hb)).1) (fun b hb => K.ff b (K.wf b hb)) fun n e => ?_
  unfold zAdd at e
  split at e
  · rename_i ez
    cases q : σ'.sz with
    | none => rw [q] at e; cases e
    | some k => rw [q] at e; cases e; rw [hz ez, a'.hp.sz k q]
  · cases e
theorem linv_done {h' : Heap} {tk : Nat} {Q : Option Value → Shared → Prop} {E : Value → Shared → Prop} (K : WkIn c.fs f led0 h1 gb fp wr Sx) (W : Wk c.prog c.w A I fp wr n P Sx z) (L : LInv c f g0 led0 h1 gb fp Sx J z n h')
    (k : ∀ σ' h3 tk3, At c f { σ' with sz := zAdd z 2 σ'.sz } h3 → Mv c.fs f.own g0 led0 h1 σ'.g σ'.led h3 → J n σ' → Q none (mk c.s h3 tk3)) : wpAny (model c.prog c.w) A (pyNext (.ref I)) Q E (mk c.s h' tk) := by
  obtain ⟨σ', st, a', m', off, jj, U⟩ := L
  refine W.done (mk c.s h' tk) _ _ st fun h3 tk3 X hz => ?_
  exact k σ' h3 tk3 (linv_end (j := n) K a' off X hz) (m'.outer X K.hw) jj
theorem iter_in {σ0 : St} {D led : Ledger} {h1 h2 : Heap} {zk : Nat} (a0 : At c f σ0 h1) (hD : σ0.led.Perm (D ++ led)) (s0 : Sx 0 h2) (S2 : Sub h1 h2) (hz : z = true → h2.objs.size = h1.objs.size + zk)
    (hfp : ∀ b ∈ fp, (∃ o, σ0.g.get? b = some o) ∨ h1.get? b = none ∨ b ∈ adr D) (hwr : ∀ b ∈ wr, h1.get? b = none ∨ b ∈ adr D) (hwf : ∀ b ∈ wr, b ∈ fp) (hex : ∀ i h, Sx i h → ∀ b ∈ fp, ∃ o, h.get? b = some o) :
    At c f { σ0 with led := led, sz := zAdd z zk σ0.sz } h2 ∧ Mv c.fs f.own σ0.g (D ++ led) h1 σ0.g led h2 ∧ WkIn c.fs f (D ++ led) h1 σ0.g fp wr Sx ∧ (∀ b ∈ fp, b ∉ adr led ∧ ∀ o, σ0.g.get? b = some o → σ0.g.get? b = some o) := by
  have aD : At c f { σ0 with led := D ++ led } h1 := ⟨a0.hp.perm hD, a0.fr⟩
  have ndD : (adr D ++ adr led).Nodup := by have := aD.hp.nd; unfold adr at this ⊢; rw [← List.map_append]; exact this
  rw [List.nodup_append] at ndD
  have oD : ∀ b ∈ adr D, b ∉ f.all ∧ b ∉ adr led ∧ σ0.g.get? b = none ∧ ∃ o, h1.get? b = some o := fun b hb =>
    ⟨fun q => aD.hp.ap b q (adr_app.mpr (.inl hb)), fun q => ndD.2.2 b hb b q rfl, aD.hp.offL b (adr_app.mpr (.inl hb)), aD.hp.adrHere (adr_app.mpr (.inl hb))⟩
  have fg : ∀ b ∈ fp, b ∉ f.own ∧ b ∉ adr led := fun b hb => by
    rcases hfp b hb with ⟨o, e⟩ | e | e
    · exact ⟨fun q => (by rw [aD.hp.offO b q] at e; cases e), fun q => (by have := aD.hp.offL b (adr_app.mpr (.inr q)); rw [this] at e; cases e)⟩
    · exact ⟨fun q => (by obtain ⟨o, e'⟩ := aD.hp.here b (aD.hp.oa b q); rw [e] at e'; cases e'), fun q => (by obtain ⟨o, e'⟩ := aD.hp.adrHere (adr_app.mpr (.inr q)); rw [e] at e'; cases e')⟩
    · exact ⟨fun q => (oD b e).1 (aD.hp.oa b q), (oD b e).2.1⟩
  have fF : ∀ b ∈ fp, b ∉ c.fs := fun b hb q => by
    obtain ⟨⟨o', e', _⟩, q2, q3⟩ := aD.hp.frm b q
    rcases hfp b hb with ⟨o, e⟩ | e | e
    · have q2' : σ0.g.get? b = none := q2
      rw [q2'] at e; cases e
    · rw [e] at e'; cases e'
    · exact q3 (adr_app.mpr (.inl e))
  refine ⟨⟨⟨aD.hp.gr, aD.hp.sub.trans S2, fun p hp => ?_, fun b hb => ?_, aD.hp.offO, fun b hb => aD.hp.offL b (adr_app.mpr (.inr hb)), ndD.2.1, fun b hb q => aD.hp.ap b hb (adr_app.mpr (.inr q)), aD.hp.oa, fun b hb => let ⟨⟨o, e, q⟩, q2, q3⟩ := aD.hp.frm b hb; ⟨⟨o, S2 _ _ e, q⟩, q2, fun q => q3 (adr_app.mpr (.inr q))⟩, fun n e => ?_⟩, a0.fr.keep fun b _ o e => S2 b o e⟩,
    ⟨Sub.refl _, fun b o e _ _ => .inl (S2 b o e), fun b o e _ => ⟨o, S2 b o e⟩, fun _ _ e => .inl e, fun b hb => .inl (adr_app.mpr (.inr hb))⟩, ⟨hwf, fun b hb => ?_, fun b hb => (fg b hb).1, fun b hb => fF b hb, fun b hb => ?_, fun b hb => (hwr b hb).imp_right fun q => adr_app.mpr (.inl q), hex⟩, fun b hb => ⟨(fg b hb).2, fun _ e => e⟩⟩
  · obtain ⟨o, e, q⟩ := aD.hp.ld p (List.mem_append_right _ hp); exact ⟨o, S2 _ _ e, q⟩
  · obtain ⟨o, e⟩ := aD.hp.here b hb; exact ⟨o, S2 _ _ e⟩
  · have e' : zAdd z zk σ0.sz = some n := e
    unfold zAdd at e'
    split at e'
    · rename_i ez
      cases q : σ0.sz with
      | none => rw [q] at e'; cases e'
      | some k => rw [q] at e'; cases e'; rw [hz ez, a0.hp.sz k q]
    · cases e'
  · rcases hwr b hb with y | y
    · cases q : σ0.g.get? b with
      | none => rfl
      | some o => have := a0.hp.sub b o q; rw [y] at this; cases this
    · exact (oD b y).2.2.1
  · rcases hwr b hb with y | y
    · exact fun q => by obtain ⟨o, e'⟩ := aD.hp.here b q; rw [y] at e'; cases e'
    · exact (oD b y).1
end
end
structure WkT (prog : Program) (w : World) (A : Around) (I : Addr) (fp wr : List Addr) (n : Nat) (P : Nat → Array Value → Prop) (Sx : Nat → Heap → Prop) (Mid : Nat → Addr → Heap → Prop) (D' : Ledger) : Prop where
  sub : ∀ b ∈ wr, b ∈ fp
  frame : ∀ i h h', Sx i h → (∀ b ∈ fp, ∀ o, h.get? b = some o → h'.get? b = some o) → Sx i h'
  item : ∀ i (s : Shared) (Q : Option Value → Shared → Prop) (E : Value → Shared → Prop), i < n → Sx i s.heap →
    (∀ T vals h' tk, P i vals → h'.IsTuple T vals → Mid i T h' → (∀ b o, b ∉ wr → s.heap.get? b = some o → h'.get? b = some o) → Q (some (.ref T)) { s with heap := h', toks := tk }) → wpAny (model prog w) A (pyNext (.ref I)) Q E s
  go : ∀ (elts : List Expr) (k : Nat) (pos : Pos) i T (s : Shared) (Q : Unit → Shared → Prop) (E : Value → Shared → Prop), Mid i T s.heap →
    (∀ h', Sx (i + 1) h' → (∀ b o, b ∉ wr → s.heap.get? b = some o → h'.get? b = some o) → Q () { s with heap := h' }) → wpAny (model prog w) A (letOwnedTupleGo (.Tuple elts k pos) (.ref I) (.ref T)) Q E s
  apart : ∀ i T h, Mid i T h → T ∉ wr
  done : ∀ (s : Shared) (Q : Option Value → Shared → Prop) (E : Value → Shared → Prop), Sx n s.heap →
    (∀ h' tk, (∀ b o, b ∉ wr → s.heap.get? b = some o → h'.get? b = some o) → (∀ p ∈ D', ∃ o, h'.get? p.1 = some o ∧ p.2 o) → Q none { s with heap := h', toks := tk }) → wpAny (model prog w) A (pyNext (.ref I)) Q E s
  self : ∀ i (s : Shared) (Q : Value → Shared → Prop) (E : Value → Shared → Prop), Sx i s.heap → Q (.ref I) s → wpAny (model prog w) A (pyIter (.ref I)) Q E s
  dw : ∀ b ∈ adr D', b ∈ wr
  dn : (adr D').Nodup
theorem WkT.of {prog : Program} {w : World} {A : Around} {I : Addr} {fp wr : List Addr} {n : Nat} {P : Nat → Array Value → Prop} {Sx : Nat → Heap → Prop} {Mid : Nat → Addr → Heap → Prop} (W : WalksU prog w A I fp wr n P Sx Mid) : WkT prog w A I fp wr n P Sx Mid [] :=
  ⟨W.sub, W.frame, W.item, W.go, W.apart, (fun s Q E st k => W.done s Q E st fun h' tk X => k h' tk X (fun U q => by cases q)), W.self, (fun U q => by cases q), List.Pairwise.nil⟩
noncomputable def IterT (c : Cx) (f : Fm) (σ : St) (D : Ledger) (v : Value) (n : Nat) (P : Nat → Array Value → Prop) (D' : Ledger) : Prop :=
  ∀ (A : Around) (E : Value → Shared → Prop) (h : Heap) (tk : Nat) (Q : Value → Shared → Prop), Rk c A → At c f { σ with led := D ++ σ.led } h →
    (∀ I fp wr Sx Mid h' tk', WkT c.prog c.w A I fp wr n P Sx Mid D' → Sx 0 h' → Sub h h' → (∀ b ∈ fp, (∃ o, σ.g.get? b = some o) ∨ h.get? b = none ∨ b ∈ adr D) → (∀ b ∈ wr, h.get? b = none ∨ b ∈ adr D) → (∀ i h, Sx i h → ∀ b ∈ fp, ∃ o, h.get? b = some o) → Q (.ref I) (mk c.s h' tk')) →
    wpAny (model c.prog c.w) A (pyIter v) Q E (mk c.s h tk)
theorem At.addL {c : Cx} {f : Fm} {σ : St} {h : Heap} {D' : Ledger} (a : At c f σ h) (hD : ∀ p ∈ D', ∃ o, h.get? p.1 = some o ∧ p.2 o) (hx : ∀ b ∈ adr D', σ.g.get? b = none ∧ b ∉ f.all ∧ b ∉ adr σ.led ∧ b ∉ c.fs) (nd : (adr D').Nodup) : At c f { σ with led := D' ++ σ.led } h := by
  refine ⟨⟨a.hp.gr, a.hp.sub, fun p hp => (List.mem_append.mp hp).elim (hD p) (a.hp.ld p), a.hp.here, a.hp.offO, fun b hb => ?_, ?_, fun b hb q => ?_, a.hp.oa, fun b hb => ?_, a.hp.sz⟩, a.fr⟩
  · exact (adr_app.mp hb).elim (fun q => (hx b q).1) (a.hp.offL b)
  · unfold adr; rw [List.map_append, List.nodup_append]
    exact ⟨nd, a.hp.nd, fun x hxx y hy e => (hx x hxx).2.2.1 (by rw [e]; exact hy)⟩
  · exact (adr_app.mp q).elim (fun q => (hx b q).2.1 hb) (a.hp.ap b hb)
  · obtain ⟨q1, q2, q3⟩ := a.hp.frm b hb
    exact ⟨q1, q2, fun q => (adr_app.mp q).elim (fun q => (hx b q).2.2.2 hb) q3⟩
section
variable {c : Cx} {f : Fm} {g0 h1 gb : Heap} {led0 : Ledger} {fp wr : List Addr} {Sx : Nat → Heap → Prop} {J : Nat → St → Prop} {A : Around} {I : Addr} {n : Nat}
theorem linv_itemT {D' : Ledger} {P : Nat → Array Value → Prop} {Mid : Nat → Addr → Heap → Prop} {h' : Heap} {j tk : Nat} {Q : Option Value → Shared → Prop} {E : Value → Shared → Prop} {elts : List Expr} {k0 : Nat} {pos : Pos} (K : WkIn c.fs f led0 h1 gb fp wr Sx) (W : WkT c.prog c.w A I fp wr n P Sx Mid D') (hlt : j < n) (L : LInv c f g0 led0 h1 gb fp Sx J false j h')
    (k : ∀ T vals h2 tk2, (∀ (Q : Unit → Shared → Prop) (E : Value → Shared → Prop), (∀ σ' h3, P j vals → h3.IsTuple T vals → At c f σ' h3 → Mv c.fs f.own g0 led0 h1 σ'.g σ'.led h3 → J j σ' → (∀ σ5 h5, At c f σ5 h5 → Mv c.fs f.own σ'.g σ'.led h3 σ5.g σ5.led h5 → Mv c.fs f.own g0 led0 h1 σ5.g σ5.led h5 ∧ (Frz (J (j + 1)) { σ5 with sz := zAdd false 0 σ5.sz } → LInv c f g0 led0 h1 gb fp Sx J false (j + 1) h5)) →
      Q () (mk c.s h3 tk2)) → wpAny (model c.prog c.w) A (letOwnedTupleGo (.Tuple elts k0 pos) (.ref I) (.ref T)) Q E (mk c.s h2 tk2)) → Q (some (.ref T)) (mk c.s h2 tk2)) : wpAny (model c.prog c.w) A (pyNext (.ref I)) Q E (mk c.s h' tk) := by
  obtain ⟨σ', st, a', m', off, jj, U⟩ := L
  refine W.item j (mk c.s h' tk) _ _ hlt st fun T vals h2 tk2 hP hT hM X => k T vals h2 tk2 fun Q E k => W.go elts k0 pos j T (mk c.s h2 tk2) _ _ hM fun h3 st3 Y => ?_
  have XY : ∀ b o, b ∉ wr → h'.get? b = some o → h3.get? b = some o := fun b o hb e => Y b o hb (X b o hb e)
  obtain ⟨a3, go⟩ := linv_step (z := false) K W.frame a' m' off U XY (fun e => nomatch e)
  exact k σ' h3 hP (hT.at fun o e => Y T o (W.apart j T h2 hM) e) a3 (m'.outer XY K.hw) jj (go st3)
theorem linv_doneT {D' : Ledger} {P : Nat → Array Value → Prop} {Mid : Nat → Addr → Heap → Prop} {h' : Heap} {tk : Nat} {Q : Option Value → Shared → Prop} {E : Value → Shared → Prop} (K : WkIn c.fs f led0 h1 gb fp wr Sx) (W : WkT c.prog c.w A I fp wr n P Sx Mid D') (L : LInv c f g0 led0 h1 gb fp Sx J false n h')
    (k : ∀ σ' h3 tk3, At c f { σ' with led := D' ++ σ'.led, sz := zAdd false 2 σ'.sz } h3 → Mv c.fs f.own g0 led0 h1 σ'.g (D' ++ σ'.led) h3 → J n σ' → Sub g0 σ'.g → Q none (mk c.s h3 tk3)) : wpAny (model c.prog c.w) A (pyNext (.ref I)) Q E (mk c.s h' tk) := by
  obtain ⟨σ', st, a', m', off, jj, U⟩ := L
  refine W.done (mk c.s h' tk) _ _ st fun h3 tk3 X hD => ?_
  have a3 := linv_end (z := false) (j := n) K a' off X (fun e => nomatch e)
  have m3 := m'.outer X K.hw
  refine k σ' h3 tk3 (a3.addL hD (fun b hb => ?_) W.dn) ⟨m3.gg, m3.exs, m3.dom, m3.fr, fun b hb => ?_⟩ jj m3.gg
  · have hw := W.dw b hb
    have hf := K.wf b hw
    refine ⟨?_, K.wa b hw, (off b hf).1, K.ff b hf⟩
    cases q : σ'.g.get? b with
    | none => rfl
    | some o => have := (off b hf).2 o q; rw [K.gn b hw] at this; cases this
  · exact (adr_app.mp hb).elim (fun q => (K.hw b (W.dw b q)).symm) (m3.ld b)
end
theorem none_ne {l : Addr} : ¬ ((Value.ref l == Value.none) = true) := Bool.false_ne_true
section
variable {prog : Program} {w : World} {A : Around} {E : Value → Shared → Prop} {s : Shared}
theorem lnext_end {it l : Addr} {i : Nat} {items} {Q : Option Value → Shared → Prop} (hh : A.handled = none) (hit : s.heap.IsListIter it l i) (hl : s.heap.IsList l items) (hx : items[i]? = none)
    (k : ∀ h', Heap.ExtBut it s.heap h' → h'.objs.size = s.heap.objs.size + 2 → (∃ o, h'.get? it = some o) → Q none { s with heap := h' }) : wpAny (model prog w) A (pyNext (.ref it)) Q E s := by
  obtain ⟨o, ho, hc, hd⟩ := id hit
  obtain ⟨ol, hol, U, nl, hdl⟩ := hl
  unfold pyNext
  refine wpAny_bind (wpAny_attempt (wpAny_callSpecial?_slot (name := Str.ofString "__next__") hit.typeIs slot_listiter_next (wpAny_call_entry slot_listiter_next hit.typeIs entry_listiter_next ?_ (args_listiter_next _))))
  show wpAny _ _ (field (.ref it) 0 >>= _) _ _ s
  refine wpAny_bind (wpAny_field ho hd (x := .ref l) rfl ?_)
  show wpAny _ _ (if (Value.ref l == Value.none) = true then _ else _) _ _ s
  rw [if_neg none_ne]
  show wpAny _ _ (field (.ref it) 1 >>= _) _ _ s
  refine wpAny_bind (wpAny_field ho hd (x := .int i 0) rfl ?_)
  show wpAny _ _ (seqItems? (.ref l) >>= _) _ _ s
  refine wpAny_bind (wpAny_seqItems hol hdl ?_)
  simp only [Int.toNat_natCast, hx]
  refine wpAny_bind (wpAny_rule (wpAny_bind (wpAny_setField ho hd (by simp) ?_)))
  show wpAny _ _ (newExc (.type "StopIteration") [] >>= _) _ _ _
  refine wpAny_bind ?_
  simp only [newExc, newTuple]
  refine wpAny_bind (wpAny_newObj_type ?_ (by size_fits))
  refine wpAny_bind (m := firstArgMember _ _) (wpAny_of_eq (a := Value.none) (by first | rfl | (simp only [firstArgMember]; rfl)) ?_)
  refine wpAny_newObj_type ?_ (by size_fits)
  simp only [raiseNew]
  refine wpAny_bind (wpAny_handled ?_)
  rw [show A.in1.handled = none from hh]
  refine wpAny_bind (wpAny_pure (wpAny_throw ?_))
  refine wpAny_bind (wpAny_isInstance (T := "StopIteration") (b := true) ⟨_, Heap.get?_push_size _ rfl, rfl⟩ isSubtype_stop ?_)
  exact wpAny_pure (k _ (((Heap.SameBut.update ..).extBut.push _).push _) (by rw [Heap.size_push, Heap.size_push, Heap.size_update]) ⟨_, Heap.get?_push_of_some _ (Heap.get?_push_of_some _ (Heap.get?_update_self _ ho (Obj.isFreed_of_fields (Obj.data_mapFields hd _))))⟩)
theorem tnext_end {it l : Addr} {i : Nat} {items} {Q : Option Value → Shared → Prop} (hh : A.handled = none) (hit : IsTupIter s.heap it l i) (hl : IsTup s.heap l items) (hx : items[i]? = none)
    (k : ∀ h', Heap.ExtBut it s.heap h' → h'.objs.size = s.heap.objs.size + 2 → Q none { s with heap := h' }) : wpAny (model prog w) A (pyNext (.ref it)) Q E s := by
  obtain ⟨o, ho, hc, hd⟩ := id hit
  obtain ⟨ol, hol, U, nl, hdl⟩ := hl
  unfold pyNext
  refine wpAny_bind (wpAny_attempt (wpAny_callSpecial?_slot (name := Str.ofString "__next__") hit.typeIs slot_tupleiter_next (wpAny_call_entry slot_tupleiter_next hit.typeIs entry_tupleiter_next ?_ (args_tupleiter_next _))))
  show wpAny _ _ (field (.ref it) 0 >>= _) _ _ s
  refine wpAny_bind (wpAny_field ho hd (x := .ref l) rfl ?_)
  show wpAny _ _ (if (Value.ref l == Value.none) = true then _ else _) _ _ s
  rw [if_neg none_ne]
  show wpAny _ _ (field (.ref it) 1 >>= _) _ _ s
  refine wpAny_bind (wpAny_field ho hd (x := .int i 0) rfl ?_)
  show wpAny _ _ (seqItems? (.ref l) >>= _) _ _ s
  refine wpAny_bind (wpAny_seqItems hol hdl ?_)
  simp only [Int.toNat_natCast, hx]
  refine wpAny_bind (wpAny_rule (wpAny_bind (wpAny_setField ho hd (by simp) ?_)))
  show wpAny _ _ (newExc (.type "StopIteration") [] >>= _) _ _ _
  refine wpAny_bind ?_
  simp only [newExc, newTuple]
  refine wpAny_bind (wpAny_newObj_type ?_ (by size_fits))
  refine wpAny_bind (m := firstArgMember _ _) (wpAny_of_eq (a := Value.none) (by first | rfl | (simp only [firstArgMember]; rfl)) ?_)
  refine wpAny_newObj_type ?_ (by size_fits)
  simp only [raiseNew]
  refine wpAny_bind (wpAny_handled ?_)
  rw [show A.in1.handled = none from hh]
  refine wpAny_bind (wpAny_pure (wpAny_throw ?_))
  refine wpAny_bind (wpAny_isInstance (T := "StopIteration") (b := true) ⟨_, Heap.get?_push_size _ rfl, rfl⟩ isSubtype_stop ?_)
  exact wpAny_pure (k _ (((Heap.SameBut.update ..).extBut.push _).push _) (by rw [Heap.size_push, Heap.size_push, Heap.size_update]))
theorem unpack_tup {t : Addr} {items : Array Value} {Q : List Value → Shared → Prop} (hh : A.handled = none) (ht : IsTup s.heap t items)
    (hQ : ∀ h', Sub s.heap h' → h'.objs.size = s.heap.objs.size + 3 → Q items.toList { s with heap := h' }) : wpAny (model prog w) A (unpackItems (.ref t) items.size none) Q E s := by
  have hlt : t ≠ s.heap.objs.size := by obtain ⟨o, ho, U⟩ := ht; exact Nat.ne_of_lt (Heap.lt_size ho)
  unfold unpackItems
  refine wpAny_bind ?_
  unfold notIterableAtAll
  refine wpAny_bind (wpAny_specialOf ht.typeIs slot_tuple_iter.lookup ?_)
  refine wpAny_pure ?_
  simp only [Bool.false_eq_true, if_false]
  refine wpAny_bind (wpAny_holding (iter_tuple ht ?_))
  refine wpAny_bind (wpAny_holding (draw_tuple hlt items.size 0 _ _ ⟨_, Heap.get?_push_size _ rfl, rfl, rfl⟩ (ht.push _) (by omega) fun h₁ hit₁ hs₁ => ?_))
  have hall : List.take items.size (List.drop 0 items.toList) = items.toList := by
    rw [List.drop_zero]; exact List.take_of_length_le (by simp)
  rw [hall]
  rw [if_neg (by simp)]
  have ht₁ : IsTup h₁ t items := (ht.push _).extBut hs₁.extBut hlt
  refine wpAny_bind (wpAny_holding (tnext_end hh hit₁ ht₁ (by simp) fun h₂ he₂ hz => ?_))
  simp only [Option.isSome_none, Bool.false_eq_true, if_false]
  refine wpAny_pure (hQ h₂ (fun b o e => ?_) ?_)
  · have hb : b ≠ s.heap.objs.size := Nat.ne_of_lt (Heap.lt_size e)
    exact he₂ b o hb (hs₁.extBut b o hb (Heap.get?_push_of_some _ e))
  · rw [hz]
    show h₁.objs.size + 2 = _
    rw [hs₁.1, Heap.size_push]
end
theorem Wk.list {prog : Program} {w : World} {A : Around} (hh : A.handled = none) (I ax : Addr) (hne : ax ≠ I) (items : Array Value) (i0 : Nat) (h0 : i0 ≤ items.size) :
    Wk prog w A I [I, ax] [I] (items.size - i0) (fun i v => items[i0 + i]? = some v) (fun i h => h.IsListIter I ax (i0 + i) ∧ h.IsList ax items) true where
  sub := fun b hb => by simp at hb; simp [hb]
  frame := fun U U U st hk => ⟨st.1.at fun o e => hk I (by simp) o e, st.2.at fun o e => hk ax (by simp) o e⟩
  item := fun i s Q E hi st hQ => by
    have hlt : i0 + i < items.size := by omega
    refine wpAny_pyNext_list_item st.1 st.2 (x := items[i0 + i]) (by simp [hlt]) fun h' hit' hs' => ?_
    exact hQ _ h' s.toks (by simp [hlt]) ⟨hit', st.2.extBut hs'.extBut hne⟩ (fun b o hb e => hs'.extBut b o (fun h => hb (by simp [h])) e) fun U => hs'.1
  done := fun s Q E st hQ => lnext_end hh st.1 st.2 (by simp; omega) fun h' he' hz U => hQ h' s.toks (fun b o hb e => he' b o (fun h => hb (by simp [h])) e) fun U => hz
  self := fun U U U U st hQ => wpAny_pyIter_listiter st.1 hQ
noncomputable def IsLI (l : Addr) (i : Nat) (o : Obj) : Prop := o.cls = .type "list_iterator" ∧ o.data = .fields #[.ref l, .int (i : Nat) 0]
section
variable {c : Cx} {f : Fm} {σ : St}
theorem Iter_list {l : Addr} {xs : List Value} (hl : ∃ o, σ.g.get? l = some o ∧ IsLs xs o) : Iter c f σ [] (.ref l) xs.length (fun i v => xs[i]? = some v) true 1 := by
  intro A E h tk Q r a k
  obtain ⟨o, e, q⟩ := hl
  have hL : h.IsList l xs.toArray := IsLs.isList ⟨o, a.hp.sub _ _ e, q⟩
  have hn : h.get? h.objs.size = none := Heap.get?_none_of_le (Nat.le_refl _)
  have hne : l ≠ h.objs.size := fun z => by have := a.hp.sub _ _ e; rw [z, hn] at this; cases this
  refine wpAny_pyIter_list (s := mk c.s h tk) hL ?_
  have W := Wk.list (prog := c.prog) (w := c.w) (A := A) r.none h.objs.size l hne xs.toArray 0 (Nat.zero_le _)
  have hz : xs.toArray.size - 0 = xs.length := by simp
  rw [hz] at W
  have W' : Wk c.prog c.w A h.objs.size [h.objs.size, l] [h.objs.size] xs.length (fun i v => xs[i]? = some v) (fun i h' => h'.IsListIter h.objs.size l (0 + i) ∧ h'.IsList l xs.toArray) true :=
    ⟨W.sub, W.frame, fun i s Q E hi st kk => W.item i s Q E hi st fun v h' tk p => kk v h' tk (by simpa using p), W.done, W.self⟩
  refine k _ _ _ _ _ _ W' ⟨⟨_, Heap.get?_push_size _ rfl, rfl, by simp [rawInt]⟩, hL.push _⟩ (Sub.push _ _) (fun U => Heap.size_push ..) (fun b hb => ?_) (fun b hb => ?_) fun i h st b hb => ?_
  · rcases List.mem_cons.mp hb with rfl | hb
    · exact .inr (.inl hn)
    · rw [List.mem_singleton.mp hb]; exact .inl ⟨o, e⟩
  · rw [List.mem_singleton.mp hb]; exact .inl hn
  · rcases List.mem_cons.mp hb with rfl | hb
    · obtain ⟨o, e, U⟩ := st.1; exact ⟨o, e⟩
    · rw [List.mem_singleton.mp hb]; obtain ⟨o, e, U⟩ := st.2; exact ⟨o, e⟩
theorem Iter_LI {I l : Addr} {xs : List Value} {i0 : Nat} (hl : ∃ o, σ.g.get? l = some o ∧ IsLs xs o) (h0 : i0 ≤ xs.length) : Iter c f σ [(I, IsLI l i0)] (.ref I) (xs.length - i0) (fun i v => xs[i0 + i]? = some v) true 0 := by
  intro A E h tk Q r a k
  obtain ⟨o, e, q⟩ := hl
  obtain ⟨oI, eI, qI1, qI2⟩ := a.hp.ld (I, IsLI l i0) (.head _)
  have hL : h.IsList l xs.toArray := IsLs.isList ⟨o, a.hp.sub _ _ e, q⟩
  have hI : h.IsListIter I l (i0 + 0) := ⟨oI, eI, qI1, qI2⟩
  have hne : l ≠ I := fun z => by have := a.hp.sub _ _ e; rw [z, eI] at this; cases this; have := q.1; rw [qI1] at this; exact absurd (Value.type.inj this) (by decide)
  have W := Wk.list (prog := c.prog) (w := c.w) (A := A) r.none I l hne xs.toArray i0 (by simpa using h0)
  have hz : xs.toArray.size - i0 = xs.length - i0 := by simp
  rw [hz] at W
  have W' : Wk c.prog c.w A I [I, l] [I] (xs.length - i0) (fun i v => xs[i0 + i]? = some v) (fun i h' => h'.IsListIter I l (i0 + i) ∧ h'.IsList l xs.toArray) true :=
    ⟨W.sub, W.frame, fun i s Q E hi st kk => W.item i s Q E hi st fun v h' tk p => kk v h' tk (by simpa using p), W.done, W.self⟩
  refine wpAny_pyIter_listiter (s := mk c.s h tk) hI (k I _ _ _ h tk W' ⟨hI, hL⟩ (Sub.refl _) (fun U => rfl) (fun b hb => ?_) (fun b hb => ?_) fun i h st b hb => ?_)
  · rcases List.mem_cons.mp hb with rfl | hb
    · exact .inr (.inr (.head _))
    · rw [List.mem_singleton.mp hb]; exact .inl ⟨o, e⟩
  · rw [List.mem_singleton.mp hb]; exact .inr (.head _)
  · rcases List.mem_cons.mp hb with rfl | hb
    · obtain ⟨o, e, U⟩ := st.1; exact ⟨o, e⟩
    · rw [List.mem_singleton.mp hb]; obtain ⟨o, e, U⟩ := st.2; exact ⟨o, e⟩
end
noncomputable def cellN : List (Str × NameKind) → Nat
  | [] => 0
  | (_, k) :: r => (if k == .cell then 1 else 0) + cellN r
noncomputable def frNs (n : Nat) (cl : List (Str × Addr)) : List (Str × NameKind) → List (Str × Option Addr)
  | [] => []
  | (x, k) :: r => if k == .cell then (x, some n) :: frNs (n + 1) cl r else if k == .free then (x, cl.lookup x) :: frNs n cl r else (x, none) :: frNs n cl r
theorem pushCells_size : ∀ (names : List (Str × NameKind)) (h : Heap), (pushCells h names).objs.size = h.objs.size + cellN names
  | [], _ => rfl
  | (x, k) :: r, h => by
    unfold pushCells cellN
    split
    · rw [pushCells_size r, Heap.size_push]; omega
    · rw [pushCells_size r]; omega
theorem cellsFrom_other {x : Str} : ∀ (names : List (Str × NameKind)) (n : Nat) (acc : List (Str × Addr)), x ∉ names.map (·.1) → (cellsFrom n names acc).lookup x = acc.lookup x
  | [], _, _, _ => rfl
  | (y, k) :: r, n, acc, h => by
    have hy : (x == y) = false := beq_eq_false_iff_ne.mpr fun z => h (by simp [z])
    have hr : x ∉ r.map (·.1) := fun z => h (by simp only [List.map_cons]; exact .tail _ z)
    unfold cellsFrom
    split
    · rw [cellsFrom_other r _ _ hr, List.lookup_cons, hy]
    · exact cellsFrom_other r _ _ hr
theorem frNs_at {cl : List (Str × Addr)} : ∀ (names : List (Str × NameKind)) (n : Nat) (acc : List (Str × Addr)) (h : Heap), (names.map (·.1)).Nodup → h.objs.size = n → ∀ (i : Nat) (x : Str) (k : NameKind), names[i]? = some (x, k) →
    ∃ p, (frNs n cl names)[i]? = some (x, p) ∧ (k = .cell → ∃ a, p = some a ∧ (cellsFrom n names acc).lookup x = some a ∧ (pushCells h names).IsCell a none ∧ n ≤ a) ∧ (k = .free → p = cl.lookup x ∧ (cellsFrom n names acc).lookup x = acc.lookup x) ∧ (k ≠ .cell → k ≠ .free → p = none)
  | [], _, _, _, _, _, i, x, k, e => by simp at e
  | (y, k') :: r, n, acc, h, nd, hn, i, x, k, e => by
    rw [List.map_cons, List.nodup_cons] at nd
    cases i with
    | zero =>
      simp only [List.getElem?_cons_zero, Option.some.injEq, Prod.mk.injEq] at e
      obtain ⟨(rfl), (rfl)⟩ := e
      unfold frNs cellsFrom pushCells
      by_cases hk : (k' == .cell) = true
      · simp only [hk, if_true]
        refine ⟨some n, rfl, fun U => ⟨n, rfl, ?_, ?_, Nat.le_refl _⟩, fun z => ?_, fun z => ?_⟩
        · rw [cellsFrom_other r _ _ nd.1]; simp
        · refine ⟨_, pushCells_keeps r _ _ _ (hn ▸ Heap.get?_push_size _ rfl), rfl⟩
        · rw [z] at hk; cases hk
        · exact absurd (beq_iff_eq.mp hk) z
      · by_cases hf : (k' == .free) = true
        · rw [if_neg hk, if_pos hf, if_neg hk, if_neg hk]
          refine ⟨_, rfl, fun z => absurd (by rw [z]; rfl) hk, fun U => ⟨rfl, cellsFrom_other r _ _ nd.1⟩, fun U z => absurd (beq_iff_eq.mp hf) z⟩
        · rw [if_neg hk, if_neg hf, if_neg hk, if_neg hk]
          exact ⟨_, rfl, fun z => absurd (by rw [z]; rfl) hk, fun z => absurd (by rw [z]; rfl) hf, fun U U => rfl⟩
    | succ i =>
      simp only [List.getElem?_cons_succ] at e
      unfold frNs cellsFrom pushCells
      by_cases hk : (k' == .cell) = true
      · simp only [hk, if_true, List.getElem?_cons_succ]
        obtain ⟨p, e1, e2, e3, e4⟩ := frNs_at (cl := cl) r (n + 1) ((y, n) :: acc) (h.push { cls := .type "cell", data := .cell none }) nd.2 (by rw [Heap.size_push, hn]) i x k e
        refine ⟨p, e1, fun z => ?_, fun z => ?_, e4⟩
        · obtain ⟨a, b1, b2, b3, b4⟩ := e2 z
          exact ⟨a, b1, b2, b3, by omega⟩
        · obtain ⟨b1, b2⟩ := e3 z
          refine ⟨b1, b2.trans ?_⟩
          have hxy : (x == y) = false := beq_eq_false_iff_ne.mpr fun z => nd.1 (z ▸ List.mem_map_of_mem (f := (·.1)) (List.mem_of_getElem? e))
          rw [List.lookup_cons, hxy]
      · by_cases hf : (k' == .free) = true
        · rw [if_neg hk, if_pos hf, if_neg hk, if_neg hk, List.getElem?_cons_succ]
          exact frNs_at (cl := cl) r n acc h nd.2 hn i x k e
        · rw [if_neg hk, if_neg hf, if_neg hk, if_neg hk, List.getElem?_cons_succ]
          exact frNs_at (cl := cl) r n acc h nd.2 hn i x k e
theorem frNs_len {cl : List (Str × Addr)} : ∀ (names : List (Str × NameKind)) (n : Nat), (frNs n cl names).length = names.length
  | [], _ => rfl
  | (x, k) :: r, n => by
    unfold frNs
    split
    · simp [frNs_len r]
    · split <;> simp [frNs_len r]
theorem frNs_cells : ∀ (names : List (Str × NameKind)) (n : Nat), (∀ p ∈ names, p.2 ≠ .free) → (frNs n [] names).filterMap (·.2) = List.range' n (cellN names)
  | [], _, _ => rfl
  | (x, k) :: r, n, h => by
    have hr : ∀ p ∈ r, p.2 ≠ .free := fun p hp => h p (.tail _ hp)
    have hx : ¬ (k == .free) = true := fun z => h (x, k) (.head _) (beq_iff_eq.mp z)
    unfold frNs cellN
    by_cases hk : (k == .cell) = true
    · rw [if_pos hk, if_pos hk, List.filterMap_cons]
      show n :: (frNs (n + 1) [] r).filterMap (·.2) = _
      rw [frNs_cells r _ hr, Nat.add_comm 1, List.range'_succ]
    · rw [if_neg hk, if_neg hx, if_neg hk, List.filterMap_cons, Nat.zero_add]
      exact frNs_cells r _ hr
theorem W_pair {α : Type} {c : Cx} {f : Fm} {t : Sem α} {σ : St} {Q : α → St → Prop} (x : W c f t σ Q) {A : Around} {E : Value → Shared → Prop} {h : Heap} {tk : Nat} {R : α → Shared → Prop} (r : Rk c A) (a : At c f σ h)
    (k : ∀ v σ' h' tk', At c f σ' h' → Mv c.fs f.own σ.g σ.led h σ'.g σ'.led h' → Q v σ' → R v (mk c.s h' tk')) : wpAny (model c.prog c.w) A t R E (mk c.s h tk) :=
  wpAny_mono (x A E h tk r a) (fun v s' p => by obtain ⟨σ', h', tk', rfl, a', m, q⟩ := p; exact k v σ' h' tk' a' m q) fun U U e => e
noncomputable def bindChk (names : List (Str × NameKind)) (cw : Bool) : List Nat → List (Str × Value) → Bool
  | [], [] => true
  | i :: is, b :: bs => nmSt names cw i b.1 && bindChk names cw is bs
  | _, _ => false
theorem bind_go {c : Cx} {f : Fm} {env : Env} {names : List (Str × NameKind)} {cw : Bool} (e : EnvOk f env names cw) (fB : Str × Value → PUnit → Sem (ForInStep PUnit)) (hf : ∀ n v u, fB (n, v) u = (do storeName env n v; pure (.yield ⟨⟩))) :
    ∀ (binds : List (Str × Value)) (is : List Nat) (σ : St), bindChk names cw is binds = true → W c f (forIn binds ⟨⟩ fB) σ fun _ σ' => σ' = { σ with vs := setAll σ.vs is (binds.map (·.2)) }
  | [], [], σ, _ => by rw [List.forIn_nil]; exact W.pure rfl
  | [], _ :: _, σ, h => by cases h
  | (x, v) :: bs, [], σ, h => by cases h
  | (x, v) :: bs, i :: is, σ, h => by
    have h := Bool.and_eq_true_iff.mp (show (nmSt names cw i x && bindChk names cw is bs) = true from h)
    rw [List.forIn_cons, hf]
    refine W.bind (W.bind (W_store e h.1 (W.pure ?_)))
    exact bind_go e fB hf bs is _ h.2
noncomputable def aB (a : Option Env) (b : Addr) : Addr := match a with | some o => o.builtins | none => b
noncomputable def aF (a : Option Env) (L F : Addr) : Addr := match a with | none => L | some _ => F
theorem ne_eq {sc : Scope} {L gl : Addr} {cells : List (Str × Addr)} {qual : Str} {fn : Option Addr} {code : Value} {around : Option Env} {bui F0 : Addr} (hF0 : ∀ o, around = some o → o.frame = some F0) (e : Env) (h : e = newEnv sc L gl cells qual fn code around bui) :
    e.scope = sc ∧ e.locals = L ∧ e.globals = gl ∧ e.cells = cells ∧ e.builtins = aB around bui ∧ e.frame = some (aF around L F0) := by
  rw [h]
  cases around with
  | none => exact ⟨rfl, rfl, rfl, rfl, rfl, rfl⟩
  | some o => exact ⟨rfl, rfl, rfl, rfl, rfl, hF0 o rfl⟩
theorem fn_env {c : Cx} {A : Around} {names : List (Str × NameKind)} {binds : List (Str × Value)} {is : List Nat} {fvs : List (Option Value)} {g h : Heap} {muts : Ledger} {sz : Option Nat} {tk : Nat} {E : Value → Shared → Prop} {Q : Env → Shared → Prop} {cl : List (Str × Addr)} {qual : Str} {fn : Option Addr} {code : Value} {around : Option Env} {sc : Scope} {bui F0 : Addr} (hF0 : ∀ o, around = some o → o.frame = some F0)
    (r : Rk c A) (H : Hp c.w c.fs [] [] g muts sz h) (hnm : sc.names = names) (hk : sc.kind = .function) (hbui : aB around bui = builtinsNs) (hnd : (names.map (·.1)).Nodup) (hcl : (∀ p ∈ names, p.2 ≠ .free) ∧ cl = [] ∨ (∀ p ∈ names, p.2 ≠ .cell))
    (hfr : ∀ (i : Nat) (x : Str), names[i]? = some (x, NameKind.free) → Ex2 fun ce v => cl.lookup x = some ce ∧ h.IsCell ce v ∧ ce ∉ adr muts ∧ fvs[i]? = some v) (hfn : ∀ (i : Nat) (x : Str) (k : NameKind), names[i]? = some (x, k) → k ≠ .free → fvs[i]? = some none) (hfl : fvs.length = names.length) (hfd : ((frNs 0 cl names).filterMap (·.2)).Nodup ∨ (∀ p ∈ names, p.2 ≠ .free) ∧ cl = [])
    (hb : bindChk names true is binds = true)
    (k : ∀ f env h₀ tk₀, EnvOk f env names true → At c f ⟨g, setAll fvs is (binds.map (·.2)), muts, sz.map (· + (1 + cellN names))⟩ h₀ → Mv c.fs f.own g muts h g muts h₀ → (∀ b ∈ f.own, h.get? b = none) → f.L = h.objs.size →
      env = newEnv sc h.objs.size mainGlobals (cellsFrom (h.objs.size + 1) names cl) qual fn code around bui → f.own = f.L :: List.range' (f.L + 1) (cellN names) ∧ f.ns = frNs (f.L + 1) cl names ∧ f.F = aF around f.L F0 → Q env (mk c.s h₀ tk₀)) :
    wpAny (model c.prog c.w) A (newFunctionEnv sc mainGlobals cl binds qual fn code around bui) Q E (mk c.s h tk) := by
  subst hnm
  have hn : h.get? h.objs.size = none := Heap.get?_none_of_le (Nat.le_refl _)
  let dO : Obj := { cls := .type (if around.isSome then "dict" else "frame"), data := .dict #[] }
  let h1 := pushCells (h.push dO) sc.names
  have S1 : Sub h h1 := fun b o e => pushCells_keeps _ _ b o (Heap.get?_push_of_some _ e)
  have hs1 : h1.objs.size = h.objs.size + (1 + cellN sc.names) := by
    show (pushCells (h.push dO) sc.names).objs.size = _
    rw [pushCells_size, Heap.size_push]; omega
  let f : Fm := ⟨h.objs.size, frNs (h.objs.size + 1) cl sc.names, h.objs.size :: List.range' (h.objs.size + 1) (cellN sc.names), aF around h.objs.size F0⟩
  have nsA := frNs_at (cl := cl) sc.names (h.objs.size + 1) cl (h.push dO) hnd (by rw [Heap.size_push])
  have hnew : ∀ b ∈ f.own, h.get? b = none := fun b hb => by
    rcases List.mem_cons.mp hb with rfl | hb
    · exact hn
    · exact Heap.get?_none_of_le (by have := (List.mem_range'_1.mp hb).1; omega)
  have hin : ∀ (i : Nat) (x : Str) (ce : Addr), f.ns[i]? = some (x, some ce) → (sc.names[i]? = some (x, .cell) ∧ (cellsFrom (h.objs.size + 1) sc.names cl).lookup x = some ce ∧ h1.IsCell ce none ∧ ce ∈ f.own) ∨ (sc.names[i]? = some (x, .free) ∧ (cellsFrom (h.objs.size + 1) sc.names cl).lookup x = some ce ∧ (∃ v, h.IsCell ce v ∧ fvs[i]? = some v) ∧ ce ∉ adr muts) := by
    intro i x ce e
    have hlt : i < sc.names.length := by rw [← frNs_len (cl := cl) sc.names (h.objs.size + 1)]; exact (List.getElem?_eq_some_iff.mp e).1
    obtain ⟨⟨y, k⟩, ey⟩ : ∃ q, sc.names[i]? = some q := ⟨_, List.getElem?_eq_getElem hlt⟩
    obtain ⟨p, e1, e2, e3, e4⟩ := nsA i y k ey
    have e' := e1.symm.trans e
    simp only [Option.some.injEq, Prod.mk.injEq] at e'
    obtain ⟨(rfl), (rfl)⟩ := e'
    by_cases hk : k = .cell
    · obtain ⟨a, b1, b2, b3, b4⟩ := e2 hk
      cases b1
      refine .inl ⟨hk ▸ ey, b2, b3, List.mem_cons_of_mem _ (List.mem_range'_1.mpr ⟨b4, ?_⟩)⟩
      exact Nat.lt_of_lt_of_le b3.lt (Nat.le_of_eq (hs1.trans (Nat.add_assoc ..).symm))
    · by_cases hf : k = .free
      · obtain ⟨b1, b2⟩ := e3 hf
        obtain ⟨ce', v, c1, c2, c3, c4⟩ := hfr i y (hf ▸ ey)
        rw [c1] at b1; cases b1
        exact .inr ⟨hf ▸ ey, b2.trans c1, ⟨v, c2, c4⟩, c3⟩
      · exact absurd (e4 hk hf) fun z => nomatch z
  have allIn : ∀ b ∈ f.all, b = h.objs.size ∨ Ex2 fun i x => f.ns[i]? = some (x, some b) := fun b hb => by
    rcases List.mem_cons.mp hb with rfl | hb
    · exact .inl rfl
    · obtain ⟨⟨x, p⟩, hp, e⟩ := List.mem_filterMap.mp hb
      obtain ⟨i, hi⟩ := List.getElem?_of_mem hp
      have e' : p = some b := e
      exact .inr ⟨i, x, by rw [hi, e']⟩
  have hL : h.objs.size ∉ adr muts := fun z => by obtain ⟨o, e⟩ := H.adrHere z; rw [hn] at e; cases e
  have gnone : ∀ b, h.get? b = none → g.get? b = none := fun b hb => by
    cases z : g.get? b with
    | none => rfl
    | some o => have := H.sub _ _ z; rw [hb] at this; cases this
  have ns1 : h1.Ns h.objs.size (fun U => none) := (Heap.Ns.new h (.type (if around.isSome then "dict" else "frame"))).keeps (pushCells_keeps _ _)
  have at1 : At c f ⟨g, fvs, muts, sz.map (· + (1 + cellN sc.names))⟩ h1 := by
    have H0 := H.grow S1 (sz' := sz.map (· + (1 + cellN sc.names))) fun n e => by
      cases q : sz with
      | none => rw [q] at e; cases e
      | some m => rw [q] at e; cases e; rw [hs1, H.sz m q]
    refine ⟨⟨H0.gr, H0.sub, H0.ld, fun b hb => ?_, fun b hb => gnone b (hnew b hb), H0.offL, H0.nd, fun b hb => ?_, fun b hb => ?_, H0.frm, H0.sz⟩, hfl.trans (frNs_len _ _).symm, ⟨_, ns1, fun i x e => ?_⟩, fun i x ce e => ?_⟩
    · rcases allIn b hb with rfl | ⟨i, x, e⟩
      · obtain ⟨o, U, U, e, U⟩ := ns1; exact ⟨o, e⟩
      · rcases hin i x b e with ⟨U, U, ⟨o, e, U⟩, U⟩ | ⟨U, U, ⟨v, ⟨o, e, U⟩, U⟩, U⟩
        · exact ⟨o, e⟩
        · exact ⟨o, S1 _ _ e⟩
    · rcases allIn b hb with rfl | ⟨i, x, e⟩
      · exact hL
      · rcases hin i x b e with ⟨U, U, U, e⟩ | ⟨U, U, U, e⟩
        · exact fun z => by obtain ⟨o, q⟩ := H.adrHere z; rw [hnew b e] at q; cases q
        · exact e
    · rcases List.mem_cons.mp hb with rfl | hb'
      · exact .head _
      · refine .tail _ ?_
        rcases hcl with ⟨h1, (rfl)⟩ | h2
        · show b ∈ (frNs (h.objs.size + 1) [] sc.names).filterMap (·.2)
          rw [frNs_cells sc.names (h.objs.size + 1) h1]; exact hb'
        · have : cellN sc.names = 0 := by
            have go : ∀ l : List (Str × NameKind), (∀ p ∈ l, p.2 ≠ .cell) → cellN l = 0 := fun l => by
              induction l with
              | nil => intro _; rfl
              | cons q l ih =>
                intro hl
                obtain ⟨y, k⟩ := q
                have hk : ¬ (k == .cell) = true := fun z => hl (y, k) (.head _) (beq_iff_eq.mp z)
                unfold cellN
                rw [if_neg hk, ih fun p hp => hl p (.tail _ hp)]
            exact go _ h2
          rw [this] at hb'; cases hb'
    · have e' : (frNs (h.objs.size + 1) cl sc.names)[i]? = some (x, none) := e
      have hlt : i < sc.names.length := by rw [← frNs_len (cl := cl) sc.names (h.objs.size + 1)]; exact (List.getElem?_eq_some_iff.mp e').1
      obtain ⟨⟨y, k⟩, ey⟩ : ∃ q, sc.names[i]? = some q := ⟨_, List.getElem?_eq_getElem hlt⟩
      obtain ⟨p, e1, e2, e3, e4⟩ := nsA i y k ey
      rw [e'] at e1; cases e1
      have : k ≠ .free := fun z => by
        subst z
        obtain ⟨ce, v, c1, U⟩ := hfr i _ ey
        have := (e3 rfl).1
        rw [c1] at this; cases this
      show none = (fvs[i]?).join
      rw [hfn i _ k ey this]; rfl
    · rcases hin i x ce e with ⟨e1, U, e2, U⟩ | ⟨U, U, ⟨v, e2, e3⟩, U⟩
      · show h1.IsCell ce (fvs[i]?).join
        rw [hfn i x _ e1 (by simp)]; exact e2
      · show h1.IsCell ce (fvs[i]?).join
        rw [e3]; exact e2.keeps S1
  obtain ⟨e0, hE⟩ : ∃ e, e = newEnv sc h.objs.size mainGlobals (cellsFrom (h.objs.size + 1) sc.names cl) qual fn code around bui := ⟨_, rfl⟩
  obtain ⟨q1, q2, q3, q4, q5, q6⟩ := ne_eq hF0 e0 hE
  have envok : EnvOk f e0 sc.names true := by
    refine ⟨q2, q6, .head _, fun U i x ce e1 e2 => ?_, by rw [q1]; exact hk, by rw [q1], q3, q5.trans hbui, frNs_len _ _, ?_, fun i x k e => ?_⟩
    · rcases hin i x ce e1 with ⟨U, U, U, q⟩ | ⟨q, U⟩
      · exact q
      · rw [e2] at q; cases q
    · show (h.objs.size :: (frNs (h.objs.size + 1) cl sc.names).filterMap (·.2)).Nodup
      rw [List.nodup_cons]
      have lcase : ∀ (hc : (∀ p ∈ sc.names, p.2 ≠ .free) ∧ cl = []), h.objs.size ∉ (frNs (h.objs.size + 1) cl sc.names).filterMap (·.2) ∧ ((frNs (h.objs.size + 1) cl sc.names).filterMap (·.2)).Nodup := by
        rintro ⟨h1, (rfl)⟩
        rw [frNs_cells sc.names _ h1]
        exact ⟨fun z => by have := (List.mem_range'_1.mp z).1; omega, List.nodup_range'⟩
      rcases hfd with hfd | hfd
      · rcases hcl with hcl | hcl
        · exact lcase hcl
        · have same : ∀ (l : List (Str × NameKind)) (n m : Nat), (∀ p ∈ l, p.2 ≠ .cell) → frNs n cl l = frNs m cl l := fun l => by
            induction l with
            | nil => intros; rfl
            | cons q l ih =>
              intro n m hl
              obtain ⟨y, k⟩ := q
              have hk' : ¬ (k == .cell) = true := fun z => hl (y, k) (.head _) (beq_iff_eq.mp z)
              unfold frNs
              rw [if_neg hk', if_neg hk', ih n m fun p hp => hl p (.tail _ hp)]
          refine ⟨fun z => ?_, by rw [same sc.names (h.objs.size + 1) 0 hcl]; exact hfd⟩
          obtain ⟨⟨x, p⟩, hp, e⟩ := List.mem_filterMap.mp z
          obtain ⟨i, hi⟩ := List.getElem?_of_mem hp
          have e' : p = some h.objs.size := e
          rcases hin i x h.objs.size (by rw [← e']; exact hi) with ⟨q, U⟩ | ⟨U, U, ⟨v, q, U⟩, U⟩
          · exact hcl _ (List.mem_of_getElem? q) rfl
          · exact Nat.lt_irrefl _ q.lt
      · exact lcase hfd
    · obtain ⟨p, e1, e2, e3, e4⟩ := nsA i x k e
      refine ⟨p, e1, fun z => e4 (by rw [z]; simp) (by rw [z]; simp), fun z => ?_⟩
      rcases z with rfl | rfl
      · obtain ⟨a, b1, b2, U⟩ := e2 rfl
        exact ⟨a, b1, by rw [q4]; exact b2⟩
      · obtain ⟨b1, b2⟩ := e3 rfl
        obtain ⟨ce', v, c1, U⟩ := hfr i x e
        exact ⟨ce', b1.trans c1, by rw [q4]; exact b2.trans c1⟩
  unfold newFunctionEnv
  refine wpAny_bind (wpAny_alloc ?_)
  refine wpAny_bind (wpAny_layCells _ (fun name kind cells => by cases hkc : kind == NameKind.cell <;> simp [hkc]) _ _ _ _ ?_)
  rw [show ({ mk c.s h tk with heap := h.push dO } : Shared).heap.objs.size = h.objs.size + 1 from Heap.size_push ..]
  refine wpAny_bind ?_
  have go := bind_go (c := c) envok (fun p u => do storeName e0 p.1 p.2; pure (.yield ⟨⟩)) (fun U U U => rfl) binds is ⟨g, fvs, muts, sz.map (· + (1 + cellN sc.names))⟩ hb
  have main := W_pair go (E := E) (R := fun U s' => Q e0 s') r (tk := tk) at1 fun u σ' h' tk' a' m q => by
    subst q
    exact k f _ h' tk' envok a' ((Mv.grow (own := f.own) S1).trans m) hnew rfl hE ⟨rfl, rfl, rfl⟩
  clear go envok q1 q2 q3 q4 q5 q6 at1 ns1 gnone hL allIn hin hnew nsA hs1 S1 k hF0 hbui
  subst hE
  cases around <;> exact wpAny_mono main (fun U s' q => wpAny_pure q) fun U U e => e
noncomputable def chkTgt (names : List (Str × NameKind)) (cw : Bool) : List Nat → List Expr → Bool
  | [], [] => true
  | i :: is, e :: es => ((vName e).any fun x => nmSt names cw i x.1) && chkTgt names cw is es
  | _, _ => false
section
variable {c : Cx} {f : Fm} {σ : St} {env : Env} {names : List (Str × NameKind)} {cw : Bool}
theorem tgt_eq : ∀ {is : List Nat} {es : List Expr}, chkTgt names cw is es = true → (assignEach es env).length = is.length ∧ (assignEach es env).findIdx? (·.1) = none ∧ (assignEach es env).map (·.2) = es.map fun e => assign e env
  | [], [], _ => ⟨rfl, rfl, rfl⟩
  | i :: is, e :: es, h => by
    have h := Bool.and_eq_true_iff.mp (show (((vName e).any fun x => nmSt names cw i x.1) && chkTgt names cw is es) = true from h)
    obtain ⟨a1, a2, a3⟩ := tgt_eq h.2
    obtain ⟨⟨x, p⟩, q, -⟩ := any_ h.1
    obtain rfl := vName_ q
    have e1 : assignEach (.Name x p :: es) env = (false, assign (.Name x p) env) :: assignEach es env := rfl
    rw [e1]
    exact ⟨congrArg (· + 1) a1, by rw [List.findIdx?_cons, a2]; rfl, congrArg (_ :: ·) a3⟩
  | [], _ :: _, h => by cases h
  | _ :: _, [], h => by cases h
theorem tgt_one (e : EnvOk f env names cw) {i : Nat} {x : Expr} (h : ((vName x).any fun x => nmSt names cw i x.1) = true) (v : Value) : W c f (assign x env v) σ fun _ σ' => σ' = { σ with vs := σ.vs.set i (some v) } := by
  obtain ⟨⟨x, p⟩, q, h⟩ := any_ h
  obtain rfl := vName_ q
  exact fun A E hh tk r a => assign_Name (W_store (Q := fun _ σ' => σ' = { σ with vs := σ.vs.set i (some v) }) e h rfl A E hh tk r a)
theorem tgt_go (e : EnvOk f env names cw) : ∀ (is : List Nat) (es : List Expr) (xs : List Value) (σ : St), chkTgt names cw is es = true → xs.length = is.length → W c f (assignInOrder (es.map fun e => assign e env) xs) σ fun _ σ' => σ' = { σ with vs := setAll σ.vs is xs }
  | [], [], [], σ, _, _ => W.pure rfl
  | [], [], _ :: _, σ, _, hl => by simp at hl
  | [], _ :: _, _, σ, h, _ => by cases h
  | _ :: _, [], _, σ, h, _ => by cases h
  | _ :: _, _ :: _, [], σ, _, hl => by simp at hl
  | i :: is, x :: es, v :: xs, σ, h, hl => by
    have h := Bool.and_eq_true_iff.mp (show (((vName x).any fun x => nmSt names cw i x.1) && chkTgt names cw is es) = true from h)
    have go := tgt_go e is es xs { σ with vs := σ.vs.set i (some v) } h.2 (by simpa using hl)
    intro A E hh tk r a
    show wpAny _ A (do holding xs (assign x env v); assignInOrder (es.map fun e => assign e env) xs) _ _ _
    refine wpAny_bind (wpAny_holding (W_pair (tgt_one e h.1 v) r a fun _ σ' h' tk' a' m q => ?_))
    subst q
    refine W_pair go r a' fun u σ2 h2 tk2 a2 m2 q2 => ?_
    exact ⟨σ2, h2, tk2, rfl, a2, m.trans m2, q2⟩
theorem At.up {h h' : Heap} (a : At c f σ h) (S : Sub h h') {k : Nat} (hz : h'.objs.size = h.objs.size + k) : At c f { σ with sz := szUp σ k } h' :=
  ⟨a.hp.grow S fun n e => by
    unfold szUp at e
    cases q : σ.sz with
    | none => rw [q] at e; cases e
    | some m => rw [q] at e; cases e; rw [hz, a.hp.sz m q], a.fr.keep fun b U o e => S b o e⟩
theorem W_tgt (e : EnvOk f env names cw) {is : List Nat} {es : List Expr} {k : Nat} {pos : Pos} {T : Addr} {vals : Array Value} {A : Around} {E : Value → Shared → Prop} {h : Heap} {tk : Nat} {R : Unit → Shared → Prop} (r : Rk c A) (a : At c f σ h) (hT : h.IsTuple T vals) (hc : chkTgt names cw is es = true) (hl : vals.size = is.length)
    (q : ∀ h' tk', At c f { σ with vs := setAll σ.vs is vals.toList, sz := szUp σ 3 } h' → Mv c.fs f.own σ.g σ.led h σ.g σ.led h' → R () (mk c.s h' tk')) : wpAny (model c.prog c.w) A (assign (.Tuple es k pos) env (.ref T)) R E (mk c.s h tk) := by
  obtain ⟨a1, a2, a3⟩ := tgt_eq (env := env) hc
  rw [assign_Tuple]
  refine wpAny_bind (wpAny_standAt ?_)
  unfold unpack
  rw [a1, a2, a3, ← hl]
  refine wpAny_bind (wpAny_holding (unpack_tup (s := mk c.s h tk) r.none hT fun h' S hz => ?_))
  refine W_pair (tgt_go e _ _ _ _ hc (by simpa using hl)) r (a.up S hz) fun _ σ' h2 tk2 a2 m2 q2 => ?_
  subst q2
  exact q h2 tk2 a2 ((Mv.grow S).trans m2)
end
noncomputable def cloL (env : Env) (names : List (Str × NameKind)) (acc : List (Str × Addr)) : List (Str × Addr) := names.foldl (fun cs p => if p.2 == .free then (p.1, (env.cells.lookup p.1).getD 0) :: cs else cs) acc
theorem closureFor_eq {scope : Scope} {env : Env} (h : ∀ p ∈ scope.names, p.2 = .free → ∃ ce, env.cells.lookup p.1 = some ce) : closureFor scope env = pure (cloL env scope.names []) := by
  have go : ∀ (l : List (Str × NameKind)) (acc : List (Str × Addr)), (∀ p ∈ l, p.2 = .free → ∃ ce, env.cells.lookup p.1 = some ce) →
      (forIn l acc (fun (p : Str × NameKind) (cs : List (Str × Addr)) => if p.2 == .free then (do let a ← cellOf env p.1; pure (ForInStep.yield ((p.1, a) :: cs))) else pure (ForInStep.yield cs)) : Sem (List (Str × Addr))) = pure (cloL env l acc) := by
    intro l
    induction l with
    | nil => intro acc U; rfl
    | cons p l ih =>
      intro acc hl
      rw [List.forIn_cons]
      by_cases hp : (p.2 == .free) = true
      · obtain ⟨ce, e⟩ := hl p (.head _) (beq_iff_eq.mp hp)
        have hce : cellOf env p.1 = pure ce := by unfold cellOf; rw [e]
        rw [if_pos hp, hce]
        show (forIn l ((p.1, ce) :: acc) _ : Sem _) = _
        rw [ih _ fun q hq => hl q (.tail _ hq)]
        unfold cloL
        rw [List.foldl_cons, if_pos hp, e]; rfl
      · rw [if_neg hp]
        show (forIn l acc _ : Sem _) = _
        rw [ih _ fun q hq => hl q (.tail _ hq)]
        unfold cloL
        rw [List.foldl_cons, if_neg hp]
  unfold closureFor
  have := go scope.names [] h
  refine Eq.trans ?_ this
  simp only [bind_pure]
theorem cloL_lookup {env : Env} {x : Str} {ce : Addr} (hx : env.cells.lookup x = some ce) : ∀ (l : List (Str × NameKind)) (acc : List (Str × Addr)), ((x, NameKind.free) ∈ l ∨ acc.lookup x = some ce) → (cloL env l acc).lookup x = some ce
  | [], acc, h => h.resolve_left (by simp)
  | (y, k) :: l, acc, h => by
    unfold cloL
    rw [List.foldl_cons]
    by_cases hk : (k == .free) = true
    · rw [if_pos hk]
      refine cloL_lookup hx l _ ?_
      by_cases hy : x = y
      · subst hy
        refine .inr ?_
        rw [List.lookup_cons, hx]; simp
      · have hb : (x == y) = false := beq_eq_false_iff_ne.mpr hy
        rcases h with h | h
        · rcases List.mem_cons.mp h with e | e
          · cases e; exact absurd rfl hy
          · exact .inl e
        · refine .inr ?_
          rw [List.lookup_cons, hb]; exact h
    · rw [if_neg hk]
      refine cloL_lookup hx l _ ?_
      rcases h with h | h
      · rcases List.mem_cons.mp h with e | e
        · cases e; exact absurd rfl hk
        · exact .inl e
      · exact .inr h
noncomputable def relN (on names : List (Str × NameKind)) : List (Str × NameKind) := names.map fun (n, k) => if (k == .free && on.lookup n == some .cell) then (n, .cell) else (n, k)
noncomputable def chkF1 (on : List (Str × NameKind)) (x : Str) (k : NameKind) (o : Option Nat) : Bool := match o with
  | some j => k == .free && ((on[j]?).any fun p => p.1 == x && (p.2 == .cell || p.2 == .free))
  | none => !(k == .free) && !(k == .cell)
noncomputable def chkFr (on : List (Str × NameKind)) : List (Str × NameKind) → List (Option Nat) → Bool
  | [], [] => true
  | p :: r, o :: os => chkF1 on p.1 p.2 o && chkFr on r os
  | _, _ => false
noncomputable def cvs (vs : List (Option Value)) (fr : List (Option Nat)) : List (Option Value) := fr.map fun o => o.bind fun j => (vs[j]?).join
noncomputable def chkSc (on : List (Str × NameKind)) (sc : Scope) (names : List (Str × NameKind)) (fr : List (Option Nat)) : Bool :=
  decide (sc.kind = .function) && decide (sc.names = names) && decide (names.map (·.1)).Nodup && chkFr on names fr
theorem chkFr_ {on : List (Str × NameKind)} : ∀ {names : List (Str × NameKind)} {fr : List (Option Nat)}, chkFr on names fr = true → fr.length = names.length ∧ ∀ (i : Nat) (x : Str) (k : NameKind), names[i]? = some (x, k) → ∃ o, fr[i]? = some o ∧ k ≠ .cell ∧ (k ≠ .free → o = none) ∧ (k = .free → Ex2 fun j kj => o = some j ∧ on[j]? = some (x, kj) ∧ (kj = .cell ∨ kj = .free))
  | [], [], _ => ⟨rfl, fun i x k e => by simp at e⟩
  | [], _ :: _, h => by cases h
  | _ :: _, [], h => by cases h
  | (y, k') :: r, o :: os, h => by
    obtain ⟨h1, h2⟩ := Bool.and_eq_true_iff.mp (show (chkF1 on y k' o && chkFr on r os) = true from h)
    obtain ⟨a1, a2⟩ := chkFr_ h2
    refine ⟨by simp [a1], fun i x k e => ?_⟩
    cases i with
    | succ i =>
      simp only [List.getElem?_cons_succ] at e ⊢
      exact a2 i x k e
    | zero =>
      simp only [List.getElem?_cons_zero, Option.some.injEq, Prod.mk.injEq] at e ⊢
      obtain ⟨(rfl), (rfl)⟩ := e
      refine ⟨o, rfl, ?_⟩
      cases o with
      | none =>
        replace h1 : (!(k' == .free) && !(k' == .cell)) = true := h1
        simp only [Bool.and_eq_true, Bool.not_eq_true', beq_eq_false_iff_ne, ne_eq] at h1
        exact ⟨h1.2, fun U => rfl, fun z => absurd z h1.1⟩
      | some j =>
        replace h1 : (k' == .free && ((on[j]?).any fun p => p.1 == y && (p.2 == .cell || p.2 == .free))) = true := h1
        rw [Bool.and_eq_true, beq_iff_eq] at h1
        obtain ⟨hk, h3⟩ := h1
        subst hk
        obtain ⟨⟨y', kj⟩, ej, hj⟩ := any_ h3
        clear h3
        replace hj : (y' == y && (kj == .cell || kj == .free)) = true := hj
        rw [Bool.and_eq_true, Bool.or_eq_true, beq_iff_eq, beq_iff_eq, beq_iff_eq] at hj
        obtain ⟨(rfl), hj⟩ := hj
        exact ⟨nofun, fun z => absurd rfl z, fun U => ⟨j, kj, rfl, ej, hj⟩⟩
theorem codeAny_compLoop_any {prog : Program} {w : World} {A : Around} {R : Result → Shared → Prop} {s : Shared} {elt target iter : Expr} {ifs : List Expr} {scope : Scope} {pos : Pos} {it acc : Value} {env : Env} (I : Nat → Shared → Prop)
    (turn : ∀ n s, I n s → wpAny (model prog w) A (pyNext it) (fun r s₁ => match r with
      | none => R (.ok .next) s₁
      | some v => wpAny (model prog w) A (letOwnedTupleGo target it v) (fun U s₂ => wpAny (model prog w) A (assign target env v) (fun U s₂ =>
          wpAny (model prog w) A (forIn ifs true fun c r => if r = true then do let ok ← isTrue c env (eval c env); pure (ForInStep.yield ok) else pure (ForInStep.yield r)) (fun ok s₃ =>
            if ok = true then wpAny (model prog w) A (eval elt env) (fun x s₄ =>
              wpAny (model prog w) A (call (.builtin "list.append") [acc, x]) (fun U s₅ => ∃ m, m < n ∧ I m s₅) (notedBy (model prog w) A env fun e s' => R (.error e) s') s₄) (notedBy (model prog w) A env fun e s' => R (.error e) s') s₃
            else ∃ m, m < n ∧ I m s₃) (notedBy (model prog w) A env fun e s' => R (.error e) s') s₂) (notedBy (model prog w) A env fun e s' => R (.error e) s') s₂) (notedBy (model prog w) A env fun e s' => R (.error e) s') s₁) (notedBy (model prog w) A env fun e s' => R (.error e) s') s)
    (n : Nat) (h : I n s) : codeAny (model prog w) A (.compLoop (.ListComp elt [⟨target, iter, ifs, 0⟩] scope pos) 0 it acc env) R s := by
  refine codeAny_loop rfl I (fun n s hI => ?_) n h
  show wpAny _ A ((compTurn (.ListComp elt [⟨target, iter, ifs, 0⟩] scope pos) 0 it acc env).onRaise (fun x => do noteFrame x env; theTreesLotGoes x)) _ _ s
  refine wpAny_noted ?_
  rw [compTurn_list]
  refine wpAny_bind (wpAny_standAt (wpAny_bind (wpAny_mono (turn n s hI) (fun r s₁ h₁ => ?_) fun U U h' => h')))
  cases r with
  | none => exact wpAny_pure h₁
  | some v =>
    refine wpAny_bind (wpAny_mono h₁ (fun U s₂ h₂ => ?_) fun U U h' => h')
    refine wpAny_bind (wpAny_mono h₂ (fun U s₃ h₃ => wpAny_bind (wpAny_mono h₃ (fun ok s₄ h₄ => ?_) fun U U h' => h')) fun U U h' => h')
    cases ok with
    | false => exact wpAny_pure ⟨rfl, h₄⟩
    | true => exact wpAny_bind (wpAny_bind (wpAny_mono h₄ (fun x s₅ h₅ => wpAny_bind (wpAny_mono h₅ (fun U s₆ h₆ => wpAny_pure (wpAny_pure ⟨rfl, h₆⟩)) fun U U h' => h')) fun U U h' => h'))
section
variable {c : Cx} {f : Fm} {σ : St} {env : Env} {A : Around} {E : Value → Shared → Prop}
theorem Hp.bare {h : Heap} (a : At c f σ h) : Hp c.w c.fs [] [] σ.g σ.led σ.sz h :=
  ⟨a.hp.gr, a.hp.sub, a.hp.ld, (fun U q => nomatch q), (fun U q => nomatch q), a.hp.offL, a.hp.nd, (fun U q => nomatch q), (fun U q => nomatch q), a.hp.frm, a.hp.sz⟩
theorem comp_in {K : Tb} (e : EnvOk f env K.names K.cw) {sc : Scope} {names : List (Str × NameKind)} {fr : List (Option Nat)} (hsc : chkSc K.names sc names fr = true) {h : Heap} {tk : Nat} (r : Rk c A) (a : At c f σ h) {R : Value → Env → Shared → Prop}
    (k : ∀ f1 env1 cenv acc h3 tk3, EnvOk f1 env1 (relN K.names names) false → env1 = { cenv with scope := relabel sc env } → cenv.locals = f1.L → At c f1 ⟨σ.g, cvs σ.vs fr, (acc, IsLs []) :: σ.led, σ.sz.map (· + 2)⟩ h3 → (∀ b o, h.get? b = some o → b ∉ adr σ.led → h3.get? b = some o ∨ (b ∈ c.fs ∧ ∃ sl, h3.get? b = some { o with slots := sl })) → (∀ b o, h.get? b = some o → b ∉ adr σ.led → ∃ o', h3.get? b = some o') →
      f1.own = [f1.L] → (∀ b ∈ f1.all, b = f1.L ∨ b ∈ f.all) → h.get? f1.L = none → h.get? acc = none → R (.ref acc) cenv (mk c.s h3 tk3)) :
    wpAny (model c.prog c.w) A (newList []) (fun acc s3 => wpAny (model c.prog c.w) A (newFunctionEnv sc env.globals (cloL env sc.names []) [] env.qual none .none (some env)) (fun cenv s4 => R acc cenv s4) E s3) E (mk c.s h tk) := by
  unfold chkSc at hsc
  simp only [Bool.and_eq_true, decide_eq_true_eq] at hsc
  obtain ⟨⟨⟨hk, hnm⟩, hnd⟩, hfr⟩ := hsc
  obtain ⟨hfl, hfa⟩ := chkFr_ hfr
  refine wpAny_newList (s := mk c.s h tk) ?_ (Nat.zero_le _)
  obtain ⟨aN, mN⟩ := a.newL (o := { cls := .type "list", data := .seq ([] : List Value).toArray }) (P := IsLs []) rfl ⟨(rfl), (rfl), _, (rfl)⟩
  have hn : h.get? h.objs.size = none := Heap.get?_none_of_le (Nat.le_refl _)
  rw [e.glo]
  -- the outer cell of a free name
  have outer : ∀ (i : Nat) (x : Str), names[i]? = some (x, NameKind.free) → Ex2 fun ce j => env.cells.lookup x = some ce ∧ fr[i]? = some (some j) ∧ h.IsCell ce ((σ.vs[j]?).join) ∧ ce ∈ f.all := fun i x ei => by
    obtain ⟨o, e1, U, U, e2⟩ := hfa i x _ ei
    obtain ⟨j, kj, (rfl), e3, e4⟩ := e2 rfl
    obtain ⟨p, e5, U, e6⟩ := e.at_ j x kj e3
    obtain ⟨ce, (rfl), e7⟩ := e6 e4
    exact ⟨ce, j, e7, e1, a.fr.cel j x ce e5, Fm.all_cell e5⟩
  have clo : ∀ (i : Nat) (x : Str), names[i]? = some (x, NameKind.free) → ∀ ce, env.cells.lookup x = some ce → (cloL env sc.names []).lookup x = some ce := fun i x ei ce ec => cloL_lookup ec _ _ (.inl (by rw [hnm]; exact List.mem_of_getElem? ei))
  have nocell : ∀ p ∈ names, p.2 ≠ .cell := fun p hp => by
    obtain ⟨i, ei⟩ := List.getElem?_of_mem hp
    obtain ⟨o, U, q, U⟩ := hfa i p.1 p.2 ei
    exact q
  -- the free names' cells are apart
  have hdist : ∀ n, ((frNs n (cloL env sc.names []) names).filterMap (·.2)).Nodup ∧ ∀ ce ∈ (frNs n (cloL env sc.names []) names).filterMap (·.2), ∃ x, (x, NameKind.free) ∈ names ∧ env.cells.lookup x = some ce := by
    intro n0
    have ndo := (List.nodup_cons.mp e.ndA).2
    -- each entry with a cell is an outer entry of the same name
    have key : ∀ (l : List (Str × NameKind)) (n : Nat), (∀ p ∈ l, p ∈ names) → (l.map (·.1)).Nodup → ((frNs n (cloL env sc.names []) l).filterMap (·.2)).Nodup ∧ ∀ ce ∈ (frNs n (cloL env sc.names []) l).filterMap (·.2), ∃ x, (x, NameKind.free) ∈ l ∧ env.cells.lookup x = some ce := by
      intro l
      induction l with
      | nil => intro n U U; exact ⟨List.nodup_nil, fun U q => nomatch q⟩
      | cons q l ih =>
        intro n hl hnl
        obtain ⟨y, k⟩ := q
        rw [List.map_cons, List.nodup_cons] at hnl
        have hc : ¬ (k == .cell) = true := fun z => nocell (y, k) (hl _ (.head _)) (beq_iff_eq.mp z)
        obtain ⟨i1, i2⟩ := ih n (fun p hp => hl p (.tail _ hp)) hnl.2
        unfold frNs
        rw [if_neg hc]
        by_cases hf : (k == .free) = true
        · have hk' : k = .free := beq_iff_eq.mp hf
          subst hk'
          obtain ⟨i, ei⟩ := List.getElem?_of_mem (hl _ (.head _))
          obtain ⟨ce, j, c1, c2, c3, c4⟩ := outer i y ei
          rw [if_pos hf, clo i y ei ce c1, List.filterMap_cons]
          refine ⟨List.nodup_cons.mpr ⟨fun z => ?_, i1⟩, fun ce' hce' => ?_⟩
          · obtain ⟨x', hx', cx'⟩ := i2 ce z
            -- two names of one outer cell
            have hne : x' ≠ y := fun z' => hnl.1 (by rw [← z']; exact List.mem_map_of_mem (f := (·.1)) hx')
            obtain ⟨i', ei'⟩ := List.getElem?_of_mem (hl _ (.tail _ hx'))
            obtain ⟨o1, e1, U, U, e2⟩ := hfa i' x' _ ei'
            obtain ⟨j1, kj1, (rfl), e3, e4⟩ := e2 rfl
            obtain ⟨p1, e5, U, e6⟩ := e.at_ j1 x' kj1 e3
            obtain ⟨ce1, (rfl), e7⟩ := e6 e4
            rw [cx'] at e7; cases e7
            obtain ⟨o2, f1, U, U, f2⟩ := hfa i y _ ei
            obtain ⟨j2, kj2, (rfl), f3, f4⟩ := f2 rfl
            obtain ⟨p2, f5, U, f6⟩ := e.at_ j2 y kj2 f3
            obtain ⟨ce2, (rfl), f7⟩ := f6 f4
            rw [c1] at f7; cases f7
            have two : ∀ (L : List (Str × Option Addr)), (L.filterMap (·.2)).Nodup → ∀ (a b : Nat) (xa xb : Str), L[a]? = some (xa, some ce) → L[b]? = some (xb, some ce) → xa = xb := by
              intro L
              induction L with
              | nil => intro _ a b xa xb h1; simp at h1
              | cons q L ihL =>
                intro nd a b xa xb h1 h2
                obtain ⟨y', o'⟩ := q
                have nd' : (L.filterMap (·.2)).Nodup := by
                  cases o' with
                  | none => simpa using nd
                  | some z => simp only [List.filterMap_cons] at nd; exact (List.nodup_cons.mp nd).2
                have hin : ∀ (m : Nat) (xn : Str), L[m]? = some (xn, some ce) → ce ∈ L.filterMap (·.2) := fun m xn em => List.mem_filterMap.mpr ⟨(xn, some ce), List.mem_of_getElem? em, rfl⟩
                cases a with
                | zero =>
                  simp only [List.getElem?_cons_zero, Option.some.injEq, Prod.mk.injEq] at h1
                  obtain ⟨(rfl), (rfl)⟩ := h1
                  cases b with
                  | zero =>
                    simp only [List.getElem?_cons_zero, Option.some.injEq, Prod.mk.injEq] at h2
                    exact h2.1
                  | succ b =>
                    simp only [List.filterMap_cons] at nd
                    exact absurd (hin b xb (by simpa using h2)) (List.nodup_cons.mp nd).1
                | succ a =>
                  cases b with
                  | zero =>
                    simp only [List.getElem?_cons_zero, Option.some.injEq, Prod.mk.injEq] at h2
                    obtain ⟨(rfl), (rfl)⟩ := h2
                    simp only [List.filterMap_cons] at nd
                    exact absurd (hin a xa (by simpa using h1)) (List.nodup_cons.mp nd).1
                  | succ b => exact ihL nd' a b xa xb (by simpa using h1) (by simpa using h2)
            exact hne (two f.ns ndo j1 j2 x' y e5 f5)
          · rcases List.mem_cons.mp hce' with rfl | hce'
            · exact ⟨y, .head _, c1⟩
            · obtain ⟨x, hx, cx⟩ := i2 ce' hce'; exact ⟨x, .tail _ hx, cx⟩
        · rw [if_neg hf, List.filterMap_cons]
          refine ⟨i1, fun ce' hce' => ?_⟩
          obtain ⟨x, hx, cx⟩ := i2 ce' hce'; exact ⟨x, .tail _ hx, cx⟩
    exact key names n0 (fun U hp => hp) hnd
  refine fn_env (c := c) (names := names) (fvs := cvs σ.vs fr) (is := []) (F0 := f.F) (fun o ho => by cases ho; exact e.frm) r (Hp.bare aN) hnm hk e.bui hnd (.inr nocell) (fun i x ei => ?_) (fun i x k ei hk => ?_) (by simp [cvs, hfl]) (.inl (hdist 0).1) rfl fun f1 env1 h3 tk3 eo at3 mv hnew hL henv hne => ?_
  · obtain ⟨ce, j, c1, c2, c3, c4⟩ := outer i x ei
    refine ⟨ce, (σ.vs[j]?).join, clo i x ei ce c1, c3.keeps (Sub.push _ _), fun z => ?_, ?_⟩
    · exact aN.hp.ap ce c4 z
    · unfold cvs; rw [List.getElem?_map, c2]; rfl
  · obtain ⟨o, e1, U, e2, U⟩ := hfa i x k ei
    unfold cvs; rw [List.getElem?_map, e1, e2 hk]; rfl
  · have hcellN : cellN names = 0 := by
      have go : ∀ l : List (Str × NameKind), (∀ p ∈ l, p.2 ≠ .cell) → cellN l = 0 := fun l => by
        induction l with
        | nil => intro _; rfl
        | cons q l ih =>
          intro hl
          obtain ⟨y, k⟩ := q
          have hk' : ¬ (k == .cell) = true := fun z => hl (y, k) (.head _) (beq_iff_eq.mp z)
          unfold cellN
          rw [if_neg hk', ih fun p hp => hl p (.tail _ hp)]
      exact go _ nocell
    have hown : f1.own = [f1.L] := by rw [hne.1, hcellN]; rfl
    have hn2 : (h.push { cls := .type "list", data := .seq ([] : List Value).toArray }).get? f1.L = none := hnew _ (by rw [hown]; exact .head _)
    have hnL : h.get? f1.L = none := by
      cases q : h.get? f1.L with
      | none => rfl
      | some o => have := Heap.get?_push_of_some { cls := .type "list", data := .seq ([] : List Value).toArray } q; rw [hn2] at this; cases this
    refine k f1 { env1 with scope := relabel sc env } env1 h.objs.size h3 tk3 ?_ rfl ?_ ?_ (fun b o eb hb => ?_) (fun b o eb hb => ?_) hown (fun b hb => ?_) hnL hn
    · have cells1 : ({ env1 with scope := relabel sc env } : Env).cells = env1.cells := rfl
      have hrel : (relabel sc env).names = relN K.names names := by
        show sc.names.map _ = names.map _
        rw [hnm]
        refine List.map_congr_left fun p hp => ?_
        obtain ⟨x, k⟩ := p
        have : env.kindOf x = K.names.lookup x := by unfold Env.kindOf; rw [e.nm]
        show (if (k == .free && env.scope.kind == .function && env.kindOf x == some .cell) = true then _ else _) = _
        rw [this, e.knd]
        simp
      refine ⟨eo.loc, eo.frm, eo.ownL, (fun z => nomatch z), hk, hrel, eo.glo, eo.bui, ?_, eo.ndA, fun i x k ei => ?_⟩
      · rw [eo.len]; simp [relN]
      · unfold relN at ei
        rw [List.getElem?_map] at ei
        cases q : names[i]? with
        | none => rw [q] at ei; cases ei
        | some p =>
          obtain ⟨y, k0⟩ := p
          rw [q] at ei
          simp only [Option.map_some, Option.some.injEq] at ei
          obtain ⟨p, h1, h2, h3⟩ := eo.at_ i y k0 q
          by_cases hc : (k0 == .free && K.names.lookup y == some .cell) = true
          · rw [if_pos hc] at ei
            cases ei
            have hk0 : k0 = .free := by simp only [Bool.and_eq_true, beq_iff_eq] at hc; exact hc.1
            exact ⟨p, h1, (fun z => nomatch z), fun U => h3 (.inr hk0)⟩
          · rw [if_neg hc] at ei
            cases ei
            exact ⟨p, h1, h2, h3⟩
    · exact eo.loc
    · have : (szUp σ 1).map (· + (1 + cellN names)) = σ.sz.map (· + 2) := by
        unfold szUp; rw [hcellN]; cases σ.sz <;> rfl
      rw [this] at at3
      exact at3
    · refine mv.exs b o (Heap.get?_push_of_some _ eb) (fun z => ?_) fun z => ?_
      · rw [hown] at z; rw [List.mem_singleton.mp z, hnL] at eb; cases eb
      · rcases List.mem_cons.mp z with z | z
        · rw [z, hn] at eb; cases eb
        · exact hb z
    · refine mv.dom b o (Heap.get?_push_of_some _ eb) fun z => ?_
      rcases List.mem_cons.mp z with z | z
      · rw [z, hn] at eb; cases eb
      · exact hb z
    · rcases List.mem_cons.mp hb with hb | hb
      · exact .inl hb
      · rw [hne.2.1] at hb
        obtain ⟨x, hx, cx⟩ := (hdist _).2 b hb
        obtain ⟨i, ei⟩ := List.getElem?_of_mem hx
        obtain ⟨ce, j, c1, U, U, c4⟩ := outer i x ei
        rw [cx] at c1; cases c1
        exact .inr c4
end
noncomputable def UseOk (c : Cx) (f : Fm) (use : Option (Value → Sem Unit)) (acc : Value) (σ : St) (Q : Value → St → Prop) : Prop := match use with
  | none => Q acc σ
  | some u => W c f (u acc) σ fun _ σ' => Q .none σ'
section
variable {c : Cx} {f f1 : Fm} {σ σ0 σ' : St} {env : Env} {A : Around} {E : Value → Shared → Prop}
theorem comp_out {h1 h3 h' : Heap} {ledX : Ledger} (a0 : At c f σ0 h1) (hp : σ0.led.Perm ledX) (hown : f1.own = [f1.L]) (hL : h1.get? f1.L = none) (a3 : At c f1 σ' h3) (m : Mv c.fs f1.own σ0.g ledX h1 σ'.g σ'.led h3) (S : Heap.SameBut f1.L h3 h') :
    At c f { σ' with vs := σ0.vs } h' ∧ Mv c.fs f.own σ0.g ledX h1 σ'.g σ'.led h' := by
  have aX : At c f { σ0 with led := ledX } h1 := ⟨a0.hp.perm hp, a0.fr⟩
  have neL : ∀ b o, h1.get? b = some o → b ≠ f1.L := fun b o e z => by rw [z, hL] at e; cases e
  have k3 : ∀ b o, h1.get? b = some o → b ∉ adr ledX → h'.get? b = some o ∨ (b ∈ c.fs ∧ ∃ sl, h'.get? b = some { o with slots := sl }) := fun b o e hb => by
    have ne : b ∉ f1.own := by rw [hown]; exact fun z => neL b o e (List.mem_singleton.mp z)
    rcases m.exs b o e ne hb with q | ⟨q, sl, q2⟩
    · exact .inl ((S.2 b (neL b o e)).trans q)
    · exact .inr ⟨q, sl, (S.2 b (neL b o e)).trans q2⟩
  have keepA : ∀ b ∈ f.all, ∀ o, h1.get? b = some o → ∃ sl, h'.get? b = some { o with slots := sl } := fun b hb o e => by
    rcases k3 b o e (aX.hp.ap b hb) with q | ⟨U, q⟩
    · exact ⟨o.slots, q⟩
    · exact q
  have hCg : σ'.g.get? f1.L = none := a3.hp.offO _ (by rw [hown]; exact .head _)
  have hCl : f1.L ∉ adr σ'.led := a3.hp.ap _ (a3.hp.oa _ (by rw [hown]; exact .head _))
  have s' : ∀ b o, b ≠ f1.L → h3.get? b = some o → h'.get? b = some o := fun b o hb e => (S.2 b hb).trans e
  refine ⟨⟨⟨a3.hp.gr, fun b o e => s' b o (fun z => by rw [z, hCg] at e; cases e) (a3.hp.sub b o e), fun p hpp => ?_, fun b hb => ?_, fun b hb => ?_, a3.hp.offL, a3.hp.nd, fun b hb z => ?_, a0.hp.oa, fun b hb => ?_, fun n e => S.1.trans (a3.hp.sz n e)⟩, a0.fr.keepS keepA⟩,
    ⟨m.gg, fun b o e x y => k3 b o e y, fun b o e y => ?_, m.fr, m.ld⟩⟩
  · obtain ⟨o, e, q⟩ := a3.hp.ld p hpp
    exact ⟨o, s' _ _ (fun z => hCl (by rw [← z]; exact List.mem_map_of_mem hpp)) e, q⟩
  · obtain ⟨o, e⟩ := a0.hp.here b hb
    obtain ⟨sl, q⟩ := keepA b hb o e
    exact ⟨_, q⟩
  · cases q : σ'.g.get? b with
    | none => rfl
    | some o =>
      obtain ⟨o', e'⟩ := a0.hp.here b (a0.hp.oa b hb)
      rcases m.fr b o q with z | z | z
      · rw [a0.hp.offO b hb] at z; cases z
      · rw [z] at e'; cases e'
      · exact absurd z (aX.hp.ap b (a0.hp.oa b hb))
  · obtain ⟨o', e'⟩ := a0.hp.here b hb
    rcases m.ld b z with y | y
    · exact aX.hp.ap b hb y
    · rw [y] at e'; cases e'
  · obtain ⟨⟨o1, e1, U⟩, U⟩ := a0.hp.frm b hb
    obtain ⟨⟨o, e, q⟩, q2, q3⟩ := a3.hp.frm b hb
    exact ⟨⟨o, s' b o (neL b o1 e1) e, q⟩, q2, q3⟩
  · obtain ⟨o', e'⟩ := m.dom b o e y
    exact ⟨o', s' b o' (neL b o e) e'⟩
theorem comp_fin {h h1 h3 : Heap} {tk : Nat} {ledX : Ledger} {Q : Value → St → Prop} {use : Option (Value → Sem Unit)} {acc : Value} {z : Option Nat} (r : Rk c A) (a0 : At c f σ0 h1) (hp : σ0.led.Perm ledX) (m0 : Mv c.fs f.own σ.g σ.led h σ0.g ledX h1) (hown : f1.own = [f1.L]) (hL : h1.get? f1.L = none)
    (a3 : At c f1 { σ' with sz := z } h3) (m : Mv c.fs f1.own σ0.g ledX h1 σ'.g σ'.led h3) (U : UseOk c f use acc { σ' with vs := σ0.vs, sz := z } Q) :
    compPost (model c.prog c.w) A E use (fun v s' => Pst c f σ h Q v s') acc f1.L (.ok .next) (mk c.s h3 tk) := by
  obtain ⟨mN, hns, U⟩ := a3.fr.ns
  cases use with
  | none =>
    refine ⟨mN, hns, fun h' S => ?_⟩
    obtain ⟨a', m'⟩ := comp_out a0 hp hown hL a3 m S
    exact ⟨_, h', tk, rfl, a', m0.trans m', U⟩
  | some u =>
    obtain ⟨a', m'⟩ := comp_out a0 hp hown hL a3 m (Heap.SameBut.refl _ _)
    refine W_pair U r (tk := tk) a' fun _ σ4 h4 tk4 a4 m4 q4 => ?_
    have hCf : f1.L ∉ c.fs := fun q => by obtain ⟨⟨o', e', U⟩, U⟩ := a0.hp.frm _ q; rw [hL] at e'; cases e'
    have hC : ∀ o, h3.get? f1.L = some o → f1.L ∉ f.own ∧ f1.L ∉ adr σ'.led := fun o e =>
      ⟨fun q => (by obtain ⟨o', e'⟩ := a0.hp.here _ (a0.hp.oa _ q); rw [hL] at e'; cases e'), a3.hp.ap _ (a3.hp.oa _ (by rw [hown]; exact .head _))⟩
    refine ⟨mN, hns.at' fun o e => m4.ext _ _ e (hC o e).1 (hC o e).2 hCf, fun h' S => ?_⟩
    have hC4 : σ4.g.get? f1.L = none := by
      cases q : σ4.g.get? f1.L with
      | none => rfl
      | some o =>
        obtain ⟨o3, U, U, e3, U⟩ := hns
        rcases m4.fr _ _ q with y | y | y
        · have := a3.hp.offO f1.L (by rw [hown]; exact .head _); rw [this] at y; cases y
        · rw [y] at e3; cases e3
        · exact absurd y (hC _ e3).2
    have hC5 : f1.L ∉ adr σ4.led := fun q => by
      obtain ⟨o3, U, U, e3, U⟩ := hns
      rcases m4.ld _ q with y | y
      · exact (hC _ e3).2 y
      · rw [y] at e3; cases e3
    have hC6 : f1.L ∉ f.all := fun q => by obtain ⟨o', e'⟩ := a0.hp.here _ q; rw [hL] at e'; cases e'
    have X : ∀ b o, b ∉ [f1.L] → h4.get? b = some o → h'.get? b = some o := fun b o hb e => (S.2 b (by simpa using hb)).trans e
    have a5 : At c f { σ4 with sz := σ4.sz } h' := a4.outer (wr := [f1.L]) X (fun b hb => by rw [List.mem_singleton.mp hb]; exact hC4) (fun b hb => by rw [List.mem_singleton.mp hb]; exact hC6) (fun b hb => by rw [List.mem_singleton.mp hb]; exact hC5) (fun b hb => by rw [List.mem_singleton.mp hb]; exact hCf) fun n e => S.1.trans (a4.hp.sz n e)
    exact ⟨σ4, h', tk4, rfl, a5, ((m0.trans m').trans m4).outer (wr := [f1.L]) X (fun b hb => by
      rw [List.mem_singleton.mp hb]
      cases q : h.get? f1.L with
      | none => exact .inl rfl
      | some o =>
        by_cases hl : f1.L ∈ adr σ.led
        · exact .inr hl
        · obtain ⟨o', e'⟩ := m0.dom _ _ q hl; rw [hL] at e'; cases e'), q4⟩
end
theorem lookup_nodup {names : List (Str × NameKind)} (hnd : (names.map (·.1)).Nodup) {x : Str} {k : NameKind} (h : (x, k) ∈ names) : names.lookup x = some k := by
  induction names with
  | nil => cases h
  | cons p l ih =>
    obtain ⟨y, k'⟩ := p
    rw [List.map_cons, List.nodup_cons] at hnd
    rw [List.lookup_cons]
    rcases List.mem_cons.mp h with e | e
    · cases e; simp
    · have hb : (x == y) = false := beq_eq_false_iff_ne.mpr fun z => hnd.1 (by rw [← z]; exact List.mem_map_of_mem (f := (·.1)) e)
      rw [hb]; exact ih hnd.2 e
section
variable {c : Cx} {f : Fm} {σ : St} {env : Env}
noncomputable abbrev ifsT (ifs : List Expr) (env : Env) : Sem Bool := forIn ifs true fun c r => if r = true then do let ok ← isTrue c env (eval c env); pure (ForInStep.yield ok) else pure (ForInStep.yield r)
noncomputable def CompN (c : Cx) (f : Fm) (on : List (Str × NameKind)) (names : List (Str × NameKind)) (fr : List (Option Nat)) (i : Nat) (TT : Fm → Env → St → (Bool → St → Prop) → Prop) (EE : Fm → Env → St → (Value → St → Prop) → Prop) (use : Option (Value → Sem Unit)) (Q : Value → St → Prop) (v : Value) (σ0 : St) : Prop :=
  Ex6 fun D led n P z zk => σ0.led.Perm (D ++ led) ∧ Iter c f { σ0 with led := led } D v n P z zk ∧ ∀ f1 env1 acc, EnvOk f1 env1 (relN on names) false → σ0.g.get? acc = none → acc ∉ adr led → ∃ J : Nat → St → Prop,
    Frz (J 0) ⟨σ0.g, cvs σ0.vs fr, (acc, IsLs []) :: led, (zAdd z zk σ0.sz).map (· + 2)⟩ ∧
    (∀ k v σ', k < n → P k v → Sub σ0.g σ'.g → J k σ' → TT f1 env1 { σ' with vs := σ'.vs.set i (some v) } fun ok σ2 => if ok = true then EE f1 env1 σ2 fun x σ3 => W c f1 (call (.builtin "list.append") [.ref acc, x]) σ3 fun _ σ4 => Frz (J (k + 1)) { σ4 with sz := zAdd z 0 σ4.sz } else Frz (J (k + 1)) { σ2 with sz := zAdd z 0 σ2.sz }) ∧
    ∀ σ', Sub σ0.g σ'.g → J n σ' → UseOk c f use (.ref acc) { σ' with vs := σ0.vs, sz := zAdd z 2 σ'.sz } Q
theorem comp_head {K : Tb} (e : EnvOk f env K.names K.cw) {sc : Scope} {names : List (Str × NameKind)} {fr : List (Option Nat)} (hsc : chkSc K.names sc names fr = true) :
    closureFor sc env = pure (cloL env sc.names []) ∧ sc.kind = .function ∧ ∀ x ∈ sc.names, x.2 = .local → sc.names.lookup x.1 = some .local := by
  unfold chkSc at hsc
  simp only [Bool.and_eq_true, decide_eq_true_eq] at hsc
  obtain ⟨⟨⟨hk, hnm⟩, hnd⟩, hfr⟩ := hsc
  refine ⟨closureFor_eq fun p hp hpk => ?_, hk, fun p hp hpk => ?_⟩
  · rw [hnm] at hp
    obtain ⟨i, ei⟩ := List.getElem?_of_mem hp
    obtain ⟨o, U, U, U, e2⟩ := (chkFr_ hfr).2 i p.1 p.2 ei
    obtain ⟨j, kj, U, e3, e4⟩ := e2 hpk
    obtain ⟨p', U, U, e6⟩ := e.at_ j p.1 kj e3
    obtain ⟨ce, U, e7⟩ := e6 e4
    exact ⟨ce, e7⟩
  · rw [hnm] at hp ⊢
    rw [lookup_nodup hnd (x := p.1) (k := p.2) hp, hpk]
theorem comp_mid {g h1 h2 h3 : Heap} {D led : Ledger} {f1 : Fm} {acc : Addr} {fp wr : List Addr} {Sx : Nat → Heap → Prop} (S1 : Sub g h1) (S2 : Sub h1 h2) (ad : ∀ {b}, b ∈ adr led → ∃ o, h2.get? b = some o) (hnL : h2.get? f1.L = none) (hnacc : h2.get? acc = none) (hown : f1.own = [f1.L]) (hall : ∀ b ∈ f1.all, b = f1.L ∨ b ∈ f.all)
    (k3 : ∀ b o, h2.get? b = some o → b ∉ adr led → h3.get? b = some o ∨ (b ∈ c.fs ∧ ∃ sl, h3.get? b = some { o with slots := sl })) (d3 : ∀ b o, h2.get? b = some o → b ∉ adr led → ∃ o', h3.get? b = some o') (WI : WkIn c.fs f (D ++ led) h1 g fp wr Sx) (off : ∀ b ∈ fp, b ∉ adr led) (ex : ∀ b ∈ fp, ∃ o, h2.get? b = some o) :
    h1.get? f1.L = none ∧ g.get? acc = none ∧ acc ∉ adr led ∧ WkIn c.fs f1 (D ++ led) h1 g fp wr Sx ∧ Mv c.fs f1.own g (D ++ led) h1 g ((acc, IsLs []) :: led) h3 ∧ (∀ b ∈ fp, ∀ o, h2.get? b = some o → h3.get? b = some o) ∧ ∀ b ∈ fp, b ∉ adr (((acc, IsLs []) : Addr × (Obj → Prop)) :: led) := by
  have no : ∀ {b}, h2.get? b = none → h1.get? b = none := fun {b} e => by
    cases q : h1.get? b with
    | none => rfl
    | some o => rw [S2 _ _ q] at e; cases e
  have nacc1 := no hnacc
  have nf : ∀ {b x}, h2.get? x = none → (∃ o, h2.get? b = some o) → b ≠ x := fun e ⟨o, e'⟩ z => by rw [z, e] at e'; cases e'
  refine ⟨no hnL, ?_, fun q => nf hnacc (ad q) rfl, ⟨WI.wf, WI.gn, fun b hb q => ?_, WI.ff, fun b hb q => ?_, WI.hw, WI.ex⟩, ⟨Sub.refl _, fun b o eb U hb => k3 b o (S2 b o eb) fun q => hb (adr_app.mpr (.inr q)), fun b o eb hb => d3 b o (S2 b o eb) fun q => hb (adr_app.mpr (.inr q)), fun b o q => .inl q, fun b q => ?_⟩,
    fun b hb o eb => (k3 b o eb (off b hb)).resolve_right fun q => WI.ff b hb q.1, fun b hb q => ?_⟩
  · cases q : g.get? acc with
    | none => rfl
    | some o => rw [S1 _ _ q] at nacc1; cases nacc1
  · rw [hown] at q; exact nf hnL (ex b hb) (List.mem_singleton.mp q)
  · rcases hall b q with q | q
    · exact nf hnL (ex b (WI.wf b hb)) q
    · exact WI.wa b hb q
  · rcases List.mem_cons.mp q with q | q
    · rw [q]; exact .inr nacc1
    · exact .inl (adr_app.mpr (.inr q))
  · rcases List.mem_cons.mp q with q | q
    · exact nf hnacc (ex b hb) q
    · exact off b hb q
noncomputable def CLI (c : Cx) (f : Fm) (g : Heap) (led : Ledger) (h1 : Heap) (fp : List Addr) (Sx : Nat → Heap → Prop) (J : Nat → St → Prop) (z : Bool) (n k : Nat) (s' : Shared) : Prop :=
  Ex3 fun j h' tk' => s' = mk c.s h' tk' ∧ j ≤ n ∧ k = n + 1 - j ∧ LInv c f g led h1 g fp Sx J z j h'
section
variable {f1 : Fm} {env1 : Env} {names : List (Str × NameKind)} {elt iter : Expr} {px pos : Pos} {sc : Scope} {R : Result → Shared → Prop} {g h1 h3 : Heap} {LD : Ledger} {fp wr : List Addr} {Sx : Nat → Heap → Prop} {J : Nat → St → Prop} {z : Bool} {n tk3 : Nat} {I : Addr} {acc : Value}
theorem CLI.next {j : Nat} (hj : j < n) (L : LInv c f1 g LD h1 g fp Sx J z (j + 1) h3) : ∃ m, m < n + 1 - j ∧ CLI c f1 g LD h1 fp Sx J z n m (mk c.s h3 tk3) := ⟨n + 1 - (j + 1), Nat.sub_lt_sub_left (Nat.lt_succ_of_lt hj) (Nat.lt_succ_self _), j + 1, h3, tk3, rfl, hj, rfl, L⟩
theorem compN_loop {ifs : List Expr} {x : Str} {i : Nat} {P : Nat → Value → Prop} (eo : EnvOk f1 env1 names false) (hi : nmSt names false i x = true) (r : Rk c A) (WI1 : WkIn c.fs f1 LD h1 g fp wr Sx) (Wk : Wk c.prog c.w A I fp wr n P Sx z) (L0 : LInv c f1 g LD h1 g fp Sx J z 0 h3)
    (turn : ∀ k v σ', k < n → P k v → Sub g σ'.g → J k σ' → W c f1 (ifsT ifs env1) { σ' with vs := σ'.vs.set i (some v) } fun ok σ2 => if ok = true then W c f1 (eval elt env1) σ2 fun x σ3 => W c f1 (call (.builtin "list.append") [acc, x]) σ3 fun _ σ4 => Frz (J (k + 1)) { σ4 with sz := zAdd z 0 σ4.sz } else Frz (J (k + 1)) { σ2 with sz := zAdd z 0 σ2.sz })
    (fin : ∀ σ' h4 tk4, At c f1 { σ' with sz := zAdd z 2 σ'.sz } h4 → Mv c.fs f1.own g LD h1 σ'.g σ'.led h4 → J n σ' → R (.ok .next) (mk c.s h4 tk4)) :
    codeAny (model c.prog c.w) A (.compLoop (.ListComp elt [⟨.Name x px, iter, ifs, 0⟩] sc pos) 0 (.ref I) acc env1) R (mk c.s h3 tk3) := by
  refine codeAny_compLoop_any (CLI c f1 g LD h1 fp Sx J z n) ?_ (n + 1) ⟨0, h3, tk3, rfl, Nat.zero_le _, rfl, L0⟩
  rintro k s' ⟨j, h', tk', rfl, hj, rfl, L⟩
  by_cases hlt : j < n
  · refine linv_item WI1 Wk hlt L fun v σ' h4 tk4 hP a4 m4 jj go => ?_
    refine wpAny_of_eq (show letOwnedTupleGo (.Name x px) (.ref I) v = pure () from rfl) ?_
    refine W_pair (Q := fun _ σ'' => σ'' = { σ' with vs := σ'.vs.set i (some v) }) (fun A E h tk r a => assign_Name (W_store eo hi rfl A E h tk r a)) r a4 fun _ σ5 h5 tk5 a5 m5 q5 => ?_
    subst q5
    refine W_pair (turn j v σ' hlt hP m4.gg jj) r a5 fun ok σ6 h6 tk6 a6 m6 q6 => ?_
    cases ok with
    | false =>
      obtain ⟨m16, go⟩ := go σ6 h6 a6 (m5.trans m6)
      exact CLI.next hlt (go q6)
    | true =>
      refine W_pair q6 r a6 fun y σ7 h7 tk7 a7 m7 q7 => W_pair q7 r a7 fun _ σ8 h8 tk8 a8 m8 q8 => ?_
      obtain ⟨m18, go⟩ := go σ8 h8 a8 (((m5.trans m6).trans m7).trans m8)
      exact CLI.next hlt (go q8)
  · have hjn : j = n := by omega
    subst hjn
    exact linv_done WI1 Wk L fin
theorem compT_loop {es : List Expr} {k0 : Nat} {is : List Nat} {P : Nat → Array Value → Prop} {D' : Ledger} {Mid : Nat → Addr → Heap → Prop} (eo : EnvOk f1 env1 names false) (hi : chkTgt names false is es = true) (r : Rk c A) (WI1 : WkIn c.fs f1 LD h1 g fp wr Sx) (Wk : WkT c.prog c.w A I fp wr n P Sx Mid D') (L0 : LInv c f1 g LD h1 g fp Sx J false 0 h3)
    (turn : ∀ k (vals : Array Value) σ', k < n → P k vals → Sub g σ'.g → J k σ' → vals.size = is.length ∧ W c f1 (eval elt env1) { σ' with vs := setAll σ'.vs is vals.toList, sz := none } fun x σ3 => W c f1 (call (.builtin "list.append") [acc, x]) σ3 fun _ σ4 => Frz (J (k + 1)) { σ4 with sz := none })
    (fin : ∀ σ' h4 tk4, At c f1 { σ' with led := D' ++ σ'.led, sz := none } h4 → Mv c.fs f1.own g LD h1 σ'.g (D' ++ σ'.led) h4 → J n σ' → Sub g σ'.g → R (.ok .next) (mk c.s h4 tk4)) :
    codeAny (model c.prog c.w) A (.compLoop (.ListComp elt [⟨.Tuple es k0 px, iter, [], 0⟩] sc pos) 0 (.ref I) acc env1) R (mk c.s h3 tk3) := by
  refine codeAny_compLoop_any (CLI c f1 g LD h1 fp Sx J false n) ?_ (n + 1) ⟨0, h3, tk3, rfl, Nat.zero_le _, rfl, L0⟩
  rintro k s' ⟨j, h', tk', rfl, hj, rfl, L⟩
  by_cases hlt : j < n
  · refine linv_itemT (elts := es) (k0 := k0) (pos := px) WI1 Wk hlt L fun T vals h2 tk2 K => K _ _ fun σ' h4 hP hT a4 m4 jj go => ?_
    obtain ⟨hl, tr⟩ := turn j vals σ' hlt hP m4.gg jj
    refine W_tgt eo r a4 hT hi hl fun h5 tk5 a5 m5 => wpAny_tests_nil ?_
    rw [if_pos rfl]
    refine W_pair tr r a5.sz0 fun y σ7 h7 tk7 a7 m7 q7 => W_pair q7 r a7 fun _ σ8 h8 tk8 a8 m8 q8 => ?_
    obtain ⟨m18, go⟩ := go σ8 h8 a8 ((m5.trans m7).trans m8)
    exact CLI.next hlt (go q8)
  · have hjn : j = n := by omega
    subst hjn
    exact linv_doneT WI1 Wk L fin
end
theorem W_compN {K : Tb} (e : EnvOk f env K.names K.cw) {sc : Scope} {names : List (Str × NameKind)} {fr : List (Option Nat)} (hsc : chkSc K.names sc names fr = true) {elt iter : Expr} {x : Str} {px pos pos' : Pos} {ifs : List Expr} {i : Nat} {use : Option (Value → Sem Unit)} {Q : Value → St → Prop}
    (hi : nmSt (relN K.names names) false i x = true) (hs : ∀ x, foldedSetIterable iter env x = pure x)
    (H : W c f (eval iter env) σ fun v σ0 => CompN c f K.names names fr i (fun f1 env1 σ Q => W c f1 (ifsT ifs env1) σ Q) (fun f1 env1 σ Q => W c f1 (eval elt env1) σ Q) use Q v σ0) :
    W c f (comprehension (.ListComp elt [⟨.Name x px, iter, ifs, 0⟩] sc pos) sc env pos' (newList []) false (eval iter env) use) σ Q := by
  intro A E h tk r a
  obtain ⟨hclo, hk, hlo⟩ := comp_head e hsc
  refine wpAny_comprehension_free (g := ⟨.Name x px, iter, ifs, 0⟩) (gs := []) rfl hs hclo hk hlo (wpAny_mono (H A E h tk r a) (fun v s1 p1 => ?_) fun U U e => e)
  obtain ⟨σ0, h1, tk1, rfl, a0, m01, D, led, n, P, z, zk, hD, hI, body⟩ := p1
  refine hI A E h1 tk1 _ r ⟨a0.hp.perm hD, a0.fr⟩ fun I fp wr Sx h2 tk2 Wk s0 S2 hz hfp hwr hex => ?_
  obtain ⟨a2, m12, WI, off⟩ := iter_in a0 hD s0 S2 hz hfp hwr Wk.sub hex
  refine comp_in (E := E) e hsc r a2 fun f1 env1 cenv acc h3 tk3 eo henv hL at3 k3 d3 hown hall hnL hnacc => ?_
  obtain ⟨nL1, ga, la, WI1, m13, q6, q7⟩ := comp_mid a0.hp.sub S2 a2.hp.adrHere hnL hnacc hown hall k3 d3 WI (fun b hb => (off b hb).1) (hex 0 h2 s0)
  obtain ⟨J, j0, turn, done⟩ := body f1 env1 acc eo ga la
  have s3 : Sx 0 h3 := Wk.frame 0 h2 h3 s0 q6
  have m0 : Mv c.fs f.own σ.g σ.led h σ0.g (D ++ led) h1 := m01.perm (.refl _) hD
  have loop := compN_loop (elt := elt) (iter := iter) (px := px) (pos := pos) (sc := sc) (tk3 := tk3) (R := compPost (model c.prog c.w) A E use (fun v s' => Pst c f σ h Q v s') (.ref acc) f1.L) eo hi r WI1 Wk (linv_start WI1 at3 m13 s3 (fun b hb => ⟨q7 b hb, fun U q => q⟩) j0 fun ez => by subst ez; rfl) turn
    fun σ' h4 tk4 a4 m4 jj => comp_fin r a0 hD m0 hown nL1 a4 m4 (done σ' m4.gg jj)
  rw [← henv, hL]
  exact codeAny_compStart_list loop (Wk.self 0 _ _ _ s3 loop)
noncomputable def CompT (c : Cx) (f : Fm) (on : List (Str × NameKind)) (names : List (Str × NameKind)) (fr : List (Option Nat)) (is : List Nat) (EE : Fm → Env → St → (Value → St → Prop) → Prop) (use : Option (Value → Sem Unit)) (Q : Value → St → Prop) (v : Value) (σ0 : St) : Prop :=
  Ex5 fun D led n P D' => σ0.led.Perm (D ++ led) ∧ IterT c f { σ0 with led := led } D v n P D' ∧ ∀ f1 env1 acc, EnvOk f1 env1 (relN on names) false → σ0.g.get? acc = none → acc ∉ adr led → ∃ J : Nat → St → Prop,
    Frz (J 0) ⟨σ0.g, cvs σ0.vs fr, (acc, IsLs []) :: led, none⟩ ∧
    (∀ k (vals : Array Value) σ', k < n → P k vals → Sub σ0.g σ'.g → J k σ' → vals.size = is.length ∧ EE f1 env1 { σ' with vs := setAll σ'.vs is vals.toList, sz := none } fun x σ3 => W c f1 (call (.builtin "list.append") [.ref acc, x]) σ3 fun _ σ4 => Frz (J (k + 1)) { σ4 with sz := none }) ∧
    ∀ σ', Sub σ0.g σ'.g → J n σ' → UseOk c f use (.ref acc) { σ' with vs := σ0.vs, led := D' ++ σ'.led, sz := none } Q
theorem W_compT {K : Tb} (e : EnvOk f env K.names K.cw) {sc : Scope} {names : List (Str × NameKind)} {fr : List (Option Nat)} (hsc : chkSc K.names sc names fr = true) {elt iter : Expr} {es : List Expr} {k0 : Nat} {px pos pos' : Pos} {is : List Nat} {use : Option (Value → Sem Unit)} {Q : Value → St → Prop}
    (hi : chkTgt (relN K.names names) false is es = true) (hs : ∀ x, foldedSetIterable iter env x = pure x)
    (H : W c f (eval iter env) σ fun v σ0 => CompT c f K.names names fr is (fun f1 env1 σ Q => W c f1 (eval elt env1) σ Q) use Q v σ0) :
    W c f (comprehension (.ListComp elt [⟨.Tuple es k0 px, iter, [], 0⟩] sc pos) sc env pos' (newList []) false (eval iter env) use) σ Q := by
  intro A E h tk r a
  obtain ⟨hclo, hk, hlo⟩ := comp_head e hsc
  refine wpAny_comprehension_free (g := ⟨.Tuple es k0 px, iter, [], 0⟩) (gs := []) rfl hs hclo hk hlo (wpAny_mono (H A E h tk r a) (fun v s1 p1 => ?_) fun U U e => e)
  obtain ⟨σ0, h1, tk1, rfl, a0, m01, D, led, n, P, D', hD, hI, body⟩ := p1
  refine hI A E h1 tk1 _ r ⟨a0.hp.perm hD, a0.fr⟩ fun I fp wr Sx Mid h2 tk2 Wk s0 S2 hfp hwr hex => ?_
  obtain ⟨a2, m12, WI, off⟩ := iter_in (z := false) (zk := 0) a0 hD s0 S2 (fun e => nomatch e) hfp hwr Wk.sub hex
  refine comp_in (E := E) e hsc r a2 fun f1 env1 cenv acc h3 tk3 eo henv hL at3 k3 d3 hown hall hnL hnacc => ?_
  obtain ⟨nL1, ga, la, WI1, m13, q6, q7⟩ := comp_mid a0.hp.sub S2 a2.hp.adrHere hnL hnacc hown hall k3 d3 WI (fun b hb => (off b hb).1) (hex 0 h2 s0)
  obtain ⟨J, j0, turn, done⟩ := body f1 env1 acc eo ga la
  have s3 : Sx 0 h3 := Wk.frame 0 h2 h3 s0 q6
  have m0 : Mv c.fs f.own σ.g σ.led h σ0.g (D ++ led) h1 := m01.perm (.refl _) hD
  have loop := compT_loop (elt := elt) (iter := iter) (k0 := k0) (px := px) (pos := pos) (sc := sc) (tk3 := tk3) (R := compPost (model c.prog c.w) A E use (fun v s' => Pst c f σ h Q v s') (.ref acc) f1.L) eo hi r WI1 Wk (linv_start WI1 at3 m13 s3 (fun b hb => ⟨q7 b hb, fun U q => q⟩) j0 fun U => rfl) turn
    fun σ' h4 tk4 a4 m4 jj S4 => comp_fin (σ' := { σ' with led := D' ++ σ'.led }) r a0 hD m0 hown nL1 a4 m4 (done σ' S4 jj)
  rw [← henv, hL]
  exact codeAny_compStart_list loop (Wk.self 0 _ _ _ s3 loop)
end
noncomputable def cBool (c : Const) : Option Bool := match c with | .bool b => some b | _ => none
noncomputable def xBoolC (e : Expr) : Option Bool := (vConstant e).bind fun q => cBool q.1
noncomputable def kwNames : List Keyword → Option (List Str)
  | [] => some []
  | ⟨some x, _, _⟩ :: r => (kwNames r).map (x :: ·)
  | _ :: _ => none
theorem cBool_ {c : Const} {k : Bool} (h : cBool c = some k) : c = .bool k := by
  cases c with
  | bool b => cases h; rfl
  | _ => cases h
theorem xBoolC_ {e : Expr} {k : Bool} (h : xBoolC e = some k) : Ex2 fun j p => e = .Constant (.bool k) j p := by
  obtain ⟨⟨c, j, p⟩, q, h⟩ := Option.bind_eq_some_iff.mp h
  exact ⟨j, p, by rw [vConstant_ q, cBool_ h]⟩
noncomputable def revKw (rev : Bool) (kws : List Keyword) : Bool := match kws with
  | [] => !rev
  | k :: r => rev && (r.isEmpty && (k.arg == some ("reverse" : Str) && xBoolC k.value == some true))
theorem revKw_ {rev : Bool} {kws : List Keyword} (h : revKw rev kws = true) : (rev = false ∧ kws = []) ∨ (rev = true ∧ Ex3 fun j p p' => kws = [⟨some ("reverse" : Str), .Constant (.bool true) j p, p'⟩]) := by
  cases kws with
  | nil => cases rev with
    | false => exact .inl ⟨rfl, rfl⟩
    | true => cases h
  | cons k r =>
    obtain ⟨a, v, p'⟩ := k
    have h : (rev && (r.isEmpty && (a == some ("reverse" : Str) && xBoolC v == some true))) = true := h
    rw [Bool.and_eq_true, Bool.and_eq_true, Bool.and_eq_true, beq_iff_eq, beq_iff_eq] at h
    obtain ⟨h1, h2, h3, h4⟩ := h
    obtain ⟨j, p, e⟩ := xBoolC_ h4
    exact .inr ⟨h1, j, p, p', by rw [List.isEmpty_iff.mp h2, e, h3]⟩
noncomputable def CompW (c : Cx) (f : Fm) (fr : List (Option Nat)) (i : Nat) (TT : Fm → St → (Bool → St → Prop) → Prop) (EE : Fm → St → (Value → St → Prop) → Prop) (Q : Value → St → Prop) (v : Value) (σ0 : St) : Prop :=
  Ex6 fun D led n P z zk => σ0.led.Perm (D ++ led) ∧ Iter c f { σ0 with led := led } D v n P z zk ∧ ∀ f1 acc, σ0.g.get? acc = none → acc ∉ adr led → ∃ J : Nat → St → Prop,
    Frz (J 0) ⟨σ0.g, cvs σ0.vs fr, (acc, IsLs []) :: led, (zAdd z zk σ0.sz).map (· + 2)⟩ ∧
    (∀ k v σ', k < n → P k v → Sub σ0.g σ'.g → J k σ' → TT f1 { σ' with vs := σ'.vs.set i (some v) } fun ok σ2 => if ok = true then EE f1 σ2 fun x σ3 => W c f1 (call (.builtin "list.append") [.ref acc, x]) σ3 fun _ σ4 => Frz (J (k + 1)) { σ4 with sz := zAdd z 0 σ4.sz } else Frz (J (k + 1)) { σ2 with sz := zAdd z 0 σ2.sz }) ∧
    ∀ σ', Sub σ0.g σ'.g → J n σ' → Q (.ref acc) { σ' with vs := σ0.vs, sz := zAdd z 2 σ'.sz }
noncomputable def CompTW (c : Cx) (f : Fm) (fr : List (Option Nat)) (is : List Nat) (EE : Fm → St → (Value → St → Prop) → Prop) (Q : Value → St → Prop) (v : Value) (σ0 : St) : Prop :=
  Ex5 fun D led n P D' => σ0.led.Perm (D ++ led) ∧ IterT c f { σ0 with led := led } D v n P D' ∧ ∀ f1 acc, σ0.g.get? acc = none → acc ∉ adr led → ∃ J : Nat → St → Prop,
    Frz (J 0) ⟨σ0.g, cvs σ0.vs fr, (acc, IsLs []) :: led, none⟩ ∧
    (∀ k (vals : Array Value) σ', k < n → P k vals → Sub σ0.g σ'.g → J k σ' → vals.size = is.length ∧ EE f1 { σ' with vs := setAll σ'.vs is vals.toList, sz := none } fun x σ3 => W c f1 (call (.builtin "list.append") [.ref acc, x]) σ3 fun _ σ4 => Frz (J (k + 1)) { σ4 with sz := none }) ∧
    ∀ σ', Sub σ0.g σ'.g → J n σ' → Q (.ref acc) { σ' with vs := σ0.vs, led := D' ++ σ'.led, sz := none }
noncomputable def SlcOk (σ : St) (x vl vu : Value) (Q : Value → St → Prop) : Prop :=
  Ex4 fun l xs lo hi => x = .ref l ∧ Lst σ l xs ∧ xs.length ≤ sizeLine ∧ IsPart vl lo ∧ IsPart vu hi ∧ ∀ a, σ.g.get? a = none → a ∉ adr σ.led → Q (.ref a) { σ with led := (a, IsLs (slicePick xs.toArray lo hi none).toList) :: σ.led, sz := szUp σ 2 }
section
variable {c : Cx} {f : Fm} {σ : St} {env : Env}
theorem Pst.newL2 {α : Type} {h : Heap} {tk : Nat} {o o2 : Obj} {P : Obj → Prop} {Q : α → St → Prop} {v : α} (A : At c f σ h) (hf : o.isFreed = false) (hf2 : o2.isFreed = false) (hP : P o2)
    (q : σ.g.get? (h.objs.size + 1) = none → (h.objs.size + 1) ∉ adr σ.led → Q v { σ with led := (h.objs.size + 1, P) :: σ.led, sz := szUp σ 2 }) : Pst c f σ h Q v (mk c.s ((h.push o).push o2) tk) := by
  have a1 : At c f { σ with sz := szUp σ 1 } (h.push o) := A.up (Sub.push _ _) (Heap.size_push ..)
  obtain ⟨a2, m2⟩ := a1.newL hf2 hP
  have hs : (h.push o).objs.size = h.objs.size + 1 := Heap.size_push ..
  rw [hs] at a2 m2
  have hz : szUp { σ with sz := szUp σ 1 } 1 = szUp σ 2 := by unfold szUp; cases σ.sz <;> rfl
  rw [hz] at a2
  exact ⟨_, _, _, rfl, a2, (Mv.grow (Sub.push h o)).trans m2, q (a2.hp.offL _ (.head _)) (List.nodup_cons.mp a2.hp.nd).1⟩
theorem W_slc {value : Expr} {lower upper : Option Expr} {p pos : Pos} {Q : Value → St → Prop}
    (H : W c f (eval value env) σ fun x σ => W c f (evalPart lower env) σ fun vl σ => W c f (evalPart upper env) σ fun vu σ => SlcOk σ x vl vu Q) : W c f (eval (.Subscript value (.Slice lower upper none p) pos) env) σ Q := by
  intro A E h tk r a
  refine Subscript_ (wpAny_mono (H A E h tk r a) (fun x s1 p1 => ?_) fun U U e => e)
  obtain ⟨σ1, h1, tk1, (rfl), a1, m1, q1⟩ := p1
  refine wpAny_Slice (W_pair q1 r a1 fun vl σ2 h2 tk2 a2 m2 q2 => W_pair q2 r a2 fun vu σ3 h3 tk3 a3 m3 q3 => wpAny_pure ?_)
  obtain ⟨l, xs, lo, hi, (rfl), hl, hz, pl, pu, q⟩ := q3
  have hL : h3.IsList l xs.toArray := IsLs.isList (hl.at a3)
  refine tail_any (s := mk c.s (h3.push { cls := .type "slice", data := .fields #[vl, vu, .none] }) tk3) (Heap.IsList.typeIs (s := mk c.s (h3.push { cls := .type "slice", data := .fields #[vl, vu, .none] }) tk3) (hL.push _)) list_getitem_lookup
    (wpAny_getItem_list_slice (s := mk c.s (h3.push { cls := .type "slice", data := .fields #[vl, vu, .none] }) tk3) (hL.push _) (Heap.IsSliceOf.new ..) pl pu .none (by simp) ?_ (by simpa using hz)) (ops := [.ref h3.objs.size, .ref l]) rfl
  have hs : (h3.push { cls := .type "slice", data := .fields #[vl, vu, .none] }).objs.size = h3.objs.size + 1 := Heap.size_push ..
  show Pst c f σ h Q (.ref (h3.push _).objs.size) (mk c.s ((h3.push _).push _) tk3)
  rw [hs]
  obtain ⟨σ', h', tk', e, a', m', qq⟩ := Pst.newL2 (Q := Q) (v := .ref (h3.objs.size + 1)) (tk := tk3) (o := { cls := .type "slice", data := .fields #[vl, vu, .none] }) (o2 := { cls := .type "list", data := .seq (slicePick xs.toArray lo hi none) }) (P := IsLs (slicePick xs.toArray lo hi none).toList) a3 rfl rfl ⟨(rfl), (rfl), 0, by simp⟩ (fun g1 g2 => q _ g1 g2)
  exact ⟨σ', h', tk', e, a', ((m1.trans m2).trans m3).trans m', qq⟩
theorem W_att {x : Str} {p pos : Pos} {Q : Value → St → Prop} (H : W c f (eval (.Name x p) env) σ fun v σ => W c f (getAttr v ("obj" : Str) true) σ Q) : W c f (eval (.Attribute (.Name x p) ("obj" : Str) pos) env) σ Q := by
  intro A E h tk r a
  rw [arm_eval_Attribute, show attributeBase (.Name x p) ("obj" : Str) env (eval (.Name x p) env) = eval (.Name x p) env from rfl]
  refine wpAny_bind (W_pair H r a fun v σ1 h1 tk1 a1 m1 q1 => wpAny_bind (wpAny_standAt (wpAny_bind (wpAny_holding (W_pair q1 r a1 fun v2 σ2 h2 tk2 a2 m2 q2 => ?_)))))
  refine wpAny_bind (wpAny_letTemporaryGo (wpAny_pure ?_))
  exact ⟨σ2, h2, tk2, rfl, a2, m1.trans m2, q2⟩
theorem W_call0 {x : Str} {p pos : Pos} {Q : Value → St → Prop} (H : W c f (eval (.Name x p) env) σ fun fv σ => (∃ T, fv = .type T) ∧ W c f (call fv []) σ Q) : W c f (eval (.Call (.Name x p) [] [] pos) env) σ Q := by
  intro A E h tk r a
  refine Call_ (W_pair H r a fun fv σ1 h1 tk1 a1 m1 q1 => ?_)
  obtain ⟨⟨T, (rfl)⟩, q1⟩ := q1
  refine PyProof.Rows.callWith_type (args := []) rfl (evalArgs_nil3 ?_)
  refine W_pair q1 r a1 fun v2 σ2 h2 tk2 a2 m2 q2 => ?_
  exact ⟨σ2, h2, tk2, rfl, a2, m1.trans m2, q2⟩
theorem W_evalAll_cons {kw : Keyword} {rest : List Keyword} {pos : Pos} {Q : List Value → St → Prop} (H : W c f (eval kw.value env) σ fun v σ => W c f (evalAll ((backToKw pos (keywordEach rest env)).map (·.2))) σ fun vs σ => Q (v :: vs) σ) :
    W c f (evalAll ((backToKw pos (keywordEach (kw :: rest) env)).map (·.2))) σ Q := by
  intro A E h tk r a
  obtain ⟨name, value, p⟩ := kw
  show wpAny _ A (evalAll ((do let v ← eval value env; standAt pos; pure v) :: (backToKw pos (keywordEach rest env)).map (·.2))) _ _ _
  refine wpAny_evalAll_cons (wpAny_bind (W_pair H r a fun v σ1 h1 tk1 a1 m1 q1 => wpAny_bind (wpAny_standAt (wpAny_pure ?_))))
  refine W_pair q1 r a1 fun vs σ2 h2 tk2 a2 m2 q2 => ⟨σ2, h2, tk2, rfl, a2, m1.trans m2, q2⟩
theorem kw_all : ∀ {kws : List Keyword} {ks : List Str} {pos : Pos}, kwNames kws = some ks → (backToKw pos (keywordEach kws env)).all (·.1.isSome) = true ∧ (backToKw pos (keywordEach kws env)).any (·.1.isNone) = false ∧ (backToKw pos (keywordEach kws env)).filterMap (·.1) = ks
  | [], ks, pos, h => by cases h; exact ⟨rfl, rfl, rfl⟩
  | ⟨none, v, p⟩ :: r, ks, pos, h => by cases h
  | ⟨some x, v, p⟩ :: r, ks, pos, h => by
    have h : (kwNames r).map (x :: ·) = some ks := h
    cases q : kwNames r with
    | none => rw [q] at h; cases h
    | some ks' =>
      rw [q] at h; cases h
      obtain ⟨a1, a2, a3⟩ := kw_all (pos := pos) q
      refine ⟨?_, ?_, ?_⟩
      · show (true && (backToKw pos (keywordEach r env)).all (·.1.isSome)) = true; rw [a1]; rfl
      · show (false || (backToKw pos (keywordEach r env)).any (·.1.isNone)) = false; rw [a2]; rfl
      · show x :: (backToKw pos (keywordEach r env)).filterMap (·.1) = _; rw [a3]
theorem W_callk {x : Str} {p pos : Pos} {e : Expr} {rest : List Expr} {kws : List Keyword} {ks : List Str} {Q : Value → St → Prop} (he : starEach (e :: rest) env = (false, eval e env) :: starEach rest env) (hp : (backTo pos (starEach rest env)).any (·.1) = false) (hk : kwNames kws = some ks)
    (H : W c f (eval (.Name x p) env) σ fun fv σ => (∃ id, fv = .builtin id) ∧ W c f (spliced (backTo pos (starEach (e :: rest) env))) σ fun vs σ => W c f (evalAll ((backToKw pos (keywordEach kws env)).map (·.2))) σ fun kvs σ => W c f (call fv vs (ks.zip kvs)) σ Q) :
    W c f (eval (.Call (.Name x p) (e :: rest) kws pos) env) σ Q := by
  intro A E h tk r a
  obtain ⟨k1, k2, k3⟩ := kw_all (env := env) (pos := pos) hk
  refine wpAny_Call_Name_kw (W_pair H r a fun fv σ1 h1 tk1 a1 m1 q1 => ?_)
  obtain ⟨⟨id, (rfl)⟩, q1⟩ := q1
  have hpl : (backTo pos (starEach (e :: rest) env)).any (·.1) = false := by rw [he]; show (false || (backTo pos (starEach rest env)).any (·.1)) = false; rw [hp]; rfl
  refine callWith_builtin_kwB hpl k2 ?_
  have he' : backTo pos (starEach (e :: rest) env) = (false, eval e env) :: backTo pos (starEach rest env) := by rw [he]; rfl
  rw [he'] at q1 ⊢
  refine evalArgs_kwB k1 (W_pair q1 r a1 fun vs σ2 h2 tk2 a2 m2 q2 => W_pair q2 r a2 fun kvs σ3 h3 tk3 a3 m3 q3 => ?_)
  rw [k3]
  refine W_pair q3 r a3 fun v σ4 h4 tk4 a4 m4 q4 => ⟨σ4, h4, tk4, rfl, a4, ((m1.trans m2).trans m3).trans m4, q4⟩
theorem W_sort {o : Expr} {apos pos : Pos} {kws : List Keyword} {rev : Bool} {Q : Value → St → Prop} (hb : attributeBase o ("sort" : Str) env (eval o env) = eval o env) (hl : (apos.endLine == pos.line) = true) (hk : revKw rev kws = true)
    (H : W c f (eval o env) σ fun ov σ => (Ex2 fun l xs => ov = .ref l ∧ Lst σ l xs) ∧ W c f (call (.builtin "list.sort") [ov] (if rev = true then [("reverse", .bool true)] else [])) σ Q) :
    W c f (eval (.Call (.Attribute o ("sort" : Str) apos) [] kws pos) env) σ Q := by
  intro A E h tk r a
  rw [arm_eval_Call, hb]
  refine wpAny_bind (W_pair H r a fun ov σ1 h1 tk1 a1 m1 q1 => ?_)
  obtain ⟨⟨l, xs, (rfl), hls⟩, q1⟩ := q1
  obtain ⟨o1, ho1, hP⟩ := hls.at a1
  have hT : (mk c.s h1 tk1).TypeIs (.ref l) "list" := (IsLs.isList ⟨o1, ho1, hP⟩).typeIs
  refine wpAny_bind (wpAny_standAt ?_)
  have fin : ∀ kw, kw = (if rev = true then [((("reverse" : Str)), Value.bool true)] else []) → wpAny (model c.prog c.w) A (call (.builtin "list.sort") [.ref l] kw) (fun v s' => Pst c f σ h Q v s') E (mk c.s h1 tk1) := by
    rintro kw rfl
    exact W_pair q1 r a1 fun v σ4 h4 tk4 a4 m4 q4 => ⟨σ4, h4, tk4, rfl, a4, m1.trans m4, q4⟩
  have hform : methodCallForm (([] : List Expr).length + kws.length) (backTo pos (starEach [] env)) (backToKw pos (keywordEach kws env)) = true := by
    rcases revKw_ hk with ⟨-, (rfl)⟩ | ⟨-, j, p, p', (rfl)⟩ <;> rfl
  have hpos : methodCallPos true o env apos pos = pure pos := by unfold methodCallPos; simp [hl]
  unfold methodCall
  rw [hform]
  refine wpAny_bind (wpAny_holding (getMethod_builtin hT PySem.F.plainAttrs_list PyProof.Rows.slot_list_sort (by first | exact PySem.F.type_list_sort | kernel_rfl) (fun b hb => by cases hb; exact ⟨o1, ho1, hP.2.1⟩) ?_))
  refine wpAny_bind (wpAny_of_eq hpos ?_)
  rcases revKw_ hk with ⟨(rfl), (rfl)⟩ | ⟨(rfl), j, p, p', (rfl)⟩
  · refine callWith_builtin_kwB rfl rfl (PySem.evalArgs_none ?_)
    exact fin _ rfl
  · refine callWith_builtin_kwB rfl rfl (evalArgs_kw_nil rfl ?_)
    refine wpAny_evalAll_cons (wpAny_bind (Constant_bool (wpAny_bind (wpAny_standAt (wpAny_pure (wpAny_evalAll_nil ?_))))))
    exact fin _ rfl
end
inductive PE where
  | v (i : Nat) | g (x : Value) | int (n : Int) | none
  | neg (a : PE) | bin (op : Operator) (a b : PE) | cmp (op : CmpOp) (a b : PE)
  | sub (a b : PE) | slc (a lo hi : PE) | tt (b : Bool) | att (a : PE)
  | call (f as : PE) | call0 (f : PE) | callk (f as : PE) (ks : List Str) (kv : PE)
  | app (o x : PE) | sort (o : PE) (rev : Bool)
  | list (es : PE) | tup (es : PE) | nil | cons (e r : PE)
  | ife (t a b : PE) | and (a b : PE) | andN | or (a b : PE) | orN | not (a : PE)
  | compN (names : List (Str × NameKind)) (fr : List (Option Nat)) (elt : PE) (i : Nat) (tst : PE) (it : PE)
  | compT (names : List (Str × NameKind)) (fr : List (Option Nat)) (elt : PE) (is : List Nat) (it : PE)

mutual
noncomputable def wpE (c : Cx) (f : Fm) : PE → St → (Value → St → Prop) → Prop
  | .v i, σ, Q => match (σ.vs[i]?).join with
    | some x => Q x σ
    | Option.none => False
  | .g x, σ, Q => Q x σ
  | .int n, σ, Q => ∀ t, Q (.int n t) σ
  | .none, σ, Q => Q .none σ
  | .neg a, σ, Q => wpE c f a σ fun x σ => W c f (unaryOp .USub x) σ Q
  | .bin op a b, σ, Q => wpE c f a σ fun x σ => wpE c f b σ fun y σ => W c f (binaryOp op x y) σ Q
  | .cmp op a b, σ, Q => wpE c f a σ fun x σ => wpE c f b σ fun y σ => W c f (compareOp op x y) σ Q
  | .sub a b, σ, Q => wpE c f a σ fun x σ => wpE c f b σ fun y σ => ∀ value slice, subscripted slice false x y = operate [x, y] (getItem x y) → W c f (subscriptTail value slice x y) σ Q
  | .call g as, σ, Q => wpE c f g σ fun fv σ => (Gr c.w σ.g → Plain c σ.g fv) ∧ wpL c f as σ fun vs σ => W c f (call fv vs) σ Q
  | .app o x, σ, Q => wpE c f o σ fun ov σ => (Ex2 fun l xs => ov = .ref l ∧ Lst σ l xs) ∧ wpE c f x σ fun xv σ => W c f (call (.builtin "list.append") [ov, xv]) σ Q
  | .list es, σ, Q => wpL c f es σ fun vs σ => W c f (newList vs) σ Q
  | .tup es, σ, Q => wpL c f es σ fun vs σ => W c f (newTuple vs) σ Q
  | .ife t a b, σ, Q => wpT c f t σ fun z σ => if z = true then wpE c f a σ Q else wpE c f b σ Q
  | .tt b, σ, Q => Q (.bool b) σ
  | .att a, σ, Q => wpE c f a σ fun x σ => W c f (getAttr x ("obj" : Str) true) σ Q
  | .slc a lo hi, σ, Q => wpE c f a σ fun x σ => wpO c f lo σ fun vl σ => wpO c f hi σ fun vu σ => SlcOk σ x vl vu Q
  | .call0 g, σ, Q => wpE c f g σ fun fv σ => (∃ T, fv = .type T) ∧ W c f (call fv []) σ Q
  | .callk g as ks kv, σ, Q => wpE c f g σ fun fv σ => (∃ id, fv = .builtin id) ∧ wpL c f as σ fun vs σ => wpL c f kv σ fun kvs σ => W c f (call fv vs (ks.zip kvs)) σ Q
  | .sort o rev, σ, Q => wpE c f o σ fun ov σ => (Ex2 fun l xs => ov = .ref l ∧ Lst σ l xs) ∧ W c f (call (.builtin "list.sort") [ov] (if rev = true then [("reverse", .bool true)] else [])) σ Q
  | .compN names fr elt i tst it, σ, Q => wpE c f it σ fun v σ0 => CompW c f fr i (fun f1 σ Q => wpTst c f1 tst σ Q) (fun f1 σ Q => wpE c f1 elt σ Q) Q v σ0
  | .compT names fr elt is it, σ, Q => wpE c f it σ fun v σ0 => CompTW c f fr is (fun f1 σ Q => wpE c f1 elt σ Q) Q v σ0
  | _, _, _ => False
noncomputable def wpO (c : Cx) (f : Fm) : PE → St → (Value → St → Prop) → Prop
  | .nil, σ, Q => Q .none σ
  | .cons a _, σ, Q => wpE c f a σ Q
  | _, _, _ => False
noncomputable def wpTst (c : Cx) (f : Fm) : PE → St → (Bool → St → Prop) → Prop
  | .nil, σ, Q => Q true σ
  | .cons a _, σ, Q => wpT c f a σ Q
  | _, _, _ => False
noncomputable def wpL (c : Cx) (f : Fm) : PE → St → (List Value → St → Prop) → Prop
  | .nil, σ, Q => Q [] σ
  | .cons e r, σ, Q => wpE c f e σ fun v σ => wpL c f r σ fun vs σ => Q (v :: vs) σ
  | _, _, _ => False
noncomputable def wpT (c : Cx) (f : Fm) : PE → St → (Bool → St → Prop) → Prop
  | .cmp op a b, σ, Q => wpE c f a σ fun x σ => wpE c f b σ fun y σ => W c f (compareOp op x y) σ fun z σ => W c f (truthy z) σ Q
  | .and a b, σ, Q => wpT c f a σ fun z σ => if z = true then wpT c f b σ Q else Q false σ
  | .andN, σ, Q => Q true σ
  | .or a b, σ, Q => wpT c f a σ fun z σ => if z = true then Q true σ else wpT c f b σ Q
  | .orN, σ, Q => Q false σ
  | .not a, σ, Q => wpT c f a σ fun z σ => Q (!z) σ
  | .v i, σ, Q => match (σ.vs[i]?).join with
    | some x => W c f (truthy x) σ Q
    | Option.none => False
  | _, _, _ => False
end

theorem bind_ {α β : Type} {o : Option α} {f : α → Option β} {b : β} (h : o.bind f = some b) : ∃ a, o = some a ∧ f a = some b := by
  cases o with
  | none => exact nope h
  | some a => exact ⟨a, rfl, h⟩
theorem map_ {α β : Type} {o : Option α} {f : α → β} {b : β} (h : o.map f = some b) : ∃ a, o = some a ∧ f a = b := by
  cases o with
  | none => exact nope h
  | some a => exact ⟨a, rfl, Option.some.inj h⟩
theorem bif_ {α : Type} {c : Bool} {a b : α} (h : (bif c then some a else none) = some b) : c = true ∧ a = b := by
  cases c with
  | false => exact nope h
  | true => exact ⟨rfl, Option.some.inj h⟩
noncomputable def l1 {α : Type} (l : List α) : Option α := @List.casesOn α (fun U => Option α) l none (fun a r => bif r.isEmpty then some a else none)
theorem l1_ {α : Type} {l : List α} {a : α} (h : l1 l = some a) : l = [a] := by
  cases l with
  | nil => exact nope h
  | cons x r =>
    obtain ⟨h1, h2⟩ := bif_ h
    rw [List.isEmpty_iff.mp h1, h2]
noncomputable def cInt : Const → Option Int
  | .int k => some k
  | _ => none
noncomputable def cNone : Const → Option Unit
  | .none => some ()
  | _ => none
noncomputable def notSlice (e : Expr) : Bool := (vSlice e).isNone
noncomputable def attrOk (e : Expr) : Bool := (vName e).isSome || (vSubscript e).isSome
noncomputable def xName (e : Expr) : Option Str := (vName e).map (·.1)
noncomputable def xInt (e : Expr) : Option Int := (vConstant e).bind fun p => cInt p.1
noncomputable def xNone (e : Expr) : Bool := ((vConstant e).bind fun p => cNone p.1).isSome
noncomputable def xAtt (e : Expr) : Option (Str × Pos) := (vAttribute e).bind fun p => (vName p.1).bind fun q => bif p.2.1 == ("obj" : Str) then some q else none
noncomputable def xSlc (e : Expr) : Option (Expr × Option Expr × Option Expr) := (vSubscript e).bind fun p => (vSlice p.2.1).bind fun q => bif q.2.2.1.isNone then some (p.1, q.1, q.2.1) else none
noncomputable def xCall0 (e : Expr) : Option (Str × Pos) := (vCall e).bind fun p => (vName p.1).bind fun q => bif p.2.1.isEmpty && p.2.2.1.isEmpty then some q else none
noncomputable def xCallk (e : Expr) : Option (Str × Pos × List Expr × List Keyword) := (vCall e).bind fun p => (vName p.1).map fun q => (q.1, q.2, p.2.1, p.2.2.1)
noncomputable def xSort (e : Expr) : Option (Expr × List Keyword) := (vCall e).bind fun p => (vAttribute p.1).bind fun q => bif p.2.1.isEmpty && (q.2.1 == ("sort" : Str) && q.2.2.endLine == p.2.2.2.line) then some (q.1, p.2.2.1) else none
structure CmpX where
  elt : Expr
  tgt : Expr
  iter : Expr
  ifs : List Expr
  sc : Scope
noncomputable def xComp (e : Expr) : Option CmpX := (vListComp e).bind fun p => (l1 p.2.1).bind fun g => bif decide (g.is_async = 0) then some ⟨p.1, g.target, g.iter, g.ifs, p.2.2.1⟩ else none
noncomputable def xTupE (e : Expr) : Option (List Expr) := (vTuple e).map (·.1)
noncomputable def notSetE (e : Expr) : Bool := (vSet e).isNone
noncomputable def xUn (e : Expr) : Option (UnaryOp × Expr) := (vUnaryOp e).map fun p => (p.1, p.2.1)
noncomputable def xBin (e : Expr) : Option (Expr × Operator × Expr) := (vBinOp e).map fun p => (p.1, p.2.1, p.2.2.1)
noncomputable def xCmp (e : Expr) : Option (Expr × CmpOp × Expr) := (vCompare e).bind fun p => (l1 p.2.1).bind fun o => (l1 p.2.2.1).map fun r => (p.1, o, r)
noncomputable def xSub (e : Expr) : Option (Expr × Expr) := (vSubscript e).map fun p => (p.1, p.2.1)
noncomputable def xCall (e : Expr) : Option (Str × Pos × List Expr) := (vCall e).bind fun p => (vName p.1).bind fun q => bif p.2.2.1.isEmpty then some (q.1, q.2, p.2.1) else none
noncomputable def xApp (e : Expr) : Option (Expr × Expr) := (vCall e).bind fun p => (vAttribute p.1).bind fun q => (l1 p.2.1).bind fun a => bif p.2.2.1.isEmpty && (q.2.1 == ("append" : Str) && q.2.2.endLine == p.2.2.2.line) then some (q.1, a) else none
noncomputable def xList (e : Expr) : Option (List Expr) := (vList e).map (·.1)
noncomputable def xTup (e : Expr) : Option (List Expr) := (vTuple e).map (·.1)
noncomputable def xIf (e : Expr) : Option (Expr × Expr × Expr) := (vIfExp e).map fun p => (p.1, p.2.1, p.2.2.1)
noncomputable def xBool (e : Expr) : Option (BoolOp × List Expr × Pos) := vBoolOp e
mutual
noncomputable def chkE (K : Tb) : Nat → PE → Expr → Bool
  | 0, _, _ => false
  | n + 1, .v i, e => (xName e).any fun x => nmAt K.names i x
  | n + 1, .g v, e => (xName e).any fun x => decide (K.names.lookup x = some .globalImplicit) && decide (K.tab.lookup x = some v) && !(x == ("__debug__" : Str))
  | n + 1, .int m, e => (xInt e).any fun k => decide (k = m)
  | n + 1, .none, e => xNone e
  | n + 1, .neg a, e => (xUn e).any fun p => decide (p.1 = .USub) && chkE K n a p.2
  | n + 1, .bin op a b, e => (xBin e).any fun p => decide (op = p.2.1) && chkE K n a p.1 && chkE K n b p.2.2
  | n + 1, .cmp op a b, e => (xCmp e).any fun p => decide (op = p.2.1) && !behindInMarks p.2.1 p.2.2 && chkE K n a p.1 && chkE K n b p.2.2
  | n + 1, .sub a b, e => (xSub e).any fun p => notSlice p.2 && chkE K n a p.1 && chkE K n b p.2
  | n + 1, .call g as, e => (xCall e).any fun p => !p.2.2.isEmpty && chkE K n g (.Name p.1 p.2.1) && chkL K n as p.2.2
  | n + 1, .app o x, e => (xApp e).any fun p => chkE K n o p.1 && chkE K n x p.2 && attrOk p.1
  | n + 1, .list es, e => (xList e).any fun p => chkL K n es p
  | n + 1, .tup es, e => (xTup e).any fun p => chkL K n es p
  | n + 1, .ife t a b, e => (xIf e).any fun p => chkT K n t p.1 && chkE K n a p.2.1 && chkE K n b p.2.2
  | n + 1, .tt b, e => (xBoolC e).any fun k => decide (k = b)
  | n + 1, .att a, e => (xAtt e).any fun p => chkE K n a (.Name p.1 p.2)
  | n + 1, .slc a lo hi, e => (xSlc e).any fun p => chkE K n a p.1 && chkO K n lo p.2.1 && chkO K n hi p.2.2
  | n + 1, .call0 g, e => (xCall0 e).any fun p => chkE K n g (.Name p.1 p.2)
  | n + 1, .callk g as ks kv, e => (xCallk e).any fun p => !p.2.2.1.isEmpty && chkE K n g (.Name p.1 p.2.1) && chkL K n as p.2.2.1 && decide (kwNames p.2.2.2 = some ks) && chkL K n kv (p.2.2.2.map (·.value))
  | n + 1, .sort o rev, e => (xSort e).any fun p => chkE K n o p.1 && attrOk p.1 && revKw rev p.2
  | n + 1, .compN names fr elt i tst it, e => (xComp e).any fun p => chkE K n it p.iter && notSetE p.iter && chkSc K.names p.sc names fr && ((xName p.tgt).any fun x => nmSt (relN K.names names) false i x) &&
      chkE ⟨relN K.names names, K.tab, false⟩ n elt p.elt && chkI ⟨relN K.names names, K.tab, false⟩ n tst p.ifs
  | n + 1, .compT names fr elt is it, e => (xComp e).any fun p => chkE K n it p.iter && notSetE p.iter && chkSc K.names p.sc names fr && ((xTupE p.tgt).any fun es => chkTgt (relN K.names names) false is es) &&
      chkE ⟨relN K.names names, K.tab, false⟩ n elt p.elt && p.ifs.isEmpty
  | n + 1, _, _ => false
noncomputable def chkO (K : Tb) : Nat → PE → Option Expr → Bool
  | 0, _, _ => false
  | n + 1, .nil, none => true
  | n + 1, .cons a _, some e => chkE K n a e
  | n + 1, _, _ => false
noncomputable def chkI (K : Tb) : Nat → PE → List Expr → Bool
  | 0, _, _ => false
  | n + 1, .nil, [] => true
  | n + 1, .cons a _, [e] => chkT K n a e
  | n + 1, _, _ => false
noncomputable def chkL (K : Tb) : Nat → PE → List Expr → Bool
  | 0, _, _ => false
  | n + 1, .nil, es => es.isEmpty
  | n + 1, .cons a b, es => match es with
    | [] => false
    | e :: r => chkE K n a e && chkL K n b r
  | n + 1, _, _ => false
noncomputable def chkT (K : Tb) : Nat → PE → Expr → Bool
  | 0, _, _ => false
  | n + 1, .cmp op a b, e => (xCmp e).any fun p => decide (op = p.2.1) && !behindInMarks p.2.1 p.2.2 && chkE K n a p.1 && chkE K n b p.2.2
  | n + 1, .and a b, e => (xBool e).any fun p => decide (p.1 = .And) && match p.2.1 with
    | [] => false
    | x :: rest => chkT K n a x && chkT K n b (.BoolOp .And rest p.2.2)
  | n + 1, .andN, e => (xBool e).any fun p => decide (p.1 = .And) && p.2.1.isEmpty
  | n + 1, .or a b, e => (xBool e).any fun p => decide (p.1 = .Or) && match p.2.1 with
    | [] => false
    | x :: rest => chkT K n a x && chkT K n b (.BoolOp .Or rest p.2.2)
  | n + 1, .orN, e => (xBool e).any fun p => decide (p.1 = .Or) && p.2.1.isEmpty
  | n + 1, .not a, e => (xUn e).any fun p => decide (p.1 = .Not) && chkT K n a p.2
  | n + 1, .v i, e => (xName e).any fun x => nmAt K.names i x
  | n + 1, _, _ => false
end
theorem xName_ {e : Expr} {x : Str} (h : xName e = some x) : ∃ p, e = .Name x p := by
  obtain ⟨p, h1, rfl⟩ := map_ h; exact ⟨_, vName_ h1⟩
theorem xAtt_ {e : Expr} {p : Str × Pos} (h : xAtt e = some p) : ∃ q, e = .Attribute (.Name p.1 p.2) ("obj" : Str) q := by
  obtain ⟨a, h1, h⟩ := bind_ h; obtain ⟨b, h2, h⟩ := bind_ h; obtain ⟨h3, rfl⟩ := bif_ h
  rw [vAttribute_ h1, vName_ h2, beq_iff_eq.mp h3]; exact ⟨_, rfl⟩
theorem xSlc_ {e : Expr} {p : Expr × Option Expr × Option Expr} (h : xSlc e = some p) : Ex2 fun q q' => e = .Subscript p.1 (.Slice p.2.1 p.2.2 none q) q' := by
  obtain ⟨a, h1, h⟩ := bind_ h; obtain ⟨b, h2, h⟩ := bind_ h; obtain ⟨h3, rfl⟩ := bif_ h
  rw [vSubscript_ h1, vSlice_ h2, Option.isNone_iff_eq_none.mp h3]; exact ⟨_, _, rfl⟩
theorem xCall0_ {e : Expr} {p : Str × Pos} (h : xCall0 e = some p) : ∃ q, e = .Call (.Name p.1 p.2) [] [] q := by
  obtain ⟨a, h1, h⟩ := bind_ h; obtain ⟨b, h2, h⟩ := bind_ h; obtain ⟨h3, rfl⟩ := bif_ h
  rw [Bool.and_eq_true] at h3
  rw [vCall_ h1, vName_ h2, List.isEmpty_iff.mp h3.1, List.isEmpty_iff.mp h3.2]; exact ⟨_, rfl⟩
theorem xCallk_ {e : Expr} {p : Str × Pos × List Expr × List Keyword} (h : xCallk e = some p) : ∃ q, e = .Call (.Name p.1 p.2.1) p.2.2.1 p.2.2.2 q := by
  obtain ⟨a, h1, h⟩ := bind_ h; obtain ⟨b, h2, rfl⟩ := map_ h
  rw [vCall_ h1, vName_ h2]; exact ⟨_, rfl⟩
theorem xSort_ {e : Expr} {p : Expr × List Keyword} (h : xSort e = some p) : Ex2 fun q q' => (q.endLine == q'.line) = true ∧ e = .Call (.Attribute p.1 ("sort" : Str) q) [] p.2 q' := by
  obtain ⟨a, h1, h⟩ := bind_ h; obtain ⟨b, h2, h⟩ := bind_ h; obtain ⟨h3, rfl⟩ := bif_ h
  rw [Bool.and_eq_true, Bool.and_eq_true] at h3
  refine ⟨_, _, h3.2.2, ?_⟩
  rw [vCall_ h1, vAttribute_ h2, List.isEmpty_iff.mp h3.1, beq_iff_eq.mp h3.2.1]
theorem xComp_ {e : Expr} {p : CmpX} (h : xComp e = some p) : ∃ q, e = .ListComp p.elt [⟨p.tgt, p.iter, p.ifs, 0⟩] p.sc q := by
  obtain ⟨a, h1, h⟩ := bind_ h; obtain ⟨b, h2, h⟩ := bind_ h; obtain ⟨h3, rfl⟩ := bif_ h
  have h3 := of_decide_eq_true h3
  rw [vListComp_ h1, l1_ h2]
  obtain ⟨t, it, ifs, k⟩ := b
  have h3 : k = 0 := h3
  subst h3; exact ⟨_, rfl⟩
theorem xTupE_ {e : Expr} {p : List Expr} (h : xTupE e = some p) : Ex2 fun k q => e = .Tuple p k q := by
  obtain ⟨p, h1, rfl⟩ := map_ h; exact ⟨_, _, vTuple_ h1⟩
theorem xInt_ {e : Expr} {k : Int} (h : xInt e = some k) : Ex2 fun j p => e = .Constant (.int k) j p := by
  obtain ⟨a, h1, h⟩ := bind_ h
  rw [vConstant_ h1]
  obtain ⟨v, j, q⟩ := a
  cases v <;> first | exact nope h | (cases h; exact ⟨_, _, rfl⟩)
theorem xNone_ {e : Expr} (h : xNone e = true) : Ex2 fun j p => e = .Constant .none j p := by
  obtain ⟨u, h⟩ := Option.isSome_iff_exists.mp h
  obtain ⟨a, h1, h⟩ := bind_ h
  rw [vConstant_ h1]
  obtain ⟨v, j, q⟩ := a
  cases v <;> first | exact nope h | exact ⟨_, _, rfl⟩
theorem xUn_ {e : Expr} {p : UnaryOp × Expr} (h : xUn e = some p) : ∃ q, e = .UnaryOp p.1 p.2 q := by
  obtain ⟨p, h1, rfl⟩ := map_ h; exact ⟨_, vUnaryOp_ h1⟩
theorem xBin_ {e : Expr} {p : Expr × Operator × Expr} (h : xBin e = some p) : ∃ q, e = .BinOp p.1 p.2.1 p.2.2 q := by
  obtain ⟨p, h1, rfl⟩ := map_ h; exact ⟨_, vBinOp_ h1⟩
theorem xCmp_ {e : Expr} {p : Expr × CmpOp × Expr} (h : xCmp e = some p) : ∃ q, e = .Compare p.1 [p.2.1] [p.2.2] q := by
  obtain ⟨a, h1, h⟩ := bind_ h; obtain ⟨b, h2, h⟩ := bind_ h; obtain ⟨r, h3, rfl⟩ := map_ h
  rw [vCompare_ h1, l1_ h2, l1_ h3]; exact ⟨_, rfl⟩
theorem xSub_ {e : Expr} {p : Expr × Expr} (h : xSub e = some p) : ∃ q, e = .Subscript p.1 p.2 q := by
  obtain ⟨p, h1, rfl⟩ := map_ h; exact ⟨_, vSubscript_ h1⟩
theorem xCall_ {e : Expr} {p : Str × Pos × List Expr} (h : xCall e = some p) : ∃ q, e = .Call (.Name p.1 p.2.1) p.2.2 [] q := by
  obtain ⟨a, h1, h⟩ := bind_ h; obtain ⟨b, h2, h⟩ := bind_ h; obtain ⟨h3, rfl⟩ := bif_ h
  rw [vCall_ h1, vName_ h2, List.isEmpty_iff.mp h3]; exact ⟨_, rfl⟩
theorem xApp_ {e : Expr} {p : Expr × Expr} (h : xApp e = some p) : Ex2 fun q q' => (q.endLine == q'.line) = true ∧ e = .Call (.Attribute p.1 ("append" : Str) q) [p.2] [] q' := by
  obtain ⟨a, h1, h⟩ := bind_ h; obtain ⟨b, h2, h⟩ := bind_ h; obtain ⟨x, h4, h⟩ := bind_ h; obtain ⟨h3, rfl⟩ := bif_ h
  rw [Bool.and_eq_true, Bool.and_eq_true] at h3
  refine ⟨_, _, h3.2.2, ?_⟩
  rw [vCall_ h1, vAttribute_ h2, l1_ h4, List.isEmpty_iff.mp h3.1, beq_iff_eq.mp h3.2.1]
theorem xList_ {e : Expr} {p : List Expr} (h : xList e = some p) : ∃ q, e = .List p q := by
  obtain ⟨p, h1, rfl⟩ := map_ h; exact ⟨_, vList_ h1⟩
theorem xTup_ {e : Expr} {p : List Expr} (h : xTup e = some p) : Ex2 fun k q => e = .Tuple p k q := by
  obtain ⟨p, h1, rfl⟩ := map_ h; exact ⟨_, _, vTuple_ h1⟩
theorem xIf_ {e : Expr} {p : Expr × Expr × Expr} (h : xIf e = some p) : ∃ q, e = .IfExp p.1 p.2.1 p.2.2 q := by
  obtain ⟨p, h1, rfl⟩ := map_ h; exact ⟨_, vIfExp_ h1⟩
theorem xBool_ {e : Expr} {p : BoolOp × List Expr × Pos} (h : xBool e = some p) : e = .BoolOp p.1 p.2.1 p.2.2 := vBoolOp_ h
theorem chk_star {K : Tb} {env : Env} {n : Nat} {e : Expr} {pe : PE} (h : chkE K n pe e = true) (rest : List Expr) : starEach (e :: rest) env = (false, eval e env) :: starEach rest env := by
  cases e with
  | Starred x p =>
    cases n with
    | zero => cases h
    | succ n => cases pe <;> cases h
  | _ => rfl
theorem chkL_plain {K : Tb} {env : Env} : ∀ {n : Nat} {es : List Expr} {pe : PE} {pos : Pos}, chkL K n pe es = true → (backTo pos (starEach es env)).any (·.1) = false
  | 0, _, _, _, h => by cases h
  | n + 1, [], _, _, _ => rfl
  | n + 1, e :: r, pe, pos, h => by
    cases pe with
    | cons a b =>
      have h : (chkE K n a e && chkL K n b r) = true := h
      rw [Bool.and_eq_true] at h
      rw [chk_star h.1]
      show (false || (backTo pos (starEach r env)).any (·.1)) = false
      rw [chkL_plain h.2]; rfl
    | _ => cases h
theorem sub_eq {s : Expr} (h : notSlice s = true) (x y : Value) : subscripted s false x y = operate [x, y] (getItem x y) := by
  cases s <;> first | rfl | cases h
theorem chkL_cons {K : Tb} {env : Env} {n : Nat} {e : Expr} {r : List Expr} {pe : PE} (h : chkL K n pe (e :: r) = true) (pos : Pos) : starEach (e :: r) env = (false, eval e env) :: starEach r env ∧ (backTo pos (starEach r env)).any (·.1) = false := by
  cases n with
  | zero => cases h
  | succ n =>
    cases pe with
    | cons a b =>
      have h : (chkE K n a e && chkL K n b r) = true := h
      rw [Bool.and_eq_true] at h
      exact ⟨chk_star h.1 r, chkL_plain h.2⟩
    | _ => cases h
theorem W_App {c : Cx} {f : Fm} {σ : St} {env : Env} {o e : Expr} {apos pos : Pos} {Q : Value → St → Prop} (hb : attributeBase o ("append" : Str) env (eval o env) = eval o env) (hl : (apos.endLine == pos.line) = true) (he : starEach [e] env = [(false, eval e env)])
    (H : W c f (eval o env) σ fun ov σ => (Ex2 fun l xs => ov = .ref l ∧ Lst σ l xs) ∧ W c f (eval e env) σ fun xv σ => W c f (call (.builtin "list.append") [ov, xv]) σ Q) :
    W c f (eval (.Call (.Attribute o ("append" : Str) apos) [e] [] pos) env) σ Q := by
  intro A E h tk r a
  refine wpAny_Call_method (T := "list") (id := "list.append") hb (by rw [he]; rfl) hl PySem.F.plainAttrs_list slot_list_append (by first | exact PySem.F.type_list_append | kernel_rfl) (wpAny_mono (H A E h tk r a) (fun ov s1 p1 => ?_) fun U U e => e)
  obtain ⟨σ1, h1, tk1, (rfl), a1, m1, ⟨l, xs, (rfl), hls⟩, q1⟩ := p1
  obtain ⟨o1, ho1, hP⟩ := hls.at a1
  refine ⟨(IsLs.isList ⟨o1, ho1, hP⟩).typeIs, fun b hb => ?_, ?_⟩
  · cases hb; exact ⟨o1, ho1, hP.2.1⟩
  · refine callWith_method1 ?_ he rfl
    refine spliced_more ?_ he
    refine wpAny_mono (q1 A E h1 tk1 r a1) (fun xv s2 p2 => spliced_none ?_) fun U U e => e
    obtain ⟨σ2, h2, tk2, (rfl), a2, m2, q2⟩ := p2
    refine wpAny_mono (q2 A E h2 tk2 r a2) (fun v s3 p3 => ?_) fun U U e => e
    obtain ⟨σ3, h3, tk3, (rfl), a3, m3, q3⟩ := p3
    exact ⟨σ3, h3, tk3, rfl, a3, (m1.trans m2).trans m3, q3⟩
theorem attr_eq {o : Expr} (h : attrOk o = true) (env : Env) : attributeBase o ("append" : Str) env (eval o env) = eval o env := by
  cases o <;> first | rfl | cases h
structure Ok (c : Cx) (f : Fm) (K : Tb) (env : Env) : Prop where
  e : EnvOk f env K.names K.cw
  T : TabOk c.w K.tab
theorem attr_eqS {o : Expr} (h : attrOk o = true) (env : Env) : attributeBase o ("sort" : Str) env (eval o env) = eval o env := by
  cases o <;> first | rfl | cases h
theorem kws_W {c : Cx} {f : Fm} {K : Tb} {env : Env} {pos : Pos} : ∀ (m n : Nat), n ≤ m → (∀ n', n' < m → ∀ pe e σ Q, chkE K n' pe e = true → wpE c f pe σ Q → W c f (eval e env) σ Q) → ∀ (kws : List Keyword) pe σ Q, chkL K n pe (kws.map (·.value)) = true → wpL c f pe σ Q → W c f (evalAll ((backToKw pos (keywordEach kws env)).map (·.2))) σ Q
  | m, 0, _, _, kws, pe, σ, Q, h, _ => by cases h
  | m, n + 1, hn, iE, [], pe, σ, Q, h, q => by
    cases pe with
    | nil => exact fun A E hh tk r a => wpAny_evalAll_nil (.here a q)
    | cons a b => cases h
    | _ => cases h
  | m, n + 1, hn, iE, kw :: rest, pe, σ, Q, h, q => by
    cases pe with
    | nil => cases h
    | cons a b =>
      have h' : (chkE K n a kw.value && chkL K n b (rest.map (·.value))) = true := h
      rw [Bool.and_eq_true] at h'
      exact W_evalAll_cons ((iE n (by omega) _ _ _ _ h'.1 q).mono fun v σ' _ z => kws_W m n (by omega) iE rest b _ _ h'.2 z)
    | _ => cases h
structure SnP (c : Cx) (f : Fm) (K : Tb) (env : Env) (n : Nat) (pe : PE) : Prop where
  e : ∀ e σ Q, chkE K n pe e = true → wpE c f pe σ Q → W c f (eval e env) σ Q
  l : ∀ es pos σ Q, chkL K n pe es = true → wpL c f pe σ Q → W c f (spliced (backTo pos (starEach es env))) σ Q
  t : ∀ e σ Q, chkT K n pe e = true → wpT c f pe σ Q → W c f (isTrue e env (eval e env)) σ Q
  o : ∀ e σ Q, chkO K n pe e = true → wpO c f pe σ Q → W c f (evalPart e env) σ Q
  i : ∀ es σ Q, chkI K n pe es = true → wpTst c f pe σ Q → W c f (ifsT es env) σ Q
section
variable {c : Cx} {f : Fm} {K : Tb} {env : Env} {n : Nat} {pe : PE} (hl : ∀ es, chkL K n pe es = false) (ht : ∀ e, chkT K n pe e = false) (ho : ∀ e, chkO K n pe e = false) (hi : ∀ es, chkI K n pe es = false)
  (he : ∀ e, chkE K n pe e = false) (hE : ∀ e σ Q, chkE K n pe e = true → wpE c f pe σ Q → W c f (eval e env) σ Q) (hT : ∀ e σ Q, chkT K n pe e = true → wpT c f pe σ Q → W c f (isTrue e env (eval e env)) σ Q)
include hl ho hi
theorem SnP.b (hE : ∀ e σ Q, chkE K n pe e = true → wpE c f pe σ Q → W c f (eval e env) σ Q) (hT : ∀ e σ Q, chkT K n pe e = true → wpT c f pe σ Q → W c f (isTrue e env (eval e env)) σ Q) : SnP c f K env n pe :=
  ⟨hE, fun _ _ _ _ h => (by rw [hl] at h; cases h), hT, fun _ _ _ h => (by rw [ho] at h; cases h), fun _ _ _ h => (by rw [hi] at h; cases h)⟩
include ht hE in
theorem SnP.x : SnP c f K env n pe := .b hl ho hi hE fun _ _ _ h => by rw [ht] at h; cases h
include he hT in
theorem SnP.y : SnP c f K env n pe := .b hl ho hi (fun _ _ _ h => by rw [he] at h; cases h) hT
end
section
variable {α : Type} {o : Option α} {p q r s t u : α → Bool} {G : Prop}
theorem a1 (h : o.any p = true) (k : ∀ x, o = some x → p x = true → G) : G := by cases o with | none => cases h | some x => exact k x rfl h
theorem a2 (h : (o.any fun x => p x && q x) = true) (k : ∀ x, o = some x → p x = true → q x = true → G) : G := a1 h fun x e h => k x e (Bool.and_eq_true_iff.mp h).1 (Bool.and_eq_true_iff.mp h).2
theorem a3 (h : (o.any fun x => p x && q x && r x) = true) (k : ∀ x, o = some x → p x = true → q x = true → r x = true → G) : G := a2 (p := fun x => p x && q x) h fun x e h => k x e (Bool.and_eq_true_iff.mp h).1 (Bool.and_eq_true_iff.mp h).2
theorem a4 (h : (o.any fun x => p x && q x && r x && s x) = true) (k : ∀ x, o = some x → p x = true → q x = true → r x = true → s x = true → G) : G := a3 (p := fun x => p x && q x) h fun x e h => k x e (Bool.and_eq_true_iff.mp h).1 (Bool.and_eq_true_iff.mp h).2
theorem a5 (h : (o.any fun x => p x && q x && r x && s x && t x) = true) (k : ∀ x, o = some x → p x = true → q x = true → r x = true → s x = true → t x = true → G) : G := a4 (p := fun x => p x && q x) h fun x e h => k x e (Bool.and_eq_true_iff.mp h).1 (Bool.and_eq_true_iff.mp h).2
theorem a6 (h : (o.any fun x => p x && q x && r x && s x && t x && u x) = true) (k : ∀ x, o = some x → p x = true → q x = true → r x = true → s x = true → t x = true → u x = true → G) : G := a5 (p := fun x => p x && q x) h fun x e h => k x e (Bool.and_eq_true_iff.mp h).1 (Bool.and_eq_true_iff.mp h).2
end
noncomputable def sndAt (c : Cx) (n : Nat) : Prop := ∀ (f : Fm) (K : Tb) (env : Env), Ok c f K env → ∀ pe, SnP c f K env n pe
theorem fsi {e : Expr} {env : Env} (h : notSetE e = true) : ∀ x, foldedSetIterable e env x = pure x := by
  intro x
  cases e <;> first | rfl | cases h
theorem comp_use {c : Cx} {f : Fm} {n : Nat} (S : sndAt c n) {K : Tb} {env : Env} (O : Ok c f K env) {p : CmpX} {names : List (Str × NameKind)} {fr : List (Option Nat)} {elt tst it : PE} {i : Nat} {x : Str} {px pos pos' : Pos} {use : Option (Value → Sem Unit)} {σ : St} {Q Q' : Value → St → Prop}
    (hs : notSetE p.iter = true) (h1 : chkE K n it p.iter = true) (hsc : chkSc K.names p.sc names fr = true) (hx : nmSt (relN K.names names) false i x = true) (h2 : chkE ⟨relN K.names names, K.tab, false⟩ n elt p.elt = true) (h3 : chkI ⟨relN K.names names, K.tab, false⟩ n tst p.ifs = true)
    (hq : ∀ v σ, Q v σ → UseOk c f use v σ Q') (q : wpE c f (.compN names fr elt i tst it) σ Q) :
    W c f (comprehension (.ListComp p.elt [⟨.Name x px, p.iter, p.ifs, 0⟩] p.sc pos) p.sc env pos' (newList []) false (eval p.iter env) use) σ Q' := by
  refine W_compN O.e hsc hx (fsi hs) (((S f K env O _).e _ _ _ h1 q).mono fun v σ0 _ z => ?_)
  obtain ⟨D, led, m, P, U, zk, hD, hI, body⟩ := z
  refine ⟨D, led, m, P, U, zk, hD, hI, fun f1 env1 acc eo ga la => ?_⟩
  obtain ⟨J, j0, turn, done⟩ := body f1 acc ga la
  have O1 : Ok c f1 ⟨relN K.names names, K.tab, false⟩ env1 := ⟨eo, O.T⟩
  refine ⟨J, j0, fun k v σ' hk hP hS jj => ?_, fun σ' hS jj => hq _ _ (done σ' hS jj)⟩
  refine ((S f1 _ env1 O1 _).i _ _ _ h3 (turn k v σ' hk hP hS jj)).mono fun ok σ2 _ y => ?_
  cases ok with
  | false => exact y
  | true => exact (S f1 _ env1 O1 _).e _ _ _ h2 y
theorem compT_use {c : Cx} {f : Fm} {n : Nat} (S : sndAt c n) {K : Tb} {env : Env} (O : Ok c f K env) {p : CmpX} {names : List (Str × NameKind)} {fr : List (Option Nat)} {elt it : PE} {is : List Nat} {es : List Expr} {k0 : Nat} {px pos pos' : Pos} {use : Option (Value → Sem Unit)} {σ : St} {Q Q' : Value → St → Prop}
    (hs : notSetE p.iter = true) (h1 : chkE K n it p.iter = true) (hsc : chkSc K.names p.sc names fr = true) (hx : chkTgt (relN K.names names) false is es = true) (h2 : chkE ⟨relN K.names names, K.tab, false⟩ n elt p.elt = true)
    (hq : ∀ v σ, Q v σ → UseOk c f use v σ Q') (q : wpE c f (.compT names fr elt is it) σ Q) :
    W c f (comprehension (.ListComp p.elt [⟨.Tuple es k0 px, p.iter, [], 0⟩] p.sc pos) p.sc env pos' (newList []) false (eval p.iter env) use) σ Q' := by
  refine W_compT O.e hsc hx (fsi hs) (((S f K env O _).e _ _ _ h1 q).mono fun v σ0 _ z => ?_)
  obtain ⟨D, led, m, P, D', hD, hI, body⟩ := z
  refine ⟨D, led, m, P, D', hD, hI, fun f1 env1 acc eo ga la => ?_⟩
  obtain ⟨J, j0, turn, done⟩ := body f1 acc ga la
  have O1 : Ok c f1 ⟨relN K.names names, K.tab, false⟩ env1 := ⟨eo, O.T⟩
  refine ⟨J, j0, fun k v σ' hk hP hS jj => ?_, fun σ' hS jj => hq _ _ (done σ' hS jj)⟩
  obtain ⟨y1, y2⟩ := turn k v σ' hk hP hS jj
  exact ⟨y1, (S f1 _ env1 O1 _).e _ _ _ h2 y2⟩
noncomputable def chkCmp (K : Tb) (n : Nat) (e : PE) (p : CmpX) : Bool := match e with
  | .compN names fr elt i tst it => chkE K n it p.iter && notSetE p.iter && chkSc K.names p.sc names fr && ((xName p.tgt).any fun x => nmSt (relN K.names names) false i x) &&
      chkE ⟨relN K.names names, K.tab, false⟩ n elt p.elt && chkI ⟨relN K.names names, K.tab, false⟩ n tst p.ifs
  | .compT names fr elt is it => chkE K n it p.iter && notSetE p.iter && chkSc K.names p.sc names fr && ((xTupE p.tgt).any fun es => chkTgt (relN K.names names) false is es) &&
      chkE ⟨relN K.names names, K.tab, false⟩ n elt p.elt && p.ifs.isEmpty
  | _ => false
theorem chkCmp_ {K : Tb} {n : Nat} {p : CmpX} {G : PE → Prop} {pe : PE} (h : chkCmp K n pe p = true)
    (k1 : ∀ names fr elt i tst it, chkE K n it p.iter = true → notSetE p.iter = true → chkSc K.names p.sc names fr = true → ((xName p.tgt).any fun x => nmSt (relN K.names names) false i x) = true → chkE ⟨relN K.names names, K.tab, false⟩ n elt p.elt = true → chkI ⟨relN K.names names, K.tab, false⟩ n tst p.ifs = true → G (.compN names fr elt i tst it))
    (k2 : ∀ names fr elt is it, chkE K n it p.iter = true → notSetE p.iter = true → chkSc K.names p.sc names fr = true → ((xTupE p.tgt).any fun es => chkTgt (relN K.names names) false is es) = true → chkE ⟨relN K.names names, K.tab, false⟩ n elt p.elt = true → p.ifs.isEmpty = true → G (.compT names fr elt is it)) : G pe := by
  cases pe with
  | compN names fr elt i tst it => exact a6 (o := some ()) (p := fun _ => _) (q := fun _ => _) (r := fun _ => _) (s := fun _ => _) (t := fun _ => _) (u := fun _ => _) h fun _ _ => k1 _ _ _ _ _ _
  | compT names fr elt is it => exact a6 (o := some ()) (p := fun _ => _) (q := fun _ => _) (r := fun _ => _) (s := fun _ => _) (t := fun _ => _) (u := fun _ => _) h fun _ _ => k2 _ _ _ _ _
  | _ => cases h
theorem comp_chk {c : Cx} {f : Fm} {n : Nat} (S : sndAt c n) {K : Tb} {env : Env} (O : Ok c f K env) {pe : PE} {p : CmpX} {pos pos' : Pos} {use : Option (Value → Sem Unit)} {σ : St} {Q Q' : Value → St → Prop} (hc : chkCmp K n pe p = true) (hq : ∀ v σ, Q v σ → UseOk c f use v σ Q') (q : wpE c f pe σ Q) :
    W c f (comprehension (.ListComp p.elt [⟨p.tgt, p.iter, p.ifs, 0⟩] p.sc pos) p.sc env pos' (newList []) false (eval p.iter env) use) σ Q' := by
  revert q
  refine chkCmp_ (G := fun pe => wpE c f pe σ Q → _) hc (fun names fr elt i tst it h1 h2 h3 h4 h5 h6 q => ?_) fun names fr elt is it h1 h2 h3 h4 h5 h6 q => ?_
  · refine a1 h4 fun x hx1 hx2 => ?_
    obtain ⟨px, e⟩ := xName_ hx1
    rw [e]
    exact comp_use S O h2 h1 h3 hx2 h5 h6 hq q
  · refine a1 h4 fun es hx1 hx2 => ?_
    obtain ⟨k0, px, e⟩ := xTupE_ hx1
    rw [e, List.isEmpty_iff.mp h6]
    exact compT_use S O h2 h1 h3 hx2 h5 hq q
theorem snd' {c : Cx} : ∀ m n, n ≤ m → sndAt c n
  | m, 0, _ => fun f K env O pe => ⟨fun _ _ _ h => (by cases h), fun _ _ _ _ h => (by cases h), fun _ _ _ h => (by cases h), fun _ _ _ h => (by cases h), fun _ _ _ h => (by cases h)⟩
  | 0, n + 1, hm => absurd hm (by omega)
  | m + 1, n + 1, hm => fun f K env O pe => by
    have S : sndAt c n := snd' m n (by omega)
    have P := S f K env O
    cases pe with
    | v i =>
      refine .b (fun _ => rfl) (fun _ => rfl) (fun _ => rfl) (fun e σ Q h q => a1 h fun x h1 h2 => ?_) (fun e σ Q h q => a1 h fun x h1 h2 => ?_)
      · obtain ⟨p, rfl⟩ := xName_ h1
        have q : (match (σ.vs[i]?).join with | some x => Q x σ | none => False) := q
        cases hv : (σ.vs[i]?).join with
        | none => rw [hv] at q; exact q.elim
        | some y => rw [hv] at q; exact W_var O.e h2 hv q
      · obtain ⟨p, rfl⟩ := xName_ h1
        have q : (match (σ.vs[i]?).join with | some x => W c f (truthy x) σ Q | none => False) := q
        cases hv : (σ.vs[i]?).join with
        | none => rw [hv] at q; exact q.elim
        | some y => rw [hv] at q; exact W_isName (W_var O.e h2 hv q)
    | cmp op a b =>
      refine .b (fun _ => rfl) (fun _ => rfl) (fun _ => rfl) (fun e σ Q h q => a4 h fun x e h1 h2 h3 h4 => ?_) (fun e σ Q h q => a4 h fun x e h1 h2 h3 h4 => ?_)
      · obtain ⟨p, rfl⟩ := xCmp_ e
        rw [← of_decide_eq_true h1] at h2 ⊢
        exact W_Compare ((Bool.not_eq_true' _).mp h2) (((P a).e _ _ _ h3 q).mono fun _ _ _ q => (P b).e _ _ _ h4 q)
      · obtain ⟨p, rfl⟩ := xCmp_ e
        rw [← of_decide_eq_true h1] at h2 ⊢
        exact W_isCompare ((Bool.not_eq_true' _).mp h2) (((P a).e _ _ _ h3 q).mono fun _ _ _ q => (P b).e _ _ _ h4 q)
    | g v =>
      refine .x (fun _ => rfl) (fun _ => rfl) (fun _ => rfl) (fun _ => rfl) fun e σ Q h q => ?_
      refine a3 h fun x h1 h2 h3 h4 => ?_
      obtain ⟨p, rfl⟩ := xName_ h1
      exact W_glob O.e O.T (of_decide_eq_true h2) (of_decide_eq_true h3) ((Bool.not_eq_true' _).mp h4) q
    | int m =>
      refine .x (fun _ => rfl) (fun _ => rfl) (fun _ => rfl) (fun _ => rfl) fun e σ Q h q => ?_
      refine a1 h fun x h1 h2 => ?_
      obtain ⟨j, p, rfl⟩ := xInt_ h1
      rw [of_decide_eq_true h2]
      exact fun A E hh tk r a => r_int fun t tk' => .here a (q t)
    | none =>
      refine .x (fun _ => rfl) (fun _ => rfl) (fun _ => rfl) (fun _ => rfl) fun e σ Q h q => ?_
      obtain ⟨j, p, rfl⟩ := xNone_ h
      exact fun A E hh tk r a => Constant_none (.here a q)
    | neg a =>
      refine .x (fun _ => rfl) (fun _ => rfl) (fun _ => rfl) (fun _ => rfl) fun e σ Q h q => ?_
      refine a2 h fun x h1 h2 h3 => ?_
      obtain ⟨p, rfl⟩ := xUn_ h1
      rw [of_decide_eq_true h2]
      exact W_Neg ((P a).e _ _ _ h3 q)
    | bin op a b =>
      refine .x (fun _ => rfl) (fun _ => rfl) (fun _ => rfl) (fun _ => rfl) fun e σ Q h q => ?_
      refine a3 h fun x h1 h2 h3 h4 => ?_
      obtain ⟨p, rfl⟩ := xBin_ h1
      rw [← of_decide_eq_true h2]
      exact W_BinOp (((P a).e _ _ _ h3 q).mono fun _ _ _ q => (P b).e _ _ _ h4 q)
    | sub a b =>
      refine .x (fun _ => rfl) (fun _ => rfl) (fun _ => rfl) (fun _ => rfl) fun e σ Q h q => ?_
      refine a3 h fun x h1 h2 h3 h4 => ?_
      obtain ⟨p, rfl⟩ := xSub_ h1
      exact W_Sub (((P a).e _ _ _ h3 q).mono fun _ _ _ q => ((P b).e _ _ _ h4 q).mono fun _ _ _ q => q _ _ (sub_eq h2 _ _))
    | call g as =>
      refine .x (fun _ => rfl) (fun _ => rfl) (fun _ => rfl) (fun _ => rfl) fun e σ Q h q => ?_
      refine a3 h fun x h1 h2 h3 h4 => ?_
      obtain ⟨x, px, es⟩ := x
      obtain ⟨p, rfl⟩ := xCall_ h1
      cases es with
      | nil => cases h2
      | cons e rest =>
        obtain ⟨he, hp⟩ := chkL_cons (env := env) h4 p
        exact W_Call he hp (((P g).e _ _ _ h3 q).mono fun fv σ _ q => ⟨q.1, (P as).l _ _ _ _ h4 q.2⟩)
    | app o x =>
      refine .x (fun _ => rfl) (fun _ => rfl) (fun _ => rfl) (fun _ => rfl) fun e σ Q h q => ?_
      refine a3 h fun z h1 h2 h3 h4 => ?_
      obtain ⟨p, p', hl, rfl⟩ := xApp_ h1
      exact W_App (attr_eq h4 env) hl (chk_star h3 []) (((P o).e _ _ _ h2 q).mono fun ov σ _ q => ⟨q.1, (P x).e _ _ _ h3 q.2⟩)
    | list es =>
      refine .x (fun _ => rfl) (fun _ => rfl) (fun _ => rfl) (fun _ => rfl) fun e σ Q h q => ?_
      refine a1 h fun x h1 h2 => ?_
      obtain ⟨p, rfl⟩ := xList_ h1
      exact W_List ((P es).l _ _ _ _ h2 q)
    | tup es =>
      refine .x (fun _ => rfl) (fun _ => rfl) (fun _ => rfl) (fun _ => rfl) fun e σ Q h q => ?_
      refine a1 h fun x h1 h2 => ?_
      obtain ⟨k, p, rfl⟩ := xTup_ h1
      exact W_Tuple ((P es).l _ _ _ _ h2 q)
    | ife t a b =>
      refine .x (fun _ => rfl) (fun _ => rfl) (fun _ => rfl) (fun _ => rfl) fun e σ Q h q => ?_
      refine a3 h fun x h1 h2 h3 h4 => ?_
      obtain ⟨p, rfl⟩ := xIf_ h1
      refine W_IfExp (((P t).t _ _ _ h2 q).mono fun z _ _ q => ?_)
      cases z with
      | true => exact (P a).e _ _ _ h3 q
      | false => exact (P b).e _ _ _ h4 q
    | tt b =>
      refine .x (fun _ => rfl) (fun _ => rfl) (fun _ => rfl) (fun _ => rfl) fun e σ Q h q => ?_
      refine a1 h fun x h1 h2 => ?_
      obtain ⟨j, p, rfl⟩ := xBoolC_ h1
      rw [of_decide_eq_true h2]
      exact fun A E hh tk r a => Constant_bool (.here a q)
    | att a =>
      refine .x (fun _ => rfl) (fun _ => rfl) (fun _ => rfl) (fun _ => rfl) fun e σ Q h q => ?_
      refine a1 h fun x h1 h2 => ?_
      obtain ⟨p, rfl⟩ := xAtt_ h1
      exact W_att ((P a).e _ _ _ h2 q)
    | slc a lo hi =>
      refine .x (fun _ => rfl) (fun _ => rfl) (fun _ => rfl) (fun _ => rfl) fun e σ Q h q => ?_
      refine a3 h fun x h1 h2 h3 h4 => ?_
      obtain ⟨p, p', rfl⟩ := xSlc_ h1
      exact W_slc (((P a).e _ _ _ h2 q).mono fun _ _ _ q => ((P lo).o _ _ _ h3 q).mono fun _ _ _ q => (P hi).o _ _ _ h4 q)
    | call0 g =>
      refine .x (fun _ => rfl) (fun _ => rfl) (fun _ => rfl) (fun _ => rfl) fun e σ Q h q => ?_
      refine a1 h fun x h1 h2 => ?_
      obtain ⟨p, rfl⟩ := xCall0_ h1
      exact W_call0 ((P g).e _ _ _ h2 q)
    | callk g as ks kv =>
      refine .x (fun _ => rfl) (fun _ => rfl) (fun _ => rfl) (fun _ => rfl) fun e σ Q h q => ?_
      refine a5 h fun x h1 h2 h3 h4 h5 h6 => ?_
      obtain ⟨x, px, es, kws⟩ := x
      obtain ⟨p, rfl⟩ := xCallk_ h1
      cases es with
      | nil => cases h2
      | cons e rest =>
        obtain ⟨he, hp⟩ := chkL_cons (env := env) h4 p
        exact W_callk he hp (of_decide_eq_true h5) (((P g).e _ _ _ h3 q).mono fun fv σ _ q => ⟨q.1, ((P as).l _ _ _ _ h4 q.2).mono fun vs σ _ q => kws_W (n + 1) n (by omega) (fun n' hn' pe => (snd' m n' (by omega) f K env O pe).e) kws kv _ _ h6 q⟩)
    | sort o rev =>
      refine .x (fun _ => rfl) (fun _ => rfl) (fun _ => rfl) (fun _ => rfl) fun e σ Q h q => ?_
      refine a3 h fun x h1 h2 h3 h4 => ?_
      obtain ⟨p, p', hl, rfl⟩ := xSort_ h1
      exact W_sort (attr_eqS h3 env) hl h4 ((P o).e _ _ _ h2 q)
    | compN names fr elt i tst it =>
      refine .x (fun _ => rfl) (fun _ => rfl) (fun _ => rfl) (fun _ => rfl) fun e σ Q h q => ?_
      refine a1 h fun x hX h2 => ?_
      obtain ⟨p, rfl⟩ := xComp_ hX
      rw [eval_ListComp]
      exact comp_chk (pe := .compN names fr elt i tst it) (use := none) (Q' := Q) S O h2 (fun _ _ z => z) q
    | compT names fr elt is it =>
      refine .x (fun _ => rfl) (fun _ => rfl) (fun _ => rfl) (fun _ => rfl) fun e σ Q h q => ?_
      refine a1 h fun x hX h2 => ?_
      obtain ⟨p, rfl⟩ := xComp_ hX
      rw [eval_ListComp]
      exact comp_chk (pe := .compT names fr elt is it) (use := none) (Q' := Q) S O h2 (fun _ _ z => z) q
    | and a b =>
      refine .y (fun _ => rfl) (fun _ => rfl) (fun _ => rfl) (fun _ => rfl) fun e σ Q h q => ?_
      refine a2 h fun x h1 h2 h3 => ?_
      obtain ⟨o, es, p⟩ := x
      rw [xBool_ h1, of_decide_eq_true h2]
      cases es with
      | nil => cases h3
      | cons x rest =>
        have h3 := Bool.and_eq_true_iff.mp h3
        refine W_isAnd (((P a).t _ _ _ h3.1 q).mono fun z σ _ q => ?_)
        cases z with
        | true => exact (P b).t _ _ _ h3.2 q
        | false => exact q
    | andN =>
      refine .y (fun _ => rfl) (fun _ => rfl) (fun _ => rfl) (fun _ => rfl) fun e σ Q h q => ?_
      refine a2 h fun x h1 h2 h3 => ?_
      rw [xBool_ h1, of_decide_eq_true h2, List.isEmpty_iff.mp h3]
      exact fun A E hh tk r a => isTrue_and_nil (.here a q)
    | or a b =>
      refine .y (fun _ => rfl) (fun _ => rfl) (fun _ => rfl) (fun _ => rfl) fun e σ Q h q => ?_
      refine a2 h fun x h1 h2 h3 => ?_
      obtain ⟨o, es, p⟩ := x
      rw [xBool_ h1, of_decide_eq_true h2]
      cases es with
      | nil => cases h3
      | cons x rest =>
        have h3 := Bool.and_eq_true_iff.mp h3
        refine W_isOr (((P a).t _ _ _ h3.1 q).mono fun z σ _ q => ?_)
        cases z with
        | false => exact (P b).t _ _ _ h3.2 q
        | true => exact q
    | orN =>
      refine .y (fun _ => rfl) (fun _ => rfl) (fun _ => rfl) (fun _ => rfl) fun e σ Q h q => ?_
      refine a2 h fun x h1 h2 h3 => ?_
      rw [xBool_ h1, of_decide_eq_true h2, List.isEmpty_iff.mp h3]
      exact fun A E hh tk r a => isTrue_or_nil (.here a q)
    | not a =>
      refine .y (fun _ => rfl) (fun _ => rfl) (fun _ => rfl) (fun _ => rfl) fun e σ Q h q => ?_
      refine a2 h fun x h1 h2 h3 => ?_
      obtain ⟨p, rfl⟩ := xUn_ h1
      rw [of_decide_eq_true h2]
      exact W_isNot ((P a).t _ _ _ h3 q)
    | nil =>
      refine ⟨fun _ _ _ h => (by cases h), fun es pos σ Q h q => ?_, fun _ _ _ h => (by cases h), fun e σ Q h q => ?_, fun es σ Q h q => ?_⟩
      · rw [List.isEmpty_iff.mp h]
        exact fun A E hh tk r a => spliced_none (.here a q)
      · cases e with
        | none => exact fun A E hh tk r a => by rw [evalPart_none]; exact wpAny_pure (.here a q)
        | some e => cases h
      · cases es with
        | nil => exact fun A E hh tk r a => wpAny_tests_nil (.here a q)
        | cons _ _ => cases h
    | cons a b =>
      refine ⟨fun _ _ _ h => (by cases h), fun es pos σ Q h q => ?_, fun _ _ _ h => (by cases h), fun e σ Q h q => ?_, fun es σ Q h q => ?_⟩
      · cases es with
        | nil => cases h
        | cons e r =>
          have h := Bool.and_eq_true_iff.mp (show (chkE K n a e && chkL K n b r) = true from h)
          exact W_spliced (chk_star h.1 _) (((P a).e _ _ _ h.1 q).mono fun _ _ _ q => (P b).l _ _ _ _ h.2 q)
      · cases e with
        | none => cases h
        | some e => rw [evalPart_some]; exact (P a).e _ _ _ h q
      · cases es with
        | nil => cases h
        | cons e r =>
          cases r with
          | nil => exact fun A E hh tk r at0 => wpAny_tests_one ((P a).t _ _ _ h q A E hh tk r at0)
          | cons _ _ => cases h
theorem snd {c : Cx} {f : Fm} {K : Tb} {env : Env} (O : Ok c f K env) (n : Nat) (pe : PE) : SnP c f K env n pe := snd' n n (Nat.le_refl _) f K env O pe
end
section
open _root_.PySem _root_.PySem.W _root_.PySem.Calls PyProof.Rows
set_option maxRecDepth 100000
inductive PS where
  | skip | seq (s r : PS)
  | asg (i : Nat) (e : PE) | asgT (is : List Nat) (e : PE) | asgS (i j : Nat) (e : PE) | asgC (i : Nat) (e : PE) | setI (o i v : PE) | aug (i : Nat) (op : Operator) (e : PE)
  | expr (e : PE) | ret (e : PE) | ifS (t : PE) (a b : PS) | whl (t : PE) (b : PS) | forN (i : Nat) (it : PE) (b : PS) | forT (is : List Nat) (it : PE) (b : PS)
  | brk | cont | tryL (b o : PS) | tryX (x : PE) | dead

noncomputable def flowTo (σ : St) (Q : Flow → St → Prop) (next : St → Prop) (fl : Flow) (σ' : St) : Prop := match fl with
  | .next | .cont => next σ'
  | .brk => Q .next σ'
  | .ret v => Q (.ret v) σ'
noncomputable def sq (N : St → Prop) (Q : Flow → St → Prop) (fl : Flow) (σ : St) : Prop := match fl with
  | .next => N σ
  | fl => Q fl σ
noncomputable def UnpOk (σ : St) (v : Value) (n : Nat) (k : List Value → Prop) : Prop := Ex3 fun T vals o => v = .ref T ∧ σ.g.get? T = some o ∧ IsT vals o ∧ vals.length = n ∧ k vals
noncomputable def wpS (c : Cx) (f : Fm) : PS → St → (Flow → St → Prop) → Prop
  | .skip, σ, Q => Q .next σ
  | .seq s r, σ, Q => wpS c f s σ (sq (fun σ => wpS c f r σ Q) Q)
  | .asg i e, σ, Q => wpE c f e σ fun v σ => Q .next { σ with vs := σ.vs.set i (some v) }
  | .setI o i v, σ, Q => wpE c f v σ fun v σ => wpE c f o σ fun o σ => wpE c f i σ fun i σ => W c f (setItem o i v) σ fun _ σ => Q .next σ
  | .aug i op e, σ, Q => match (σ.vs[i]?).join with
    | some x => wpE c f e σ fun y σ => W c f (inplaceOp op x y) σ fun v σ => Q .next { σ with vs := σ.vs.set i (some v) }
    | none => False
  | .expr e, σ, Q => wpE c f e σ fun _ σ => Q .next σ
  | .ret e, σ, Q => wpE c f e σ fun v σ => Q (.ret v) σ
  | .ifS t a b, σ, Q => wpT c f t σ fun z σ => if z = true then wpS c f a σ Q else wpS c f b σ Q
  | .whl t b, σ, Q => ∃ J : Nat → St → Prop, (∃ n, Frz (J n) σ) ∧ ∀ n σ', Sub σ.g σ'.g → J n σ' → wpT c f t σ' fun z σ => if z = true then wpS c f b σ (flowTo σ Q fun σ => ∃ n', n' < n ∧ Frz (J n') σ) else Q .next σ
  | .forN i it b, σ, Q => wpE c f it σ fun v σ => Ex6 fun D led n P z zk => σ.led.Perm (D ++ led) ∧ Iter c f { σ with led := led } D v n P z zk ∧ ∃ J : Nat → St → Prop, Frz (J 0) { σ with led := led, sz := zAdd z zk σ.sz } ∧
      (∀ k v σ', k < n → P k v → Sub σ.g σ'.g → J k σ' → wpS c f b { σ' with vs := σ'.vs.set i (some v) } (flowTo σ Q fun σ => Frz (J (k + 1)) { σ with sz := zAdd z 0 σ.sz })) ∧ ∀ σ', Sub σ.g σ'.g → J n σ' → Q .next { σ' with sz := zAdd z 2 σ'.sz }
  | .asgC i e, σ, Q => wpE c f e σ fun v σ => Q .next { σ with vs := σ.vs.set i (some v) }
  | .asgT is e, σ, Q => wpE c f e σ fun v σ => UnpOk σ v is.length fun vals => Q .next { σ with vs := setAll σ.vs is vals, sz := szUp σ 3 }
  | .asgS i j e, σ, Q => wpE c f e σ fun v σ => Ex4 fun T v1 v2 o => v = .ref T ∧ σ.g.get? T = some o ∧ IsT [v1, v2] o ∧ Q .next { σ with vs := (σ.vs.set j (some v2)).set i (some v1), sz := szUp σ 3 }
  | .forT is it b, σ, Q => wpE c f it σ fun v σ => Ex5 fun D led n P D' => σ.led.Perm (D ++ led) ∧ IterT c f { σ with led := led } D v n P D' ∧ ∃ J : Nat → St → Prop, Frz (J 0) { σ with led := led, sz := none } ∧
      (∀ k (vals : Array Value) σ', k < n → P k vals → Sub σ.g σ'.g → J k σ' → vals.size = is.length ∧ wpS c f b { σ' with vs := setAll σ'.vs is vals.toList, sz := none } (flowTo σ Q fun σ => Frz (J (k + 1)) { σ with sz := none })) ∧ ∀ σ', Sub σ.g σ'.g → J n σ' → Q .next { σ' with led := D' ++ σ'.led, sz := none }
  | .tryL b o, σ, Q => wpS c f b σ (sq (fun σ => wpS c f o σ Q) Q)
  | .tryX x, σ, Q => wpE c f x σ fun v σ => (Ex3 fun I l j => v = .ref I ∧ (I, IsLI l j) ∈ σ.led) ∧ c.kf = true ∧ c.fs.head? = some f.F ∧ Q .next { σ with sz := none }
  | .brk, σ, Q => Q .brk σ
  | .cont, σ, Q => Q .cont σ
  | _, _, _ => False

noncomputable def notComp (e : Expr) : Bool := (vListComp e).isNone && ((vSetComp e).isNone && (vDictComp e).isNone)
noncomputable def noSwap (e : Expr) : Bool := notComp e && (vTuple e).isNone
noncomputable def noStar (e : Expr) : Bool := (vStarred e).isNone
noncomputable def l2 {α : Type} (l : List α) : Option (α × α) := @List.casesOn α (fun U => Option (α × α)) l none fun a r => (l1 r).map fun b => (a, b)
theorem l2_ {α : Type} {l : List α} {p : α × α} (h : l2 l = some p) : l = [p.1, p.2] := by
  cases l with
  | nil => exact nope h
  | cons x r =>
    obtain ⟨b, h1, rfl⟩ := map_ h
    rw [l1_ h1]
noncomputable def xCompP (e : Expr) : Option (CmpX × Nat) := (xComp e).bind fun x => (vListComp e).map fun p => (x, p.2.2.2.line)
structure SwpX where
  x : Str
  y : Str
  px : Nat
  py : Nat
  a : Expr
  b : Expr
  k : Nat
  p : Pos
noncomputable def yTgt (s : Stmt) : Option (Expr × Expr) := (uAssign s).bind fun p => (l1 p.1).map fun t => (t, p.2.1)
noncomputable def yAsg (s : Stmt) : Option (Str × Expr) := (yTgt s).bind fun p => (vName p.1).map fun q => (q.1, p.2)
noncomputable def ySet (s : Stmt) : Option (Expr × Expr × Expr) := (yTgt s).bind fun p => (vSubscript p.1).map fun q => (q.1, q.2.1, p.2)
noncomputable def yAug (s : Stmt) : Option (Str × Operator × Expr) := (uAugAssign s).bind fun p => (vName p.1).map fun q => (q.1, p.2.1, p.2.2.1)
noncomputable def yExpr (s : Stmt) : Option Expr := (uExpr s).map (·.1)
noncomputable def yAsgT (s : Stmt) : Option (List Expr × Expr) := (yTgt s).bind fun p => (vTuple p.1).map fun q => (q.1, p.2)
noncomputable def yAsgC (s : Stmt) : Option (Str × Nat × CmpX × Nat) := (yTgt s).bind fun p => (vName p.1).bind fun q => (xCompP p.2).map fun r => (q.1, q.2.line, r.1, r.2)
noncomputable def yForT (s : Stmt) : Option (List Expr × Expr × List Stmt) := (uFor s).bind fun p => (vTuple p.1).bind fun q => bif p.2.2.2.1.isEmpty then some (q.1, p.2.1, p.2.2.1) else none
noncomputable def yTry (s : Stmt) : Option (List Stmt × List Stmt) := (uTry s).bind fun p => bif !p.2.1.isEmpty && p.2.2.2.1.isEmpty then some (p.1, p.2.2.1) else none
noncomputable def uPass (e : Stmt) : Bool :=
  @Stmt.casesOn (fun U => Bool) e (fun U U U U U U U U U U => false) (fun U U U U U U U U U U => false) (fun U U U U U U U U U U U => false) (fun U U => false) (fun U U => false) (fun U U U => false) (fun U U U U U U U => false) (fun U U U U => false) (fun U U U U U => false) (fun U U U U U => false) (fun U U U U U => false) (fun U U U U => false) (fun U U U U => false) (fun U U U => false) (fun U U U => false) (fun U U U => false) (fun U U U => false) (fun U U U U U => false) (fun U U U U U => false) (fun U U U => false) (fun U U => false) (fun U U U U => false) (fun U U => false) (fun U U => false) (fun U U => false) (fun U => true) (fun U => false) (fun U => false)
theorem uPass_ {e : Stmt} (h : uPass e = true) : ∃ p, e = .Pass p :=
  @Stmt.casesOn (fun e => uPass e = true → ∃ p, e = .Pass p) e (fun U U U U U U U U U U h => Bool.noConfusion h) (fun U U U U U U U U U U h => Bool.noConfusion h) (fun U U U U U U U U U U U h => Bool.noConfusion h) (fun U U h => Bool.noConfusion h) (fun U U h => Bool.noConfusion h) (fun U U U h => Bool.noConfusion h) (fun U U U U U U U h => Bool.noConfusion h) (fun U U U U h => Bool.noConfusion h) (fun U U U U U h => Bool.noConfusion h) (fun U U U U U h => Bool.noConfusion h) (fun U U U U U h => Bool.noConfusion h) (fun U U U U h => Bool.noConfusion h) (fun U U U U h => Bool.noConfusion h) (fun U U U h => Bool.noConfusion h) (fun U U U h => Bool.noConfusion h) (fun U U U h => Bool.noConfusion h) (fun U U U h => Bool.noConfusion h) (fun U U U U U h => Bool.noConfusion h) (fun U U U U U h => Bool.noConfusion h) (fun U U U h => Bool.noConfusion h) (fun U U h => Bool.noConfusion h) (fun U U U U h => Bool.noConfusion h) (fun U U h => Bool.noConfusion h) (fun U U h => Bool.noConfusion h) (fun U U h => Bool.noConfusion h) (fun a U => ⟨a, rfl⟩) (fun U h => Bool.noConfusion h) (fun U h => Bool.noConfusion h) h
noncomputable def hPass (h : ExceptHandler) : Option Expr := @ExceptHandler.casesOn (fun U => Option Expr) h fun t n b U => t.bind fun t => bif n.isNone && (l1 b).any uPass then some t else none
theorem hPass_ {h : ExceptHandler} {t : Expr} (e : hPass h = some t) : Ex2 fun p q => h = .ExceptHandler (some t) none [.Pass p] q := by
  cases h with
  | ExceptHandler t' n b q =>
    obtain ⟨u, h1, h2⟩ := bind_ (o := t') e
    obtain ⟨h3, rfl⟩ := bif_ h2
    rw [Bool.and_eq_true] at h3
    obtain ⟨s, h4, h5⟩ := any_ h3.2
    obtain ⟨p, (rfl)⟩ := uPass_ h5
    rw [h1, l1_ h4, Option.isNone_iff_eq_none.mp h3.1]; exact ⟨_, _, rfl⟩
structure TrX where
  x : Str
  call : Expr
  t1 : Expr
  t2 : Expr
  o : List Stmt
noncomputable def yTryX (s : Stmt) : Option TrX := (uTry s).bind fun p => (l1 p.1).bind fun b => (yAsg b).bind fun a => (l1 p.2.1).bind fun h => (hPass h).bind fun t => (vTuple t).bind fun q => (l2 q.1).bind fun ts =>
  bif p.2.2.2.1.isEmpty then some ⟨a.1, a.2, ts.1, ts.2, p.2.2.1⟩ else none
noncomputable def yAsgS (s : Stmt) : Option SwpX := (yTgt s).bind fun p => (vTuple p.1).bind fun q => (l2 q.1).bind fun ab => (vName ab.1).bind fun x => (vName ab.2).bind fun y => (vTuple p.2).bind fun v => (l2 v.1).map fun cd => ⟨x.1, y.1, x.2.line, y.2.line, cd.1, cd.2, v.2.1, v.2.2⟩
noncomputable def yRet (s : Stmt) : Option Expr := (uReturn s).bind (·.1)
noncomputable def yIf (s : Stmt) : Option (Expr × List Stmt × List Stmt) := (uIf s).map fun p => (p.1, p.2.1, p.2.2.1)
noncomputable def yWhl (s : Stmt) : Option (Expr × List Stmt) := (uWhile s).bind fun p => bif p.2.2.1.isEmpty then some (p.1, p.2.1) else none
noncomputable def yForN (s : Stmt) : Option (Str × Expr × List Stmt) := (uFor s).bind fun p => (vName p.1).bind fun q => bif p.2.2.2.1.isEmpty then some (q.1, p.2.1, p.2.2.1) else none
noncomputable def yBrk (s : Stmt) : Bool := (uBreak s).isSome
noncomputable def yCont (s : Stmt) : Bool := (uContinue s).isSome
theorem yTgt_ {s : Stmt} {p : Expr × Expr} (h : yTgt s = some p) : ∃ q, s = .Assign [p.1] p.2 q := by
  obtain ⟨a, h1, h⟩ := bind_ h; obtain ⟨b, h2, rfl⟩ := map_ h
  rw [uAssign_ h1, l1_ h2]; exact ⟨_, rfl⟩
theorem yAsgS_ {s : Stmt} {p : SwpX} (h : yAsgS s = some p) : Ex5 fun q1 q2 k q3 q4 => q1.line = p.px ∧ q2.line = p.py ∧ s = .Assign [.Tuple [.Name p.x q1, .Name p.y q2] k q3] (.Tuple [p.a, p.b] p.k p.p) q4 := by
  obtain ⟨a, h1, h⟩ := bind_ h; obtain ⟨b, h2, h⟩ := bind_ h; obtain ⟨x, h3, h⟩ := bind_ h; obtain ⟨y, h4, h⟩ := bind_ h; obtain ⟨z, h5, h⟩ := bind_ h; obtain ⟨v, h6, h⟩ := bind_ h; obtain ⟨u, h7, rfl⟩ := map_ h
  obtain ⟨q, rfl⟩ := yTgt_ h1
  rw [vTuple_ h2, l2_ h3, vName_ h4, vName_ h5, vTuple_ h6, l2_ h7]
  exact ⟨_, _, _, _, _, rfl, rfl, rfl⟩
theorem yAsgT_ {s : Stmt} {p : List Expr × Expr} (h : yAsgT s = some p) : Ex3 fun k q q' => s = .Assign [.Tuple p.1 k q] p.2 q' := by
  obtain ⟨a, h1, h⟩ := bind_ h; obtain ⟨b, h2, rfl⟩ := map_ h; obtain ⟨q, rfl⟩ := yTgt_ h1
  rw [vTuple_ h2]; exact ⟨_, _, _, rfl⟩
theorem xCompP_ {e : Expr} {p : CmpX × Nat} (h : xCompP e = some p) : ∃ q, q.line = p.2 ∧ e = .ListComp p.1.elt [⟨p.1.tgt, p.1.iter, p.1.ifs, 0⟩] p.1.sc q := by
  obtain ⟨a, h1, h⟩ := bind_ h; obtain ⟨b, h2, (rfl)⟩ := map_ h
  obtain ⟨q, (rfl)⟩ := xComp_ h1
  have h2 := Option.some.inj h2
  subst h2
  exact ⟨q, rfl, rfl⟩
theorem yAsgC_ {s : Stmt} {p : Str × Nat × CmpX × Nat} (h : yAsgC s = some p) : Ex3 fun q q1 q2 => q.line = p.2.1 ∧ q1.line = p.2.2.2 ∧ s = .Assign [.Name p.1 q] (.ListComp p.2.2.1.elt [⟨p.2.2.1.tgt, p.2.2.1.iter, p.2.2.1.ifs, 0⟩] p.2.2.1.sc q1) q2 := by
  obtain ⟨a, h1, h⟩ := bind_ h; obtain ⟨b, h2, h⟩ := bind_ h; obtain ⟨r, h3, rfl⟩ := map_ h; obtain ⟨q, rfl⟩ := yTgt_ h1
  obtain ⟨q1, hq, e⟩ := xCompP_ h3
  rw [vName_ h2, e]; exact ⟨_, _, _, rfl, hq, rfl⟩
theorem yForT_ {s : Stmt} {p : List Expr × Expr × List Stmt} (h : yForT s = some p) : Ex3 fun k q q' => s = .For (.Tuple p.1 k q) p.2.1 p.2.2 [] q' := by
  obtain ⟨a, h1, h⟩ := bind_ h; obtain ⟨b, h2, h⟩ := bind_ h; obtain ⟨h3, rfl⟩ := bif_ h
  rw [uFor_ h1, vTuple_ h2, List.isEmpty_iff.mp h3]; exact ⟨_, _, _, rfl⟩
theorem yTry_ {s : Stmt} {p : List Stmt × List Stmt} (h : yTry s = some p) : Ex3 fun h0 hs q => s = .Try p.1 (h0 :: hs) p.2 [] q := by
  obtain ⟨a, h1, h⟩ := bind_ h; obtain ⟨h3, rfl⟩ := bif_ h
  rw [Bool.and_eq_true] at h3
  obtain ⟨b, hs, o, fb, q⟩ := a
  cases hs with
  | nil => cases h3.1
  | cons x r => rw [uTry_ h1, List.isEmpty_iff.mp h3.2]; exact ⟨_, _, _, rfl⟩
theorem yAsg_ {s : Stmt} {p : Str × Expr} (h : yAsg s = some p) : Ex2 fun q q' => s = .Assign [.Name p.1 q] p.2 q' := by
  obtain ⟨a, h1, h⟩ := bind_ h; obtain ⟨b, h2, rfl⟩ := map_ h; obtain ⟨q, rfl⟩ := yTgt_ h1
  rw [vName_ h2]; exact ⟨_, _, rfl⟩
theorem yTryX_ {s : Stmt} {p : TrX} (h : yTryX s = some p) : Ex7 fun pv pa k q pp hp pos => s = .Try [.Assign [.Name p.x pv] p.call pa] [.ExceptHandler (some (.Tuple [p.t1, p.t2] k q)) none [.Pass pp] hp] p.o [] pos := by
  obtain ⟨a, h1, h⟩ := bind_ h; obtain ⟨b, h2, h⟩ := bind_ h; obtain ⟨v, h3, h⟩ := bind_ h; obtain ⟨e, h4, h⟩ := bind_ h; obtain ⟨t, h5, h⟩ := bind_ h; obtain ⟨q, h6, h⟩ := bind_ h; obtain ⟨ts, h7, h⟩ := bind_ h; obtain ⟨h8, rfl⟩ := bif_ h
  obtain ⟨q1, q2, (rfl)⟩ := yAsg_ h3
  obtain ⟨p1, p2, (rfl)⟩ := hPass_ h5
  rw [uTry_ h1, l1_ h2, l1_ h4, vTuple_ h6, l2_ h7, List.isEmpty_iff.mp h8]; exact ⟨_, _, _, _, _, _, _, rfl⟩
theorem ySet_ {s : Stmt} {p : Expr × Expr × Expr} (h : ySet s = some p) : Ex2 fun q q' => s = .Assign [.Subscript p.1 p.2.1 q] p.2.2 q' := by
  obtain ⟨a, h1, h⟩ := bind_ h; obtain ⟨b, h2, rfl⟩ := map_ h; obtain ⟨q, rfl⟩ := yTgt_ h1
  rw [vSubscript_ h2]; exact ⟨_, _, rfl⟩
theorem yAug_ {s : Stmt} {p : Str × Operator × Expr} (h : yAug s = some p) : Ex2 fun q q' => s = .AugAssign (.Name p.1 q) p.2.1 p.2.2 q' := by
  obtain ⟨a, h1, h⟩ := bind_ h; obtain ⟨b, h2, rfl⟩ := map_ h
  rw [uAugAssign_ h1, vName_ h2]; exact ⟨_, _, rfl⟩
theorem yExpr_ {s : Stmt} {p : Expr} (h : yExpr s = some p) : ∃ q, s = .Expr p q := by
  obtain ⟨a, h1, rfl⟩ := map_ h; exact ⟨_, uExpr_ h1⟩
theorem yRet_ {s : Stmt} {p : Expr} (h : yRet s = some p) : ∃ q, s = .Return (some p) q := by
  obtain ⟨a, h1, h⟩ := bind_ h; rw [uReturn_ h1, h]; exact ⟨_, rfl⟩
theorem yIf_ {s : Stmt} {p : Expr × List Stmt × List Stmt} (h : yIf s = some p) : ∃ q, s = .If p.1 p.2.1 p.2.2 q := by
  obtain ⟨a, h1, rfl⟩ := map_ h; exact ⟨_, uIf_ h1⟩
theorem yWhl_ {s : Stmt} {p : Expr × List Stmt} (h : yWhl s = some p) : ∃ q, s = .While p.1 p.2 [] q := by
  obtain ⟨a, h1, h⟩ := bind_ h; obtain ⟨h3, rfl⟩ := bif_ h
  rw [uWhile_ h1, List.isEmpty_iff.mp h3]; exact ⟨_, rfl⟩
theorem yForN_ {s : Stmt} {p : Str × Expr × List Stmt} (h : yForN s = some p) : Ex2 fun q q' => s = .For (.Name p.1 q) p.2.1 p.2.2 [] q' := by
  obtain ⟨a, h1, h⟩ := bind_ h; obtain ⟨b, h2, h⟩ := bind_ h; obtain ⟨h3, rfl⟩ := bif_ h
  rw [uFor_ h1, vName_ h2, List.isEmpty_iff.mp h3]; exact ⟨_, _, rfl⟩
theorem yBrk_ {s : Stmt} (h : yBrk s = true) : ∃ q, s = .Break q := by
  obtain ⟨u, h⟩ := Option.isSome_iff_exists.mp h; exact ⟨_, uBreak_ h⟩
theorem yCont_ {s : Stmt} (h : yCont s = true) : ∃ q, s = .Continue q := by
  obtain ⟨u, h⟩ := Option.isSome_iff_exists.mp h; exact ⟨_, uContinue_ h⟩
mutual
noncomputable def chkS (K : Tb) : Nat → PS → List Stmt → Bool
  | 0, _, _ => false
  | n + 1, .dead, _ => true
  | n + 1, .skip, ss => ss.isEmpty
  | n + 1, .seq p r, ss => match ss with
    | [] => false
    | s :: rest => chk1 K n p s && chkS K n r rest
  | n + 1, _, _ => false
noncomputable def chk1 (K : Tb) : Nat → PS → Stmt → Bool
  | 0, _, _ => false
  | n + 1, .asg i e, s => (yAsg s).any fun p => nmSt K.names K.cw i p.1 && notComp p.2 && chkE K n e p.2
  | n + 1, .setI o i v, s => (ySet s).any fun p => notComp p.2.2 && chkE K n v p.2.2 && chkE K n o p.1 && chkE K n i p.2.1
  | n + 1, .aug i op e, s => (yAug s).any fun p => nmSt K.names K.cw i p.1 && nmAt K.names i p.1 && decide (op = p.2.1) && chkE K n e p.2.2
  | n + 1, .expr e, s => (yExpr s).any fun p => notComp p && chkE K n e p
  | n + 1, .ret e, s => (yRet s).any fun p => chkE K n e p
  | n + 1, .ifS t a b, s => (yIf s).any fun p => chkT K n t p.1 && chkS K n a p.2.1 && chkS K n b p.2.2
  | n + 1, .whl t b, s => (yWhl s).any fun p => chkT K n t p.1 && chkS K n b p.2
  | n + 1, .forN i it b, s => (yForN s).any fun p => nmSt K.names K.cw i p.1 && notSetE p.2.1 && chkE K n it p.2.1 && chkS K n b p.2.2
  | n + 1, .asgC i e, s => (yAsgC s).any fun p => decide (K.names.lookup p.1 = some .local) && nmSt K.names K.cw i p.1 && p.2.1 == p.2.2.2 && !(p.2.2.1.sc.names.any fun (n, k) => n == p.1 && (k == .local || k == .cell)) && chkCmp K n e p.2.2.1
  | n + 1, .asgT is e, s => (yAsgT s).any fun p => chkTgt K.names K.cw is p.1 && noSwap p.2 && chkE K n e p.2
  | n + 1, .asgS i j e, s => (yAsgS s).any fun p => nmSt K.names K.cw i p.x && nmSt K.names K.cw j p.y && decide (K.names.lookup p.x = some .local) && decide (K.names.lookup p.y = some .local) && p.px == p.py && !(p.x == p.y) && noStar p.a && noStar p.b && !([p.a, p.b].all (foldedForSure 8)) && !([p.a, p.b].all (constantsAlone 8)) && chkE K n e (.Tuple [p.a, p.b] p.k p.p)
  | n + 1, .forT is it b, s => (yForT s).any fun p => chkTgt K.names K.cw is p.1 && notSetE p.2.1 && chkE K n it p.2.1 && chkS K n b p.2.2
  | n + 1, .tryL b o, s => (yTry s).any fun p => chkS K n b p.1 && chkS K n o p.2
  | n + 1, .tryX x, s => (yTryX s).any fun p => (xCall p.call).any fun q => chkE K n (.g (.builtin "len")) (.Name q.1 q.2.1) && (l1 q.2.2).any (fun e => chkE K n x e) && chkE K n (.g (.type "TypeError")) p.t1 && chkE K n (.g (.type "AttributeError")) p.t2
  | n + 1, .brk, s => yBrk s
  | n + 1, .cont, s => yCont s
  | n + 1, _, _ => false
end
noncomputable def nx (c : Cx) (f : Fm) (p : PS) (Q : Flow → St → Prop) (σ : St) : Prop := wpS c f p σ Q
section
variable {c : Cx} {f : Fm} {σ : St} {Q : Flow → St → Prop}
theorem s_nx {p : PS} (h : wpS c f p σ Q) : nx c f p Q σ := h
theorem s_skip (h : Q .next σ) : wpS c f .skip σ Q := h
theorem s_seq {s r : PS} (h : wpS c f s σ (sq (nx c f r Q) Q)) : wpS c f (.seq s r) σ Q := h
theorem s_asg {i : Nat} {e : PE} (h : wpE c f e σ fun v σ => Q .next { σ with vs := σ.vs.set i (some v) }) : wpS c f (.asg i e) σ Q := h
theorem s_setI {o i v : PE} (h : wpE c f v σ fun v σ => wpE c f o σ fun o σ => wpE c f i σ fun i σ => W c f (setItem o i v) σ fun _ σ => Q .next σ) : wpS c f (.setI o i v) σ Q := h
theorem s_aug {i : Nat} {op : Operator} {e : PE} {x : Value} (hx : (σ.vs[i]?).join = some x) (h : wpE c f e σ fun y σ => W c f (inplaceOp op x y) σ fun v σ => Q .next { σ with vs := σ.vs.set i (some v) }) : wpS c f (.aug i op e) σ Q := by
  show (match (σ.vs[i]?).join with | some x => wpE c f e σ fun y σ => W c f (inplaceOp op x y) σ fun v σ => Q .next { σ with vs := σ.vs.set i (some v) } | none => False)
  rw [hx]; exact h
noncomputable def notRef (Q : Flow → St → Prop) (_ : Value) (σ : St) : Prop := Q .next σ
theorem s_expr {e : PE} (h : wpE c f e σ (notRef Q)) : wpS c f (.expr e) σ Q := h
theorem s_ret {e : PE} (h : wpE c f e σ fun v σ => Q (.ret v) σ) : wpS c f (.ret e) σ Q := h
theorem s_if {t : PE} {a b : PS} (h : wpT c f t σ fun z σ => if z = true then nx c f a Q σ else nx c f b Q σ) : wpS c f (.ifS t a b) σ Q := h
theorem s_whl {t : PE} {b : PS} (J : Nat → St → Prop) (n₀ : Nat) (h0 : Frz (J n₀) σ)
    (h : ∀ n σ', Sub σ.g σ'.g → J n σ' → wpT c f t σ' fun z σ1 => if z = true then nx c f b (flowTo σ Q fun σ => ∃ n', n' < n ∧ Frz (J n') σ) σ1 else Q .next σ1) : wpS c f (.whl t b) σ Q := ⟨J, ⟨n₀, h0⟩, h⟩
theorem s_forN {i : Nat} {it : PE} {b : PS} (h : wpE c f it σ fun v σ => Ex6 fun D led n P z zk => σ.led.Perm (D ++ led) ∧ Iter c f { σ with led := led } D v n P z zk ∧ ∃ J : Nat → St → Prop, Frz (J 0) { σ with led := led, sz := zAdd z zk σ.sz } ∧
      (∀ k v σ', k < n → P k v → Sub σ.g σ'.g → J k σ' → nx c f b (flowTo σ Q fun σ => Frz (J (k + 1)) { σ with sz := zAdd z 0 σ.sz }) { σ' with vs := σ'.vs.set i (some v) }) ∧ ∀ σ', Sub σ.g σ'.g → J n σ' → Q .next { σ' with sz := zAdd z 2 σ'.sz }) : wpS c f (.forN i it b) σ Q := h
theorem s_asgC {i : Nat} {e : PE} (h : wpE c f e σ fun v σ => Q .next { σ with vs := σ.vs.set i (some v) }) : wpS c f (.asgC i e) σ Q := h
theorem s_forT {is : List Nat} {it : PE} {b : PS} (h : wpE c f it σ fun v σ => Ex5 fun D led n P D' => σ.led.Perm (D ++ led) ∧ IterT c f { σ with led := led } D v n P D' ∧ ∃ J : Nat → St → Prop, Frz (J 0) { σ with led := led, sz := none } ∧
      (∀ k (vals : Array Value) σ', k < n → P k vals → Sub σ.g σ'.g → J k σ' → vals.size = is.length ∧ nx c f b (flowTo σ Q fun σ => Frz (J (k + 1)) { σ with sz := none }) { σ' with vs := setAll σ'.vs is vals.toList, sz := none }) ∧ ∀ σ', Sub σ.g σ'.g → J n σ' → Q .next { σ' with led := D' ++ σ'.led, sz := none }) : wpS c f (.forT is it b) σ Q := h
theorem s_tryL {b o : PS} (h : wpS c f b σ (sq (nx c f o Q) Q)) : wpS c f (.tryL b o) σ Q := h
theorem s_tryX {x : PE} (h : wpE c f x σ fun v σ => (Ex3 fun I l j => v = .ref I ∧ (I, IsLI l j) ∈ σ.led) ∧ c.kf = true ∧ c.fs.head? = some f.F ∧ Q .next { σ with sz := none }) : wpS c f (.tryX x) σ Q := h
theorem s_brk (h : Q .brk σ) : wpS c f .brk σ Q := h
theorem s_cont (h : Q .cont σ) : wpS c f .cont σ Q := h
end
end
section
open _root_.PySem _root_.PySem.W _root_.PySem.Calls PyProof.Rows
set_option maxRecDepth 100000
theorem scl {e : Expr} {env : Env} {t : Option Expr} {l : Nat} (h : notComp e = true) : swapsWith e t l env = pure false := by
  cases e <;> first | rfl | cases h
theorem swn {e : Expr} {env : Env} {es : List Expr} {k : Nat} {p : Pos} (h : noSwap e = true) : swappedStores [.Tuple es k p] e env = pure none := by
  cases e <;> first | rfl | cases h
section
variable {c : Cx} {f : Fm} {σ : St} {env : Env}
theorem W_Seq {st : Stmt} {rest : List Stmt} {Q : Flow → St → Prop} (H : W c f (exec st env) σ (sq (fun σ => W c f (execs rest env) σ Q) Q)) : W c f (execs (st :: rest) env) σ Q := by
  intro A E h tk r a
  refine wpAny_execs_cons (wpAny_mono (H A E h tk r a) (fun fl s1 p1 => ?_) fun U U e => e)
  cases fl with
  | next => exact Pst.step (t := fun U => execs rest env) r (p1.at (Q' := fun _ σ => W c f (execs rest env) σ Q) fun U U q => q) fun U U p => p
  | brk => exact p1.at fun U U q => q
  | cont => exact p1.at fun U U q => q
  | ret v => exact p1.at fun U U q => q
theorem W_AssignN {K : Tb} (e : EnvOk f env K.names K.cw) {x : Str} {i : Nat} {pv pos : Pos} {v : Expr} {Q : Flow → St → Prop} (hi : nmSt K.names K.cw i x = true) (hv : notComp v = true)
    (H : W c f (eval v env) σ fun v σ => Q .next { σ with vs := σ.vs.set i (some v) }) : W c f (exec (.Assign [.Name x pv] v pos) env) σ Q := by
  intro A E h tk r a
  refine wpAny_Assign_Name (wpAny_mono (H A E h tk r a) (fun v s1 p1 => ?_) fun U U e => e) (scl hv)
  exact Pst.step (t := fun v => storeName env x v) (Q := fun U => Q .next) r (p1.at fun σ' _ q => W_store e hi q) fun U U p => by
    obtain ⟨σ', h', tk', e, a', m, q⟩ := p
    exact ⟨σ', h', tk', e, a', m, q⟩
theorem W_AssignI {o i v : Expr} {pv pos : Pos} {Q : Flow → St → Prop} (hv : notComp v = true)
    (H : W c f (eval v env) σ fun v σ => W c f (eval o env) σ fun o σ => W c f (eval i env) σ fun i σ => W c f (setItem o i v) σ fun _ σ => Q .next σ) : W c f (exec (.Assign [.Subscript o i pv] v pos) env) σ Q := by
  intro A E h tk r a
  refine wpAny_Assign_Subscript (wpAny_mono (H A E h tk r a) (fun v s1 p1 => p1.step r fun o s2 p2 => p2.step r fun i s3 p3 => p3.step r fun U U p => ?_) fun U U e => e) (scl hv)
  obtain ⟨σ', h', tk', e, a', m, q⟩ := p
  exact ⟨σ', h', tk', e, a', m, q⟩
theorem W_AugN {K : Tb} (e : EnvOk f env K.names K.cw) {x : Str} {i : Nat} {pv pos : Pos} {op : Operator} {v : Expr} {y : Value} {Q : Flow → St → Prop} (hi : nmSt K.names K.cw i x = true) (ha : nmAt K.names i x = true) (hy : (σ.vs[i]?).join = some y)
    (H : W c f (eval v env) σ fun z σ => W c f (inplaceOp op y z) σ fun v σ => Q .next { σ with vs := σ.vs.set i (some v) }) : W c f (exec (.AugAssign (.Name x pv) op v pos) env) σ Q := by
  intro A E h tk r a
  have hl : W c f (loadName env x) σ fun w σ' => w = y ∧ σ' = σ := by
    obtain ⟨k, h1, h2, h3, h4⟩ := nmAt_ ha
    obtain ⟨p, hp, hl, hc⟩ := e.at_ i x k h1
    intro A E h tk r a
    have hk : env.kindOf x = some k := by unfold Env.kindOf; rw [e.nm]; exact h2
    rcases h3 with rfl | rfl | ⟨(rfl), h3⟩
    · obtain ⟨m, hn, hm⟩ := a.fr.ns
      exact wpAny_loadName_local (s := mk c.s h tk) e.knd hk (e.loc ▸ hn) ((hm i x (by rw [hp, hl rfl])).trans hy) (.here a ⟨rfl, rfl⟩)
    · obtain ⟨ce, (rfl), hce⟩ := hc (.inl rfl)
      have hx := a.fr.cel i x ce hp
      rw [hy] at hx
      exact wpAny_loadName_cell (s := mk c.s h tk) e.knd hk hce hx (.here a ⟨rfl, rfl⟩)
    · obtain ⟨ce, (rfl), hce⟩ := hc (.inr rfl)
      have hx := a.fr.cel i x ce hp
      rw [hy] at hx
      exact wpAny_loadName_free (s := mk c.s h tk) e.knd hk hce hx (.here a ⟨rfl, rfl⟩) h3
  refine wpAny_AugAssign_Name (wpAny_mono (hl A E h tk r a) (fun w s1 p1 => ?_) fun U U e => e)
  refine Pst.step (t := fun U => eval v env) (Q := fun z σ => W c f (inplaceOp op w z) σ fun v σ => Q .next { σ with vs := σ.vs.set i (some v) }) r (p1.at fun σ' _ q => by obtain ⟨rfl, rfl⟩ := q; exact H) fun z s2 p2 => p2.step r fun v s3 p3 => ?_
  exact Pst.step (t := fun v => storeName env x v) (Q := fun U => Q .next) r (p3.at fun σ' _ q => W_store e hi q) fun U U p => by
    obtain ⟨σ', h', tk', e, a', m, q⟩ := p
    exact ⟨σ', h', tk', e, a', m, q⟩
theorem W_ExprS {x : Expr} {pos : Pos} {Q : Flow → St → Prop} (hk : env.scope.kind = .function) (hx : notComp x = true) (H : W c f (eval x env) σ fun _ σ => Q .next σ) : W c f (exec (.Expr x pos) env) σ Q := by
  intro A E h tk r a
  refine wpAny_Expr_any (wpAny_mono (H A E h tk r a) (fun v s1 p1 => ?_) fun U U e => e) (by unfold interactive; rw [hk]; rfl) (scl hx)
  obtain ⟨σ', h', tk', e, a', m, q⟩ := p1
  exact ⟨σ', h', tk', e, a', m, q⟩
theorem W_Ret {x : Expr} {pos : Pos} {Q : Flow → St → Prop} (H : W c f (eval x env) σ fun v σ => Q (.ret v) σ) : W c f (exec (.Return (some x) pos) env) σ Q :=
  fun A E h tk r a => wpAny_Return_some (wpAny_mono (H A E h tk r a) (fun v s1 p => by
    obtain ⟨σ', h', tk', e, a', m, q⟩ := p
    exact ⟨σ', h', tk', e, a', m, q⟩) fun U U e => e)
theorem W_If {t : Expr} {b o : List Stmt} {pos : Pos} {Q : Flow → St → Prop} (H : W c f (isTrue t env (eval t env)) σ fun z σ => if z = true then W c f (execs b env) σ Q else W c f (execs o env) σ Q) : W c f (exec (.If t b o pos) env) σ Q :=
  fun A E h tk r a => wpAny_If (wpAny_mono (H A E h tk r a) (fun z s1 p1 => p1.stepB r (fun U U U p => p) (fun U U U p => p)) fun U U e => e)
theorem W_While {t : Expr} {b : List Stmt} {pos : Pos} {Q : Flow → St → Prop} (J : Nat → St → Prop) (n₀ : Nat) (h0 : Frz (J n₀) σ)
    (turn : ∀ n σ', Sub σ.g σ'.g → J n σ' → W c f (isTrue t env (eval t env)) σ' fun z σ1 => if z = true then W c f (execs b env) σ1 (flowTo σ Q fun σ => ∃ n', n' < n ∧ Frz (J n') σ) else Q .next σ1) : W c f (exec (.While t b [] pos) env) σ Q := by
  intro A E h tk r a
  obtain ⟨σ0, a0, m0, j0, U⟩ := a.frzK h0
  refine wpAny_While (codeAny_whileLoop (fun n s' => Ex3 fun σ' h' tk' => s' = mk c.s h' tk' ∧ At c f σ' h' ∧ Mv c.fs f.own σ.g σ.led h σ'.g σ'.led h' ∧ J n σ') ?_ n₀ ⟨σ0, h, tk, rfl, a0, m0, j0⟩)
  rintro n s' ⟨σ', h', tk', rfl, a', m', j'⟩
  refine wpAny_mono (turn n σ' m'.gg j' A _ h' tk' r a') (fun z s1 p1 => ?_) fun U U e => e
  cases z with
  | false =>
    obtain ⟨σ1, h1, tk1, rfl, a1, m1, q1⟩ := p1
    exact wpAny_execs_nil ⟨σ1, h1, tk1, rfl, a1, m'.trans m1, q1⟩
  | true =>
    obtain ⟨σ1, h1, tk1, rfl, a1, m1, q1⟩ := p1
    refine wpAny_mono (q1 A _ h1 tk1 r a1) (fun fl s2 p2 => ?_) fun U U e => e
    obtain ⟨σ2, h2, tk2, rfl, a2, m2, q2⟩ := p2
    have mm := (m'.trans m1).trans m2
    cases fl with
    | next =>
      obtain ⟨n', hn, k⟩ := q2
      obtain ⟨σ3, a3, m3, j3, U⟩ := a2.frzK k
      exact ⟨n', hn, σ3, h2, tk2, rfl, a3, mm.trans m3, j3⟩
    | cont =>
      obtain ⟨n', hn, k⟩ := q2
      obtain ⟨σ3, a3, m3, j3, U⟩ := a2.frzK k
      exact ⟨n', hn, σ3, h2, tk2, rfl, a3, mm.trans m3, j3⟩
    | brk => exact ⟨σ2, h2, tk2, rfl, a2, mm, q2⟩
    | ret v => exact ⟨σ2, h2, tk2, rfl, a2, mm, q2⟩
theorem codeAny_forLoop_any {prog : Program} {w : World} {A : Around} {R : Result → Shared → Prop} {s : Shared} {target it body env} (I : Nat → Shared → Prop)
    (turn : ∀ n s, I n s → wpAny (model prog w) A (pyNext it) (fun r s₁ => match r with
      | none => R (.ok .next) s₁
      | some v => wpAny (model prog w) A (letOwnedTupleGo target it v) (fun U s₂ => wpAny (model prog w) A (assign target env v) (fun U s₂ => wpAny (model prog w) A (execs body env) (fun f s₃ => match f with
          | .next | .cont => ∃ m, m < n ∧ I m s₃
          | .brk => R (.ok .next) s₃
          | .ret v => R (.ok (.ret v)) s₃) (notedBy (model prog w) A env fun e s' => R (.error e) s') s₂) (notedBy (model prog w) A env fun e s' => R (.error e) s') s₂) (notedBy (model prog w) A env fun e s' => R (.error e) s') s₁) (notedBy (model prog w) A env fun e s' => R (.error e) s') s)
    (n : Nat) (h : I n s) : codeAny (model prog w) A (.forLoop target it body [] env) R s := by
  refine codeAny_loop' rfl I (fun n s hI => ?_) n h
  show wpAny _ _ ((forTurn target it body [] env).onRaise (fun x => do noteFrame x env; theTreesLotGoes x)) _ _ s
  refine wpAny_noted ?_
  simp only [forTurn]
  refine wpAny_bind (wpAny_standAt (wpAny_bind (wpAny_onRaise (wpAny_mono (turn n s hI) (fun r s₁ h₁ => ?_) fun U U h' => wpAny_standAt h'))))
  cases r with
  | none => exact wpAny_pure (.inr ⟨rfl, codeAny_block (wpAny_execs_nil h₁)⟩)
  | some v =>
    refine wpAny_bind (wpAny_mono h₁ (fun U s₂ h₂ => ?_) fun U U h' => h')
    refine wpAny_bind (wpAny_mono h₂ (fun U s₃ h₃ => wpAny_bind (wpAny_mono h₃ (fun f s₄ h₄ => ?_) fun U U h' => h')) fun U U h' => h')
    cases f with
    | next => exact wpAny_pure (.inl ⟨rfl, h₄⟩)
    | cont => exact wpAny_pure (.inl ⟨rfl, h₄⟩)
    | brk => exact wpAny_pure h₄
    | ret v => exact wpAny_pure h₄
section
variable {R : Result → Shared → Prop} {A : Around} {g h1 h3 : Heap} {LD : Ledger} {fp wr : List Addr} {Sx : Nat → Heap → Prop} {J : Nat → St → Prop} {n tk3 : Nat} {I : Addr} {K : Tb} {Q : Flow → St → Prop} {σx : St} {b : List Stmt} {px : Pos}
  (e : EnvOk f env K.names K.cw) (r : Rk c A) (WI : WkIn c.fs f LD h1 g fp wr Sx)
  (brk : ∀ σ' h4 tk4, At c f σ' h4 → Mv c.fs f.own g LD h1 σ'.g σ'.led h4 → Q .next σ' → R (.ok .next) (mk c.s h4 tk4)) (ret : ∀ v σ' h4 tk4, At c f σ' h4 → Mv c.fs f.own g LD h1 σ'.g σ'.led h4 → Q (.ret v) σ' → R (.ok (.ret v)) (mk c.s h4 tk4))
include e r WI brk ret
theorem forN_loop {x : Str} {i : Nat} {P : Nat → Value → Prop} {z : Bool} (hi : nmSt K.names K.cw i x = true) (Wk : Wk c.prog c.w A I fp wr n P Sx z) (L0 : LInv c f g LD h1 g fp Sx J z 0 h3)
    (turn : ∀ k v σ', k < n → P k v → Sub g σ'.g → J k σ' → W c f (execs b env) { σ' with vs := σ'.vs.set i (some v) } (flowTo σx Q fun σ => Frz (J (k + 1)) { σ with sz := zAdd z 0 σ.sz }))
    (fin : ∀ σ' h4 tk4, At c f { σ' with sz := zAdd z 2 σ'.sz } h4 → Mv c.fs f.own g LD h1 σ'.g σ'.led h4 → J n σ' → R (.ok .next) (mk c.s h4 tk4)) :
    codeAny (model c.prog c.w) A (.forLoop (.Name x px) (.ref I) b [] env) R (mk c.s h3 tk3) := by
  refine codeAny_forLoop_any (CLI c f g LD h1 fp Sx J z n) ?_ (n + 1) ⟨0, h3, tk3, rfl, Nat.zero_le _, rfl, L0⟩
  rintro k s' ⟨j, h', tk', rfl, hj, rfl, L⟩
  by_cases hlt : j < n
  · refine linv_item WI Wk hlt L fun v σ' h4 tk4 hP a4 m4 jj go => ?_
    refine wpAny_of_eq (show letOwnedTupleGo (.Name x px) (.ref I) v = pure () from rfl) ?_
    refine W_pair (Q := fun _ σ'' => σ'' = { σ' with vs := σ'.vs.set i (some v) }) (fun A E h tk r a => assign_Name (W_store e hi rfl A E h tk r a)) r a4 fun _ σ5 h5 tk5 a5 m5 q5 => ?_
    subst q5
    refine W_pair (turn j v σ' hlt hP m4.gg jj) r a5 fun fl σ6 h6 tk6 a6 m6 q6 => ?_
    obtain ⟨m16, go⟩ := go σ6 h6 a6 (m5.trans m6)
    cases fl with
    | next => exact CLI.next hlt (go q6)
    | cont => exact CLI.next hlt (go q6)
    | brk => exact brk _ _ _ a6 m16 q6
    | ret v => exact ret _ _ _ _ a6 m16 q6
  · cases Nat.le_antisymm hj (Nat.not_lt.mp hlt)
    exact linv_done WI Wk L fin
theorem forT_loop {es : List Expr} {k0 : Nat} {is : List Nat} {P : Nat → Array Value → Prop} {D' : Ledger} {Mid : Nat → Addr → Heap → Prop} (hi : chkTgt K.names K.cw is es = true) (Wk : WkT c.prog c.w A I fp wr n P Sx Mid D') (L0 : LInv c f g LD h1 g fp Sx J false 0 h3)
    (turn : ∀ k (vals : Array Value) σ', k < n → P k vals → Sub g σ'.g → J k σ' → vals.size = is.length ∧ W c f (execs b env) { σ' with vs := setAll σ'.vs is vals.toList, sz := none } (flowTo σx Q fun σ => Frz (J (k + 1)) { σ with sz := none }))
    (fin : ∀ σ' h4 tk4, At c f { σ' with led := D' ++ σ'.led, sz := none } h4 → Mv c.fs f.own g LD h1 σ'.g (D' ++ σ'.led) h4 → J n σ' → Sub g σ'.g → R (.ok .next) (mk c.s h4 tk4)) :
    codeAny (model c.prog c.w) A (.forLoop (.Tuple es k0 px) (.ref I) b [] env) R (mk c.s h3 tk3) := by
  refine codeAny_forLoop_any (CLI c f g LD h1 fp Sx J false n) ?_ (n + 1) ⟨0, h3, tk3, rfl, Nat.zero_le _, rfl, L0⟩
  rintro k s' ⟨j, h', tk', rfl, hj, rfl, L⟩
  by_cases hlt : j < n
  · refine linv_itemT (elts := es) (k0 := k0) (pos := px) WI Wk hlt L fun T vals h2 tk2 K => K _ _ fun σ' h4 hP hT a4 m4 jj go => ?_
    obtain ⟨hl, tr⟩ := turn j vals σ' hlt hP m4.gg jj
    refine W_tgt e r a4 hT hi hl fun h5 tk5 a5 m5 => W_pair tr r a5.sz0 fun fl σ6 h6 tk6 a6 m6 q6 => ?_
    obtain ⟨m16, go⟩ := go σ6 h6 a6 (m5.trans m6)
    cases fl with
    | next => exact CLI.next hlt (go q6)
    | cont => exact CLI.next hlt (go q6)
    | brk => exact brk _ _ _ a6 m16 q6
    | ret v => exact ret _ _ _ _ a6 m16 q6
  · cases Nat.le_antisymm hj (Nat.not_lt.mp hlt)
    exact linv_doneT WI Wk L fin
end
theorem W_ForN {K : Tb} (e : EnvOk f env K.names K.cw) {x : Str} {i : Nat} {px pos : Pos} {it : Expr} {b : List Stmt} {Q : Flow → St → Prop} (hi : nmSt K.names K.cw i x = true) (hs : notSetE it = true)
    (H : W c f (eval it env) σ fun v σ => Ex6 fun D led n P z zk => σ.led.Perm (D ++ led) ∧ Iter c f { σ with led := led } D v n P z zk ∧ ∃ J : Nat → St → Prop, Frz (J 0) { σ with led := led, sz := zAdd z zk σ.sz } ∧
      (∀ k v σ', k < n → P k v → Sub σ.g σ'.g → J k σ' → W c f (execs b env) { σ' with vs := σ'.vs.set i (some v) } (flowTo σ Q fun σ => Frz (J (k + 1)) { σ with sz := zAdd z 0 σ.sz })) ∧ ∀ σ', Sub σ.g σ'.g → J n σ' → Q .next { σ' with sz := zAdd z 2 σ'.sz }) :
    W c f (exec (.For (.Name x px) it b [] pos) env) σ Q := by
  intro A E h tk r a
  refine wpAny_For (wpAny_mono (H A E h tk r a) (fun v s1 p1 => ?_) fun U U e => e) (fsi hs)
  obtain ⟨σ0, h1, tk1, rfl, a0, m01, D, led, n, P, z, zk, hD, hI, J, j0, turn, done⟩ := p1
  refine hI A E h1 tk1 _ r ⟨a0.hp.perm hD, a0.fr⟩ fun I fp wr Sx h2 tk2 Wk s0 S2 hz hfp hwr hex => ?_
  obtain ⟨a2, m12, WI, off⟩ := iter_in a0 hD s0 S2 hz hfp hwr Wk.sub hex
  have m1 : Mv c.fs f.own σ.g σ.led h σ0.g (D ++ led) h1 := m01.perm (.refl _) hD
  exact forN_loop e r WI (fun σ' h4 tk4 a m q => ⟨σ', h4, tk4, rfl, a, m1.trans m, q⟩) (fun v σ' h4 tk4 a m q => ⟨σ', h4, tk4, rfl, a, m1.trans m, q⟩) hi Wk (linv_start WI a2 m12 s0 off j0 fun e => by subst e; rfl) turn
    fun σ' h4 tk4 a m jj => ⟨_, h4, tk4, rfl, a, m1.trans m, done σ' m.gg jj⟩
theorem W_ForT {K : Tb} (e : EnvOk f env K.names K.cw) {es : List Expr} {is : List Nat} {k0 : Nat} {px pos : Pos} {it : Expr} {b : List Stmt} {Q : Flow → St → Prop} (hi : chkTgt K.names K.cw is es = true) (hs : notSetE it = true)
    (H : W c f (eval it env) σ fun v σ => Ex5 fun D led n P D' => σ.led.Perm (D ++ led) ∧ IterT c f { σ with led := led } D v n P D' ∧ ∃ J : Nat → St → Prop, Frz (J 0) { σ with led := led, sz := none } ∧
      (∀ k (vals : Array Value) σ', k < n → P k vals → Sub σ.g σ'.g → J k σ' → vals.size = is.length ∧ W c f (execs b env) { σ' with vs := setAll σ'.vs is vals.toList, sz := none } (flowTo σ Q fun σ => Frz (J (k + 1)) { σ with sz := none })) ∧ ∀ σ', Sub σ.g σ'.g → J n σ' → Q .next { σ' with led := D' ++ σ'.led, sz := none }) :
    W c f (exec (.For (.Tuple es k0 px) it b [] pos) env) σ Q := by
  intro A E h tk r a
  refine wpAny_For (wpAny_mono (H A E h tk r a) (fun v s1 p1 => ?_) fun U U e => e) (fsi hs)
  obtain ⟨σ0, h1, tk1, rfl, a0, m01, D, led, n, P, D', hD, hI, J, j0, turn, done⟩ := p1
  refine hI A E h1 tk1 _ r ⟨a0.hp.perm hD, a0.fr⟩ fun I fp wr Sx Mid h2 tk2 Wk s0 S2 hfp hwr hex => ?_
  obtain ⟨a2, m12, WI, off⟩ := iter_in (z := false) (zk := 0) a0 hD s0 S2 (fun e => nomatch e) hfp hwr Wk.sub hex
  have m1 : Mv c.fs f.own σ.g σ.led h σ0.g (D ++ led) h1 := m01.perm (.refl _) hD
  exact forT_loop e r WI (fun σ' h4 tk4 a m q => ⟨σ', h4, tk4, rfl, a, m1.trans m, q⟩) (fun v σ' h4 tk4 a m q => ⟨σ', h4, tk4, rfl, a, m1.trans m, q⟩) hi Wk (linv_start WI a2 m12 s0 off j0 fun U => rfl) turn
    fun σ' h4 tk4 a m jj S => ⟨{ σ' with led := D' ++ σ'.led, sz := none }, h4, tk4, rfl, a, m1.trans m, done σ' S jj⟩
theorem IsT.isTuple {h g : Heap} {T : Addr} {o : Obj} {vals : List Value} (S : Sub g h) (e : g.get? T = some o) (q : IsT vals o) : h.IsTuple T vals.toArray := by
  subst q
  exact ⟨_, S _ _ e, rfl, 0, rfl⟩
theorem W_AsgT {K : Tb} (e : EnvOk f env K.names K.cw) {es : List Expr} {is : List Nat} {k0 : Nat} {px pos : Pos} {v : Expr} {Q : Flow → St → Prop} (hi : chkTgt K.names K.cw is es = true) (hv : noSwap v = true)
    (H : W c f (eval v env) σ fun v σ => UnpOk σ v is.length fun vals => Q .next { σ with vs := setAll σ.vs is vals, sz := szUp σ 3 }) : W c f (exec (.Assign [.Tuple es k0 px] v pos) env) σ Q := by
  intro A E h tk r a
  refine Assign_Tuple (W_pair H r a fun v1 σ1 h1 tk1 a1 m1 q1 => ?_) (scl (env := env) (t := some (.Tuple es k0 px)) (l := pos.line) (Bool.and_eq_true_iff.mp hv).1) (swn hv)
  obtain ⟨T, vals, o, rfl, e1, e2, e3, q⟩ := q1
  refine W_tgt e r a1 (e2.isTuple a1.hp.sub e1) hi (by simpa using e3) fun h5 tk5 a5 m5 => ?_
  exact ⟨_, h5, tk5, rfl, a5, m1.trans m5, q⟩
theorem swap_two {x y : Str} {p q px pp : Pos} {ea eb : Expr} {k0 kk : Nat} (hk : env.scope.kind = .function) (kx : env.kindOf x = some .local) (ky : env.kindOf y = some .local) (hl : (p.line == q.line) = true) (hne : (x == y) = false)
    (hA : ∀ t p, ea ≠ .Starred t p) (hB : ∀ t p, eb ≠ .Starred t p) (hf : ([ea, eb].all (foldedForSure 8)) = false) (hc : ([ea, eb].all (constantsAlone 8)) = false) :
    swappedStores [.Tuple [.Name x p, .Name y q] k0 px] (.Tuple [ea, eb] kk pp) env = pure (some [x, y]) := by
  have hb : env.blockKind = .function := by unfold Env.blockKind; rw [hk]; rfl
  have hyx : ¬ y = x := fun z => by rw [z] at hne; simp at hne
  have hq : (q.line == p.line) = true := by rw [beq_iff_eq] at hl ⊢; exact hl.symm
  unfold swappedStores
  dsimp only
  rw [hb]
  refine (if_neg Bool.false_ne_true).trans ((if_neg fun h => ?_).trans ?_)
  · rw [List.any_cons, List.any_cons, List.any_nil, Bool.or_false, Bool.or_eq_true] at h
    rcases h with h | h
    · cases ea with
      | Starred a b => exact hA _ _ rfl
      | _ => exact Bool.false_ne_true h
    · cases eb with
      | Starred a b => exact hB _ _ rfl
      | _ => exact Bool.false_ne_true h
  · generalize hN : List.filterMap _ _ = N
    obtain rfl : N = [x, y] := by
      refine hN.symm.trans ((List.filterMap_cons_some ?_).trans (congrArg (x :: ·) ((List.filterMap_cons_some ?_).trans (congrArg (y :: ·) List.filterMap_nil))))
      · exact if_pos (by rw [kx]; show (true && p.line == p.line) = true; rw [beq_self_eq_true]; rfl)
      · exact if_pos (by rw [ky]; show (true && q.line == p.line) = true; rw [hq]; rfl)
    rw [hf, hc]
    refine (if_neg ?_).trans rfl
    rw [List.eraseDups_cons, List.filter_cons_of_pos (by simp [hyx]), List.filter_nil, List.eraseDups_cons, List.filter_nil, List.eraseDups_nil]
    exact Bool.false_ne_true
theorem W_two {x y : Str} {i j : Nat} {K : Tb} (e : EnvOk f env K.names K.cw) (hi : nmSt K.names K.cw i x = true) (hj : nmSt K.names K.cw j y = true) {v1 v2 : Value} : W c f (assignInOrder ([x, y].reverse.map fun n => bindName env n) [v2, v1]) σ fun _ σ' => σ' = { σ with vs := (σ.vs.set j (some v2)).set i (some v1) } := by
  intro A E h tk r a
  show wpAny _ A (do holding [v1] (bindName env y v2); assignInOrder [bindName env x] [v1]) _ _ _
  refine wpAny_bind (wpAny_holding (W_pair (W_bindName (Q := fun _ σ' => σ' = { σ with vs := σ.vs.set j (some v2) }) e hj rfl) r a fun _ σ3 h3 tk3 a3 m3 q3 => ?_))
  subst q3
  show wpAny _ A (do holding [] (bindName env x v1); assignInOrder [] []) _ _ _
  refine wpAny_bind (wpAny_holding (W_pair (W_bindName (Q := fun _ σ' => σ' = { σ with vs := (σ.vs.set j (some v2)).set i (some v1) }) e hi rfl) r a3 fun _ σ4 h4 tk4 a4 m4 q4 => wpAny_pure ?_))
  exact ⟨σ4, h4, tk4, rfl, a4, m3.trans m4, q4⟩
theorem W_AsgS {K : Tb} (e : EnvOk f env K.names K.cw) {x y : Str} {i j k0 : Nat} {p q px pos : Pos} {V : Expr} {Q : Flow → St → Prop} (hi : nmSt K.names K.cw i x = true) (hj : nmSt K.names K.cw j y = true)
    (hsw : swappedStores [.Tuple [.Name x p, .Name y q] k0 px] V env = pure (some [x, y])) (hss : swapsWithSole [.Tuple [.Name x p, .Name y q] k0 px] V pos.line env = pure false)
    (H : W c f (eval V env) σ fun v σ => Ex4 fun T v1 v2 o => v = .ref T ∧ σ.g.get? T = some o ∧ IsT [v1, v2] o ∧ Q .next { σ with vs := (σ.vs.set j (some v2)).set i (some v1), sz := szUp σ 3 }) : W c f (exec (.Assign [.Tuple [.Name x p, .Name y q] k0 px] V pos) env) σ Q := by
  intro A E h tk r a
  refine Assign_Tuple_swapped (names := [x, y]) (W_pair H r a fun v1 σ1 h1 tk1 a1 m1 q1 => ?_) hss hsw
  obtain ⟨T, v1, v2, o, rfl, e1, e2, q⟩ := q1
  have hT : h1.IsTuple T #[v1, v2] := e2.isTuple a1.hp.sub e1
  have fin : ∀ h', Sub h1 h' → h'.objs.size = h1.objs.size + 3 → wpAny (model c.prog c.w) A (assignInOrder ([x, y].reverse.map fun n => bindName env n) [v2, v1]) (fun U s' => Pst c f σ h Q .next s') E (mk c.s h' tk1) := fun h' S hz => by
    refine W_pair (W_two e hi hj (v1 := v1) (v2 := v2)) r (a1.up S hz) fun _ σ4 h4 tk4 a4 m4 q4 => ?_
    subst q4
    exact ⟨_, h4, tk4, rfl, a4, (m1.trans (Mv.grow S)).trans m4, q⟩
  exact unpack_tup (s := mk c.s h1 tk1) (items := #[v1, v2]) r.none hT fun h' S hz => fin h' S hz
theorem W_AsgC {K : Tb} (e : EnvOk f env K.names K.cw) {n : Nat} (O : Ok c f K env) {pe : PE} {p : CmpX} {x : Str} {i : Nat} {px q pos : Pos} {Q : Flow → St → Prop} (hx : K.names.lookup x = some .local) (hi : nmSt K.names K.cw i x = true) (hl : (px.line == q.line) = true)
    (hn : (p.sc.names.any fun (n, k) => n == x && (k == .local || k == .cell)) = false) (hc : chkCmp K n pe p = true) (H : wpE c f pe σ fun v σ => Q .next { σ with vs := σ.vs.set i (some v) }) :
    W c f (exec (.Assign [.Name x px] (.ListComp p.elt [⟨p.tgt, p.iter, p.ifs, 0⟩] p.sc q) pos) env) σ Q := by
  have kx : env.kindOf x = some .local := by unfold Env.kindOf; rw [e.nm]; exact hx
  have hb : env.blockKind = .function := by unfold Env.blockKind; rw [e.knd]; rfl
  have hsw : swapsWith (.ListComp p.elt [⟨p.tgt, p.iter, p.ifs, 0⟩] p.sc q) (some (.Name x px)) pos.line env = pure true := by
    show (pure (env.blockKind == .function && env.kindOf x == some .local && px.line == q.line && !(p.sc.names.any fun (n, k) => n == x && (k == .local || k == .cell))) : Sem Bool) = _
    rw [hb, kx, hl, hn]; rfl
  have S := snd' (c := c) n n (Nat.le_refl _)
  have U : ∀ v σ', Q .next { σ' with vs := σ'.vs.set i (some v) } → UseOk c f (some (assign (.Name x px) env)) v σ' fun _ σ'' => Q .next σ'' := fun v σ' z =>
    fun A E hh tk r a => assign_Name (W_store e hi z A E hh tk r a)
  have go : W c f (comprehension (.ListComp p.elt [⟨p.tgt, p.iter, p.ifs, 0⟩] p.sc q) p.sc env (firstIterPos [⟨p.tgt, p.iter, p.ifs, 0⟩] q) (newList []) false (eval p.iter env) (some (assign (.Name x px) env))) σ fun _ σ' => Q .next σ' := comp_chk S O hc U H
  intro A E h tk r a
  rw [exec_Assign_Name_used _ _ _ _ hsw]
  refine wpAny_bind (wpAny_standAt (wpAny_bind ?_))
  show wpAny _ A (do let _ ← comprehension _ _ _ _ _ _ _ _) _ _ _
  refine wpAny_bind (W_pair go r a fun _ σ1 h1 tk1 a1 m1 q1 => wpAny_pure (wpAny_pure ?_))
  exact ⟨σ1, h1, tk1, rfl, a1, m1, q1⟩
theorem W_TryL {b o : List Stmt} {h0 : ExceptHandler} {hs : List ExceptHandler} {pos : Pos} {Q : Flow → St → Prop} (H : W c f (execs b env) σ (sq (fun σ => W c f (execs o env) σ Q) Q)) : W c f (exec (.Try b (h0 :: hs) o [] pos) env) σ Q := by
  intro A E h tk r a
  refine wpAny_Try_except (W_pair H r a fun fl σ1 h1 tk1 a1 m1 q1 => ?_)
  cases fl with
  | next => exact W_pair q1 r a1 fun fl σ2 h2 tk2 a2 m2 q2 => ⟨σ2, h2, tk2, rfl, a2, m1.trans m2, q2⟩
  | brk => exact ⟨σ1, h1, tk1, rfl, a1, m1, q1⟩
  | cont => exact ⟨σ1, h1, tk1, rfl, a1, m1, q1⟩
  | ret v => exact ⟨σ1, h1, tk1, rfl, a1, m1, q1⟩
end
noncomputable def SlUp (fs : List Addr) (h h' : Heap) : Prop := ∀ b o, h.get? b = some o → h'.get? b = some o ∨ (b ∈ fs ∧ ∃ sl, h'.get? b = some { o with slots := sl })
theorem isDic_nf {o : Obj} (x : IsDic o) : ∀ vs, o.data ≠ .fields vs := by
  obtain ⟨es, ep, h⟩ := x
  intro vs e; rw [h] at e; cases e
section
variable {c : Cx} {f : Fm} {σ : St} {env : Env}
theorem At.slots {h h' : Heap} (a : At c f σ h) (S : SlUp c.fs h h') : At c f { σ with sz := none } h' ∧ Mv c.fs f.own σ.g σ.led h σ.g σ.led h' := by
  have K : ∀ b o, h.get? b = some o → ∃ sl, h'.get? b = some { o with slots := sl } := fun b o e => by
    rcases S b o e with x | ⟨U, x⟩
    · exact ⟨o.slots, x⟩
    · exact x
  have off : ∀ b o, h.get? b = some o → b ∉ c.fs → h'.get? b = some o := fun b o e n => by
    rcases S b o e with x | ⟨x, U⟩
    · exact x
    · exact absurd x n
  refine ⟨⟨⟨a.hp.gr, fun b o e => off b o (a.hp.sub b o e) fun q => ?_, fun p hp => ?_, fun b hb => ?_, a.hp.offO, a.hp.offL, a.hp.nd, a.hp.ap, a.hp.oa, fun b hb => ?_, fun n e => nomatch e⟩, a.fr.keepS fun b U o e => K b o e⟩, ⟨Sub.refl _, fun b o e U U => S b o e, fun b o e U => ?_, fun U U e => .inl e, fun U e => .inl e⟩⟩
  · have := (a.hp.frm b q).2.1; rw [e] at this; cases this
  · obtain ⟨o, e, q⟩ := a.hp.ld p hp
    exact ⟨o, off _ _ e fun z => (a.hp.frm _ z).2.2 (List.mem_map_of_mem hp), q⟩
  · obtain ⟨o, e⟩ := a.hp.here b hb
    obtain ⟨sl, e⟩ := K b o e; exact ⟨_, e⟩
  · obtain ⟨⟨o, e, es, ep, hd⟩, r⟩ := a.hp.frm b hb
    obtain ⟨sl, e⟩ := K b o e; exact ⟨⟨_, e, es, ep, hd⟩, r⟩
  · obtain ⟨sl, e⟩ := K b o e; exact ⟨_, e⟩
theorem funFrames {h h1 base : Heap} (S : Sub h h1) : ∀ (l : List Env) (fs : List Addr), l.map (·.frame) = fs.map some → (∀ e ∈ l, e.scope.kind ≠ .module) → (∀ a ∈ fs, (∃ o, h.get? a = some o ∧ IsDic o) ∧ base.get? a = none) → h1.FunFrames base l ∧ l.filterMap (·.frame) = fs
  | [], fs, e, _, _ => by
    cases fs with
    | nil => exact ⟨trivial, rfl⟩
    | cons _ _ => cases e
  | env :: l, fs, e, hk, hf => by
    cases fs with
    | nil => cases e
    | cons F fs =>
      obtain ⟨e1, e2⟩ := List.cons.inj e
      obtain ⟨i1, i2⟩ := funFrames S l fs e2 (fun x hx => hk x (.tail _ hx)) fun a ha => hf a (.tail _ ha)
      obtain ⟨⟨o, eo, hd⟩, hb⟩ := hf F (.head _)
      refine ⟨⟨hk env (.head _), ⟨F, o, e1, hb, S _ _ eo, isDic_nf hd⟩, i1⟩, ?_⟩
      have e1 : env.frame = some F := e1
      rw [List.filterMap_cons, e1, i2]
theorem len_no {A : Around} {E : Value → Shared → Prop} {I : Addr} {s : Shared} {Q : Value → Shared → Prop} (hh : A.handled = none) (hT : s.TypeIs (.ref I) "list_iterator")
    (k : ∀ h' tk e, Heap.NewExc s.heap h' e "TypeError" → E (.ref e) { s with heap := h', toks := tk }) : wpAny (model c.prog c.w) A (call (.builtin "len") [.ref I]) Q E s := by
  refine call_function_entry kind_len plain_len entry_len (args_len1 _) ?_
  unfold Builtin.«len»
  refine wpAny_bind (m := oneArg "len" _) (wpAny_pure ?_)
  refine wpAny_bind (m := callSpecial? (.ref I) (Str.ofString "__len__")) (wpAny_callSpecial?_none (name := Str.ofString "__len__") hT F.nolen_li ?_)
  refine wpAny_bind (wpAny_rule (wpAny_bind (wpAny_typeNameOf' hT (by decide) ?_)))
  exact wpAny_raiseErrorMade plainExc_TypeError hh k (by first | size_fits | decide)
theorem glob_any {K : Tb} (e : EnvOk f env K.names K.cw) (T : TabOk c.w K.tab) {n : Nat} {v : Value} {x : Expr} (h : chkE K n (.g v) x = true) {A : Around} {E : Value → Shared → Prop} {s : Shared} {Q : Value → Shared → Prop} (G : Gr c.w s.heap) (q : Q v s) :
    wpAny (model c.prog c.w) A (eval x env) Q E s := by
  cases n with
  | zero => cases h
  | succ n =>
    obtain ⟨x, h1, h2⟩ := any_ (o := xName x) h
    obtain ⟨p, rfl⟩ := xName_ h1
    simp only [Bool.and_eq_true, decide_eq_true_eq, Bool.not_eq_true'] at h2
    have hk : env.kindOf x = some .globalImplicit := by unfold Env.kindOf; rw [e.nm]; exact h2.1.1
    rcases T x v h2.1.2 with hv | hv
    · exact Calls.Name_function_global e.knd hk (Calls.loadGlobal_global (e.glo ▸ G.glob) hv q) h2.2
    · exact Calls.Name_function_global e.knd hk (Calls.loadGlobal_builtin (e.glo ▸ G.glob) hv.1 (e.bui ▸ G.bui) hv.2 q) h2.2
theorem glob_star {K : Tb} {n : Nat} {v : Value} {x : Expr} (h : chkE K n (.g v) x = true) (rest : List Expr) (env : Env) : starEach (x :: rest) env = (false, eval x env) :: starEach rest env := by
  cases n with
  | zero => cases h
  | succ n =>
    obtain ⟨x, h1, h2⟩ := any_ (o := xName x) h
    obtain ⟨p, rfl⟩ := xName_ h1
    rfl
theorem W_TryX {K : Tb} (e : EnvOk f env K.names K.cw) (T : TabOk c.w K.tab) {n : Nat} {x fx : Str} {px pa pf pc k0p pp hp pos : Pos} {ex t1 t2 : Expr} {k0 : Nat} {o : List Stmt} {Q : Flow → St → Prop}
    (hx : starEach [ex] env = [(false, eval ex env)]) (hl : chkE K n (.g (.builtin "len")) (.Name fx pf) = true) (h1' : chkE K n (.g (.type "TypeError")) t1 = true) (h2' : chkE K n (.g (.type "AttributeError")) t2 = true)
    (H : W c f (eval ex env) σ fun v σ => (Ex3 fun I l j => v = .ref I ∧ (I, IsLI l j) ∈ σ.led) ∧ c.kf = true ∧ c.fs.head? = some f.F ∧ Q .next { σ with sz := none }) :
    W c f (exec (.Try [.Assign [.Name x px] (.Call (.Name fx pf) [ex] [] pc) pa] [.ExceptHandler (some (.Tuple [t1, t2] k0 k0p)) none [.Pass pp] hp] o [] pos) env) σ Q := by
  intro A E h tk r a
  have G0 : Gr c.w h := a.hp.gr.sub a.hp.sub
  refine wpAny_Try_except (wpAny_execs_cons (wpAny_Assign_Name (Call_ (glob_any e T hl G0 (callWith_builtin1 (spliced_more (W_pair H r a fun v σ1 h1 tk1 a1 m1 q1 => ?_) (by rw [hx]; rfl)) hx rfl))) rfl))
  obtain ⟨⟨I, l, j, rfl, hI⟩, kf, hF, q⟩ := q1
  obtain ⟨oI, eI, cI, dI⟩ := a1.hp.ld _ hI
  refine spliced_nil (len_no (s := mk c.s h1 tk1) r.none ⟨oI, eI, cI⟩ fun h2 tk2 x N => ?_)
  obtain ⟨oe, t, ee, ec, ed⟩ := N.there
  obtain ⟨lf, fr1, fr2, fr3⟩ := r.frs kf
  have S12 : Sub h1 h2 := N.keeps
  obtain ⟨ff, ffm⟩ := funFrames (base := only h1 fun b => !c.fs.contains b) S12 lf c.fs fr2 fr3 fun b hb => ⟨(a1.hp.frm b hb).1, by
    cases z : (only h1 fun b => !c.fs.contains b).get? b with
    | none => rfl
    | some o => have := only_p z; simp [hb] at this⟩
  have hlf : ∃ rest, lf = (lf.headD env) :: rest ∧ (lf.headD env).frame = some f.F := by
    cases lf with
    | nil => 
      cases hq : c.fs with
      | nil => rw [hq] at hF; cases hF
      | cons _ _ => rw [hq] at fr2; cases fr2
    | cons e0 rest =>
      refine ⟨rest, rfl, ?_⟩
      cases hq : c.fs with
      | nil => rw [hq] at hF; cases hF
      | cons F' _ =>
        rw [hq] at fr2 hF
        exact (List.cons.inj fr2).1.trans hF
  obtain ⟨rest, hl1, hl2⟩ := hlf
  generalize lf.headD env = e0 at hl1 hl2
  subst hl1
  have hfo : PySem.frameOf env = PySem.frameOf e0 := by unfold PySem.frameOf; rw [e.frm, hl2]
  have hnew : (only h1 fun b => !c.fs.contains b).get? x = none := by
    cases z : (only h1 fun b => !c.fs.contains b).get? x with
    | none => rfl
    | some o => have := only_sub _ _ z; rw [N.new] at this; cases this
  show wpAny _ A (noteFrame (.ref x) env) (fun U s₂ => wpAny _ A (setFlight (.ref x) none) _ E s₂) E _
  unfold noteFrame
  simp only [e.frm]
  refine wpAny_bind (wpAny_field ee ed (x := .none) (by rfl) ?_)
  rw [if_neg (by decide), hfo]
  refine wpAny_newEntry (base := only h1 fun b => !c.fs.contains b) (s := { mk c.s h1 tk1 with heap := h2, toks := tk2 }) fr1 ff hl2 ee (fun b o q => S12 _ _ (only_sub _ _ q)) hnew ed (by simp) fun h3 L3 => ?_
  obtain ⟨L1, L2, ⟨oe3, vs3, T3, oT3, ts3, te, tc, td, t1', tb, tne, tT, tdT, t3⟩, L4⟩ := L3
  have G3 : ∀ h', Sub (only h1 fun b => !c.fs.contains b) h' → Gr c.w h' := fun h' S => a1.hp.gr.sub fun b o q => S b o (only_get (a1.hp.sub b o q) (by
    simp only [Bool.not_eq_true', List.contains_eq_mem, decide_eq_false_iff_not]
    intro z; have := (a1.hp.frm b z).2.1; rw [q] at this; cases this))
  refine wpAny_handleBy_tup2 (X := "TypeError") (T1 := "TypeError") (T2 := "AttributeError") (b1 := true) (b2 := false) (isSubtype_of_subB (by decide +kernel)) (isSubtype_of_subB (by decide +kernel)) (isSubtype_of_subB (by decide +kernel)) (isSubtype_of_subB (by decide +kernel))
    (isSubtype_of_subB (by decide +kernel)) (isSubtype_of_subB (by decide +kernel)) ?_
  refine Tuple_ (spliced_more (glob_any e T h1' (G3 h3 L1) (spliced_more (glob_any e T h2' (G3 h3 L1) (spliced_nil ?_)) (glob_star h2' [] env))) (glob_star h1' [t2] env))
  refine wpAny_newObj_type ⟨_, rfl, IsTup.new _ _, ⟨oe3, Heap.get?_push_of_some _ te, tc.trans ec⟩, ?_⟩ (by show 2 ≤ sizeLine; rw [sizeLine_eq]; decide)
  rw [if_pos (by decide)]
  refine wpAny_setFlight_none (Heap.get?_push_of_some _ te) td t1' (Heap.get?_push_of_some _ tT) tdT (Array.getElem?_eq_some_iff.mp t3).1 ?_
  refine wpAny_execs_cons ?_
  rw [arm_exec_Pass]
  refine wpAny_bind (wpAny_standAt (wpAny_pure (wpAny_execs_nil ?_)))
  have S13 : SlUp c.fs h1 ((h3.push { cls := .type "tuple", dict := none, data := .seq [Value.type "TypeError", .type "AttributeError"].toArray }).update T3 (Obj.mapFields (·.setIfInBounds 3 Value.none))) := fun b o q => by
    by_cases z : b ∈ c.fs
    · obtain ⟨⟨o', q', hd⟩, U⟩ := a1.hp.frm b z
      rw [q] at q'; cases q'
      obtain ⟨sl, q3⟩ := L4 b o (S12 _ _ q) (isDic_nf hd)
      refine .inr ⟨z, sl, (Heap.get?_update_ne _ _ _ _ ?_).trans (Heap.get?_push_of_some _ q3)⟩
      rintro rfl
      rw [tT] at q3; cases q3
      exact isDic_nf hd _ tdT
    · have qb : (only h1 fun b => !c.fs.contains b).get? b = some o := only_get q (by simpa using z)
      refine .inl ((Heap.get?_update_ne _ _ _ _ ?_).trans (Heap.get?_push_of_some _ (L1 _ _ qb)))
      rintro rfl
      rw [tb] at qb; cases qb
  obtain ⟨a4, m4⟩ := a1.slots S13
  exact ⟨_, _, tk2, rfl, a4, m1.trans m4, q⟩
end
structure SnS (c : Cx) (f : Fm) (K : Tb) (env : Env) (n : Nat) (ps : PS) : Prop where
  s : ∀ ss σ Q, chkS K n ps ss = true → wpS c f ps σ Q → W c f (execs ss env) σ Q
  i : ∀ s σ Q, chk1 K n ps s = true → wpS c f ps σ Q → W c f (exec s env) σ Q
theorem SnS.x {c : Cx} {f : Fm} {K : Tb} {env : Env} {n : Nat} {ps : PS} (hs : ∀ ss, chkS K n ps ss = false) (h : ∀ s σ Q, chk1 K n ps s = true → wpS c f ps σ Q → W c f (exec s env) σ Q) : SnS c f K env n ps :=
  ⟨fun _ _ _ h => (by rw [hs] at h; cases h), h⟩
theorem SnS.y {c : Cx} {f : Fm} {K : Tb} {env : Env} {n : Nat} {ps : PS} (hs : ∀ s, chk1 K n ps s = false) (h : ∀ ss σ Q, chkS K n ps ss = true → wpS c f ps σ Q → W c f (execs ss env) σ Q) : SnS c f K env n ps :=
  ⟨h, fun _ _ _ h => (by rw [hs] at h; cases h)⟩
theorem sq_W {c : Cx} {f : Fm} {t : Sem Flow} {σ : St} {Q : Flow → St → Prop} {N M : St → Prop} (x : W c f t σ (sq N Q)) (k : ∀ σ, N σ → M σ) : W c f t σ (sq M Q) := x.mono fun fl σ' _ z => by
  cases fl with
  | next => exact k _ z
  | brk => exact z
  | cont => exact z
  | ret v => exact z
theorem sndS {c : Cx} {f : Fm} {K : Tb} {env : Env} (O : Ok c f K env) : ∀ n ps, SnS c f K env n ps
  | 0, _ => ⟨fun _ _ _ h => (by cases h), fun _ _ _ h => (by cases h)⟩
  | n + 1, ps => by
    have P := snd O n
    have S := sndS O n
    cases ps with
    | dead => exact .y (fun _ => rfl) fun _ _ _ _ q => q.elim
    | skip =>
      refine .y (fun _ => rfl) fun ss σ Q h q => ?_
      rw [List.isEmpty_iff.mp h]
      exact fun A E hh tk r a => wpAny_execs_nil (.here a q)
    | seq p r =>
      refine .y (fun _ => rfl) fun ss σ Q h q => ?_
      cases ss with
      | nil => cases h
      | cons s rest =>
        have h := Bool.and_eq_true_iff.mp (show (chk1 K n p s && chkS K n r rest) = true from h)
        exact W_Seq (sq_W ((S p).i _ _ _ h.1 q) fun _ z => (S r).s _ _ _ h.2 z)
    | asg i e =>
      refine .x (fun _ => rfl) fun s σ Q h q => a3 h fun x h0 h1 h2 h3 => ?_
      obtain ⟨q1, q2, rfl⟩ := yAsg_ h0
      exact W_AssignN O.e h1 h2 ((P e).e _ _ _ h3 q)
    | setI o i v =>
      refine .x (fun _ => rfl) fun s σ Q h q => a4 h fun x h0 h1 h2 h3 h4 => ?_
      obtain ⟨q1, q2, rfl⟩ := ySet_ h0
      exact W_AssignI h1 (((P v).e _ _ _ h2 q).mono fun _ _ _ z => ((P o).e _ _ _ h3 z).mono fun _ _ _ z => (P i).e _ _ _ h4 z)
    | aug i op e =>
      refine .x (fun _ => rfl) fun s σ Q h q => a4 h fun x h0 h1 h2 h3 h4 => ?_
      obtain ⟨q1, q2, rfl⟩ := yAug_ h0
      rw [← of_decide_eq_true h3]
      have q : (match (σ.vs[i]?).join with | some x' => wpE c f e σ fun y σ => W c f (inplaceOp op x' y) σ fun v σ => Q .next { σ with vs := σ.vs.set i (some v) } | none => False) := q
      cases hy : (σ.vs[i]?).join with
      | none => rw [hy] at q; exact q.elim
      | some y => rw [hy] at q; exact W_AugN O.e h1 h2 hy ((P e).e _ _ _ h4 q)
    | expr e =>
      refine .x (fun _ => rfl) fun s σ Q h q => a2 h fun x h0 h1 h2 => ?_
      obtain ⟨q1, rfl⟩ := yExpr_ h0
      exact W_ExprS O.e.knd h1 ((P e).e _ _ _ h2 q)
    | ret e =>
      refine .x (fun _ => rfl) fun s σ Q h q => a1 h fun x h0 h1 => ?_
      obtain ⟨q1, rfl⟩ := yRet_ h0
      exact W_Ret ((P e).e _ _ _ h1 q)
    | ifS t a b =>
      refine .x (fun _ => rfl) fun s σ Q h q => a3 h fun x h0 h1 h2 h3 => ?_
      obtain ⟨q1, rfl⟩ := yIf_ h0
      refine W_If (((P t).t _ _ _ h1 q).mono fun z _ _ y => ?_)
      cases z with
      | true => exact (S a).s _ _ _ h2 y
      | false => exact (S b).s _ _ _ h3 y
    | whl t b =>
      refine .x (fun _ => rfl) fun s σ Q h q => a2 h fun x h0 h1 h2 => ?_
      obtain ⟨q1, rfl⟩ := yWhl_ h0
      obtain ⟨J, ⟨n₀, j0⟩, turn⟩ := q
      refine W_While J n₀ j0 fun m σ' R j => ((P t).t _ _ _ h1 (turn m σ' R j)).mono fun z _ _ y => ?_
      cases z with
      | true => exact (S b).s _ _ _ h2 y
      | false => exact y
    | forN i it b =>
      refine .x (fun _ => rfl) fun s σ Q h q => a4 h fun x h0 h1 h2 h3 h4 => ?_
      obtain ⟨q1, q2, rfl⟩ := yForN_ h0
      refine W_ForN O.e h1 h2 (((P it).e _ _ _ h3 q).mono fun v _ _ y => ?_)
      obtain ⟨D, led, m, P, z, zk, hD, hI, J, j0, turn, done⟩ := y
      exact ⟨D, led, m, P, z, zk, hD, hI, J, j0, fun k v σ' hk hP R j => (S b).s _ _ _ h4 (turn k v σ' hk hP R j), done⟩
    | asgC i e =>
      refine .x (fun _ => rfl) fun s σ Q h q => a5 h fun x h0 h1 h2 h3 h4 h5 => ?_
      obtain ⟨q1, q2, q3, e1, e2, rfl⟩ := yAsgC_ h0
      exact W_AsgC O.e O (of_decide_eq_true h1) h2 (by rw [e1, e2]; exact h3) ((Bool.not_eq_true' _).mp h4) h5 q
    | asgT is e =>
      refine .x (fun _ => rfl) fun s σ Q h q => a3 h fun x h0 h1 h2 h3 => ?_
      obtain ⟨k0, q2, q3, rfl⟩ := yAsgT_ h0
      exact W_AsgT O.e h1 h2 ((P e).e _ _ _ h3 q)
    | asgS i j e =>
      refine .x (fun _ => rfl) fun s σ Q h q => a1 h fun x h1 h2 => ?_
      obtain ⟨q1, q2, k0, q3, q4, e1, e2, rfl⟩ := yAsgS_ h1
      simp only [Bool.and_eq_true, decide_eq_true_eq, Bool.not_eq_true'] at h2
      obtain ⟨⟨⟨⟨⟨⟨⟨⟨⟨⟨a1, a2⟩, a3⟩, a4⟩, a5⟩, a6⟩, a7⟩, a8⟩, a9⟩, a10⟩, a11⟩ := h2
      have kx : env.kindOf x.x = some .local := by unfold Env.kindOf; rw [O.e.nm]; exact a3
      have ky : env.kindOf x.y = some .local := by unfold Env.kindOf; rw [O.e.nm]; exact a4
      exact W_AsgS O.e a1 a2 (swap_two O.e.knd kx ky (by rw [e1, e2]; exact a5) a6 (fun t p z => by rw [z] at a7; cases a7) (fun t p z => by rw [z] at a8; cases a8) a9 a10) rfl ((P e).e _ _ _ a11 q)
    | forT is it b =>
      refine .x (fun _ => rfl) fun s σ Q h q => a4 h fun x h0 h1 h2 h3 h4 => ?_
      obtain ⟨k0, q1, q2, rfl⟩ := yForT_ h0
      refine W_ForT O.e h1 h2 (((P it).e _ _ _ h3 q).mono fun v _ _ y => ?_)
      obtain ⟨D, led, m, P, D', hD, hI, J, j0, turn, done⟩ := y
      exact ⟨D, led, m, P, D', hD, hI, J, j0, fun k v σ' hk hP R j => ⟨(turn k v σ' hk hP R j).1, (S b).s _ _ _ h4 (turn k v σ' hk hP R j).2⟩, done⟩
    | tryL b o =>
      refine .x (fun _ => rfl) fun s σ Q h q => a2 h fun x h0 h1 h2 => ?_
      obtain ⟨h0, hs, q1, rfl⟩ := yTry_ h0
      exact W_TryL (sq_W ((S b).s _ _ _ h1 q) fun _ z => (S o).s _ _ _ h2 z)
    | tryX e =>
      refine .x (fun _ => rfl) fun s σ Q h q => a1 h fun x h1 h2 => a4 h2 fun y h3 h5 h6 h7 h8 => a1 h6 fun ex h9 h10 => ?_
      obtain ⟨pv, pa, k0, q0, pp, hp, pos, rfl⟩ := yTryX_ h1
      obtain ⟨pc, hc⟩ := xCall_ h3
      rw [hc, l1_ h9]
      exact W_TryX (pc := pc) O.e O.T (chk_star h10 []) h5 h7 h8 ((P e).e _ _ _ h10 q)
    | brk =>
      refine .x (fun _ => rfl) fun s σ Q h q => ?_
      obtain ⟨q1, rfl⟩ := yBrk_ h
      exact fun A E hh tk r a => wpAny_Break (.here a q)
    | cont =>
      refine .x (fun _ => rfl) fun s σ Q h q => ?_
      obtain ⟨q1, rfl⟩ := yCont_ h
      exact fun A E hh tk r a => wpAny_Continue (.here a q)
theorem gl_heapreplace (w : World) : GlobIs w (Str.ofString "heapreplace") (.ref 21) := by unfold GlobIs; kernel_rfl
theorem gl_heapify (w : World) : GlobIs w (Str.ofString "heapify") (.ref 28) := by unfold GlobIs; kernel_rfl
theorem gl_heapreplace_max (w : World) : GlobIs w (Str.ofString "_heapreplace_max") (.ref 35) := by unfold GlobIs; kernel_rfl
theorem gl_heapify_max (w : World) : GlobIs w (Str.ofString "_heapify_max") (.ref 42) := by unfold GlobIs; kernel_rfl
theorem gl_siftdown (w : World) : GlobIs w (Str.ofString "_siftdown") (.ref 49) := by unfold GlobIs; kernel_rfl
theorem gl_siftup (w : World) : GlobIs w (Str.ofString "_siftup") (.ref 56) := by unfold GlobIs; kernel_rfl
theorem gl_siftdown_max (w : World) : GlobIs w (Str.ofString "_siftdown_max") (.ref 63) := by unfold GlobIs; kernel_rfl
theorem gl_siftup_max (w : World) : GlobIs w (Str.ofString "_siftup_max") (.ref 70) := by unfold GlobIs; kernel_rfl
theorem gl_nsmallest (w : World) : GlobIs w (Str.ofString "nsmallest") (.ref 76) := by unfold GlobIs; kernel_rfl
theorem gl_nlargest (w : World) : GlobIs w (Str.ofString "nlargest") (.ref 82) := by unfold GlobIs; kernel_rfl
theorem gl_cmp_to_key (w : World) : GlobIs w (Str.ofString "cmp_to_key") (.ref 89) := by unfold GlobIs; kernel_rfl
theorem gl_reduce (w : World) : GlobIs w (Str.ofString "reduce") (.ref 98) := by unfold GlobIs; kernel_rfl
theorem gl_initial_missing (w : World) : GlobIs w (Str.ofString "_initial_missing") (.ref 90) := by unfold GlobIs; kernel_rfl
theorem gl_law_blocks (w : World) : GlobIs w (Str.ofString "_law_blocks") (.ref 105) := by unfold GlobIs; kernel_rfl
theorem gl_law_ahead (w : World) : GlobIs w (Str.ofString "_law_ahead") (.ref 110) := by unfold GlobIs; kernel_rfl
theorem gl_law_kept (w : World) : GlobIs w (Str.ofString "_law_kept") (.ref 115) := by unfold GlobIs; kernel_rfl
theorem bl_len (w : World) : BuiIs w (Str.ofString "len") (.builtin "len") := ⟨by kernel_rfl, by kernel_rfl⟩
theorem bl_iter (w : World) : BuiIs w (Str.ofString "iter") (.builtin "iter") := ⟨by kernel_rfl, by kernel_rfl⟩
theorem bl_object (w : World) : BuiIs w (Str.ofString "object") (.type "object") := ⟨by kernel_rfl, by kernel_rfl⟩
theorem bl_min (w : World) : BuiIs w (Str.ofString "min") (.builtin "min") := ⟨by kernel_rfl, by kernel_rfl⟩
theorem bl_max (w : World) : BuiIs w (Str.ofString "max") (.builtin "max") := ⟨by kernel_rfl, by kernel_rfl⟩
theorem bl_sorted (w : World) : BuiIs w (Str.ofString "sorted") (.builtin "sorted") := ⟨by kernel_rfl, by kernel_rfl⟩
theorem bl_zip (w : World) : BuiIs w (Str.ofString "zip") (.type "zip") := ⟨by kernel_rfl, by kernel_rfl⟩
theorem bl_range (w : World) : BuiIs w (Str.ofString "range") (.type "range") := ⟨by kernel_rfl, by kernel_rfl⟩
theorem bl_reversed (w : World) : BuiIs w (Str.ofString "reversed") (.type "reversed") := ⟨by kernel_rfl, by kernel_rfl⟩
theorem bl_sum (w : World) : BuiIs w (Str.ofString "sum") (.builtin "sum") := ⟨by kernel_rfl, by kernel_rfl⟩
theorem bl_next (w : World) : BuiIs w (Str.ofString "next") (.builtin "next") := ⟨by kernel_rfl, by kernel_rfl⟩
theorem bl_TypeError (w : World) : BuiIs w (Str.ofString "TypeError") (.type "TypeError") := ⟨by kernel_rfl, by kernel_rfl⟩
theorem bl_AttributeError (w : World) : BuiIs w (Str.ofString "AttributeError") (.type "AttributeError") := ⟨by kernel_rfl, by kernel_rfl⟩
theorem bl_StopIteration (w : World) : BuiIs w (Str.ofString "StopIteration") (.type "StopIteration") := ⟨by kernel_rfl, by kernel_rfl⟩
noncomputable abbrev Post := Value → Heap → Ledger → Option Nat → Prop
noncomputable def Fn (c : Cx) (fv : Value) (vs : List Value) (g : Heap) (muts : Ledger) (sz : Option Nat) (P : Post) : Prop :=
  ∀ (A : Around) (R : Result → Shared → Prop) (h : Heap) (tk : Nat), Rk c A → Hp c.w c.fs [] [] g muts sz h →
    (∀ v g' muts' sz' h' tk', Hp c.w c.fs [] [] g' muts' sz' h' → Mv c.fs [] g muts h g' muts' h' → (∀ b ∈ adr muts', b ∈ adr muts) → P v g' muts' sz' → R (.ok (.ret v)) (mk c.s h' tk')) →
    codeAny (model c.prog c.w) A (.call fv ⟨vs, []⟩) R (mk c.s h tk)
theorem Fn.mono {c : Cx} {fv : Value} {vs : List Value} {g : Heap} {muts : Ledger} {sz : Option Nat} {P P' : Post} (F : Fn c fv vs g muts sz P) (k : ∀ v g' m' z', Sub g g' → (∀ b ∈ adr m', b ∈ adr muts) → P v g' m' z' → P' v g' m' z') : Fn c fv vs g muts sz P' :=
  fun A R h tk r H x => F A R h tk r H fun v g' m' z' h' tk' H' M e p => x v g' m' z' h' tk' H' M e (k v g' m' z' M.gg e p)
theorem W_fn {c : Cx} {f : Fm} {σ : St} {fv : Value} {vs : List Value} {Q : Value → St → Prop} (muts rest : Ledger) (P : Post) (hl : σ.led.Perm (muts ++ rest)) (F : Fn c fv vs σ.g muts σ.sz P)
    (q : ∀ v g' muts' sz', Sub σ.g g' → (∀ b ∈ adr muts', b ∈ adr muts) → P v g' muts' sz' → Q v { σ with g := g', led := muts' ++ rest, sz := sz' }) : W c f (call fv vs) σ Q := by
  intro A E h tk r a
  have hp := a.hp.perm hl
  have hp0 : Hp c.w c.fs [] [] σ.g muts σ.sz h := ⟨hp.gr, hp.sub, fun p hm => hp.ld p (List.mem_append_left _ hm), (fun U q => nomatch q), (fun U q => nomatch q), fun b hb => hp.offL b (adr_app.mpr (.inl hb)), by
    have := hp.nd; unfold adr at this ⊢; rw [List.map_append, List.nodup_append] at this; exact this.1, (fun U q => nomatch q), (fun U q => nomatch q), fun b hb => let ⟨q1, q2, q3⟩ := hp.frm b hb; ⟨q1, q2, fun q => q3 (adr_app.mpr (.inl q))⟩, hp.sz⟩
  have nd := hp.nd
  unfold adr at nd
  rw [List.map_append, List.nodup_append] at nd
  refine wpAny_call (F A _ h tk r hp0 fun v g' muts' sz' h' tk' H' M' e p => ?_)
  have keepX : ∀ b o, h.get? b = some o → b ∉ adr muts → h'.get? b = some o ∨ (b ∈ c.fs ∧ ∃ sl, h'.get? b = some { o with slots := sl }) := fun b o x y => M'.exs b o x (fun q => nomatch q) y
  have keep : ∀ b o, h.get? b = some o → b ∉ adr muts → b ∉ c.fs → h'.get? b = some o := fun b o x y z => (keepX b o x y).resolve_right fun q => z q.1
  have keepO : ∀ b ∈ f.all, ∀ o, h.get? b = some o → ∃ sl, h'.get? b = some { o with slots := sl } := fun b hb o x => by
    rcases keepX b o x fun z => hp.ap b hb (adr_app.mpr (.inl z)) with q | ⟨U, q⟩
    · exact ⟨o.slots, q⟩
    · exact q
  have gn : ∀ b, (b ∈ f.own ∨ b ∈ adr rest) → g'.get? b = none := fun b hb => by
    cases z : g'.get? b with
    | none => rfl
    | some o =>
      have hx : ∃ o, h.get? b = some o := hb.elim (fun y => hp.here b (hp.oa b y)) fun y => hp.adrHere (adr_app.mpr (.inr y))
      have ho : σ.g.get? b = none := hb.elim (hp.offO b) fun y => hp.offL b (adr_app.mpr (.inr y))
      rcases M'.fr b o z with y | y | y
      · rw [ho] at y; cases y
      · obtain ⟨o', e'⟩ := hx; rw [y] at e'; cases e'
      · rcases hb with hb | hb
        · exact absurd (adr_app.mpr (.inl y)) (hp.ap b (hp.oa b hb))
        · exact absurd rfl (nd.2.2 b y b hb)
  have hp' : Hp c.w c.fs f.own f.all g' (muts' ++ rest) sz' h' := by
    refine ⟨H'.gr, H'.sub, fun p hm => ?_, fun b hb => ?_, fun b hb => gn b (.inl hb), fun b hb => ?_, ?_, fun b hb q => ?_, hp.oa, fun b hb => ?_, H'.sz⟩
    · rcases List.mem_append.mp hm with y | y
      · exact H'.ld p y
      · obtain ⟨o, e1, e2⟩ := hp.ld p (List.mem_append_right _ y)
        exact ⟨o, keep _ _ e1 (fun z => nd.2.2 _ z _ (List.mem_map_of_mem y) rfl) (fun z => (hp.frm _ z).2.2 (adr_app.mpr (.inr (List.mem_map_of_mem y)))), e2⟩
    · obtain ⟨o, e1⟩ := hp.here b hb
      obtain ⟨sl, e2⟩ := keepO b hb o e1
      exact ⟨_, e2⟩
    · rcases adr_app.mp hb with y | y
      · exact H'.offL b y
      · exact gn b (.inr y)
    · unfold adr; rw [List.map_append, List.nodup_append]
      exact ⟨H'.nd, nd.2.1, fun x hx y hy => nd.2.2 x (e x hx) y hy⟩
    · rcases adr_app.mp q with y | y
      · exact hp.ap b hb (adr_app.mpr (.inl (e b y)))
      · exact hp.ap b hb (adr_app.mpr (.inr y))
    · obtain ⟨q1, q2, q3⟩ := H'.frm b hb
      refine ⟨q1, q2, fun q => ?_⟩
      rcases adr_app.mp q with y | y
      · exact q3 y
      · exact (hp.frm b hb).2.2 (adr_app.mpr (.inr y))
  refine ⟨{ σ with g := g', led := muts' ++ rest, sz := sz' }, h', tk', rfl, ⟨hp', a.fr.keepS keepO⟩, ?_, q v g' muts' sz' M'.gg e p⟩
  have m1 : Mv c.fs f.own σ.g (muts ++ rest) h g' (muts' ++ rest) h' := by
    refine ⟨M'.gg, fun b o x y z => keepX b o x fun w => z (adr_app.mpr (.inl w)), fun b o x z => M'.dom b o x fun w => z (adr_app.mpr (.inl w)), fun b o x => ?_, fun b hb => ?_⟩
    · rcases M'.fr b o x with y | y | y
      · exact .inl y
      · exact .inr (.inl y)
      · exact .inr (.inr (adr_app.mpr (.inl y)))
    · rcases adr_app.mp hb with y | y
      · exact .inl (adr_app.mpr (.inl (e b y)))
      · exact .inl (adr_app.mpr (.inr y))
  exact m1.perm hl.symm (.refl _)

noncomputable def RetOk (muts : Ledger) (P : Post) (v : Value) (σ : St) : Prop :=
  Ex2 fun l muts' => σ.led.Perm (l ++ muts') ∧ (∀ b ∈ adr muts', b ∈ adr muts) ∧ ∀ g', Sub σ.g g' → (∀ p ∈ l, ∃ o, g'.get? p.1 = some o ∧ p.2 o) → P v g' muts' σ.sz
noncomputable def RetQ (muts : Ledger) (P : Post) : Flow → St → Prop
  | .ret v, σ => RetOk muts P v σ
  | _, σ => RetOk muts P .none σ
structure FnG (g : Heap) (a : Addr) (fd : FuncData) : Prop where
  get : ∃ o, g.get? a = some o ∧ o.data = .func fd
  knd : fd.scope.kind = .function
  gen : fd.scope.isGenerator = false
  co : fd.scope.isCoroutine = false
  glo : fd.globals = mainGlobals
  bui : fd.builtins = builtinsNs
  code : g.CodeRec fd.code fd.qualname
noncomputable def bodyCode (b : FuncBody) (env : Env) : PySem.Code := match b with
  | .stmts l => .func l env
  | .expr e => .expr e env
theorem call_any {prog : Program} {w : World} {A : Around} {R : Result → Shared → Prop} {s : Shared} {a : Addr} {args : Args} {o : Obj} {fd : FuncData} (hroom : A.depth < recursionLimit)
    (ho : s.heap.get? a = some o) (hd' : o.data = .func fd) (hco : fd.scope.isCoroutine = false) (hgen : fd.scope.isGenerator = false) (hcd : s.heap.CodeRec fd.code fd.qualname)
    (h : wpAny (model prog w) A.in1 (bindArgs fd args) (fun binds s₁ =>
      wpAny (model prog w) A.in1 (newFunctionEnv fd.scope fd.globals fd.closure binds (fd.qualname ++ ".<locals>.") (some a) fd.code none fd.builtins)
        (fun env s₂ => s₂.heap.NoLimit ∧ codeAny (model prog w) A (bodyCode fd.body env) R s₂) (fun e s' => R (.error e) s') s₁) (fun e s' => R (.error e) s') s) :
    codeAny (model prog w) A (.call (.ref a) args) R s := by
  cases q : fd.body with
  | stmts l => rw [q] at h; exact codeAny_call_function hroom ho hd' hco hgen q hcd h
  | expr e => rw [q] at h; exact kla_callFunE hroom ho hd' hco hgen q hcd h
noncomputable def chkB (K : Tb) (n : Nat) (ps : PS) : FuncBody → Bool
  | .stmts l => chkS K n ps l
  | .expr e => match ps with
    | .ret pe => chkE K n pe e
    | _ => false
noncomputable def noK (k : NameKind) (names : List (Str × NameKind)) : Bool := names.all fun p => !(p.2 == k)
theorem noK_ {k : NameKind} {names : List (Str × NameKind)} (h : noK k names = true) : ∀ p ∈ names, p.2 ≠ k := fun p hp z => by
  have := List.all_eq_true.mp h p hp
  rw [z] at this; simp at this
theorem fn_leave {c : Cx} {f : Fm} {F : Addr} {muts : Ledger} {P : Post} {g h : Heap} {R : Value → Shared → Prop} (hnew : ∀ b ∈ f.own, h.get? b = none) (hF : h.get? F = none)
    (k : ∀ v g' muts' sz' h' tk', Hp c.w c.fs [] [] g' muts' sz' h' → Mv c.fs [] g muts h g' muts' h' → (∀ b ∈ adr muts', b ∈ adr muts) → P v g' muts' sz' → R v (mk c.s h' tk'))
    {v : Value} {σ' : St} {h' : Heap} {tk' : Nat} (a' : At (c.deep F) f σ' h') (m' : Mv (c.deep F).fs f.own g muts h σ'.g σ'.led h') (q : RetOk muts P v σ') : R v (mk c.s h' tk') := by
  obtain ⟨l, muts', hp, he, hq⟩ := q
  have hp' := (a'.hp.perm hp).frz
  have mm : Mv (c.deep F).fs f.own g muts h (more σ'.g h' (adr l)) muts' h' := m'.trans ((Mv.frz (a'.hp.perm hp)).perm hp.symm (.refl _))
  refine k v _ muts' σ'.sz h' tk' ⟨hp'.gr, hp'.sub, hp'.ld, (fun U q => nomatch q), (fun U q => nomatch q), hp'.offL, hp'.nd, (fun U q => nomatch q), (fun U q => nomatch q), fun b hb => hp'.frm b (List.mem_cons_of_mem _ hb), hp'.sz⟩ ?_ he (hq _ (more_sub a'.hp.sub) fun p hm => ?_)
  · refine ⟨mm.gg, fun b o x U z => ?_, mm.dom, mm.fr, mm.ld⟩
    rcases mm.exs b o x (fun w => by rw [hnew b w] at x; cases x) z with q | ⟨q, q2⟩
    · exact .inl q
    · rcases List.mem_cons.mp q with rfl | q
      · rw [hF] at x; cases x
      · exact .inr ⟨q, q2⟩
  · obtain ⟨o, e1, e2⟩ := (a'.hp.perm hp).ld p (List.mem_append_left _ hm)
    exact ⟨o, more_at e1 (List.mem_map_of_mem hm), e2⟩
theorem fn_enter {c : Cx} {A : Around} {fd : FuncData} {a : Addr} {names : List (Str × NameKind)} {vals : List Value} {binds : List (Str × Value)} {is : List Nat} {fvs : List (Option Value)} {g h : Heap} {muts : Ledger} {sz : Option Nat} {tk : Nat} {R : Result → Shared → Prop}
    (r : Rk c A) (H : Hp c.w c.fs [] [] g muts sz h) (S : FnG g a fd) (hd : c.d < recursionLimit) (hnm : fd.scope.names = names) (hnd : (names.map (·.1)).Nodup) (hcl : noK .free names = true ∧ fd.closure = [] ∨ noK .cell names = true ∧ ((frNs 0 fd.closure names).filterMap (·.2)).Nodup)
    (hfr : ∀ (i : Nat) (x : Str), names[i]? = some (x, NameKind.free) → Ex2 fun ce v => fd.closure.lookup x = some ce ∧ g.IsCell ce v ∧ fvs[i]? = some v) (hfn : ∀ (i : Nat) (x : Str) (k : NameKind), names[i]? = some (x, k) → k ≠ .free → fvs[i]? = some none) (hfl : fvs.length = names.length)
    (hba : Gr c.w g → ∀ s : Shared, Sub g s.heap → BindsTo s fd ⟨vals, []⟩ binds) (hb : bindChk names true is binds = true)
    (k : ∀ f env h₀ tk₀ A' (E' : Value → Shared → Prop), EnvOk f env names true → At (c.deep f.F) f ⟨g, setAll fvs is (binds.map (·.2)), muts, sz.map (· + (1 + cellN names))⟩ h₀ → Mv (c.deep f.F).fs f.own g muts h g muts h₀ → (∀ b ∈ f.own, h.get? b = none) → f.L = h.objs.size ∧ f.F = f.L →
      env = newEnv fd.scope h.objs.size mainGlobals (cellsFrom (h.objs.size + 1) names fd.closure) (fd.qualname ++ ".<locals>.") (some a) fd.code none fd.builtins → Rk (c.deep f.F) A' →
      match fd.body with
      | .stmts l => wpAny (model c.prog c.w) A' (execs l env) (fun fl s' => R (.ok (.ret (match fl with | .ret v => v | _ => .none))) s') E' (mk c.s h₀ tk₀)
      | .expr e => wpAny (model c.prog c.w) A' (eval e env) (fun v s' => R (.ok (.ret v)) s') E' (mk c.s h₀ tk₀)) :
    codeAny (model c.prog c.w) A (.call (.ref a) ⟨vals, []⟩) R (mk c.s h tk) := by
  obtain ⟨o, ho, hdat⟩ := S.get
  have hcode : h.CodeRec fd.code fd.qualname := by
    obtain ⟨c', oc, vs, tq, e1, e2, e3⟩ := S.code
    exact ⟨c', oc, vs, tq, e1, H.sub _ _ e2, e3⟩
  refine call_any (s := mk c.s h tk) (Nat.lt_of_le_of_lt r.dep hd) (H.sub _ _ ho) hdat S.co S.gen hcode ?_
  rw [S.glo]
  refine hba H.gr (mk c.s h tk) H.sub _ _ _ _ ?_
  refine fn_env (c := c.up1) (fvs := fvs) (F0 := 0) (fun o ho => nomatch ho) r.in1 H hnm S.knd S.bui hnd (hcl.imp (fun q => ⟨noK_ q.1, q.2⟩) fun q => noK_ q.1) (fun i x e => ?_) hfn hfl (hcl.symm.imp (·.2) fun q => ⟨noK_ q.1, q.2⟩) hb fun f env h₀ tk₀ eo at0 mv hnew hL henv hf => ?_
  · obtain ⟨ce, v, e1, ⟨o, e2, e3⟩, e4⟩ := hfr i x e
    refine ⟨ce, v, e1, ⟨o, H.sub _ _ e2, e3⟩, fun z => ?_, e4⟩
    rw [H.offL _ z] at e2; cases e2
  · have hF : f.F = f.L := hf.2.2
    have hk : env.scope.kind ≠ .module := by rw [eo.knd]; decide
    have hnL : h.get? f.L = none := hnew _ eo.ownL
    have at1 : At (c.deep f.F) f ⟨g, setAll fvs is (binds.map (·.2)), muts, sz.map (· + (1 + cellN names))⟩ h₀ := by
      refine ⟨⟨at0.hp.gr, at0.hp.sub, at0.hp.ld, at0.hp.here, at0.hp.offO, at0.hp.offL, at0.hp.nd, at0.hp.ap, at0.hp.oa, fun b hb => ?_, at0.hp.sz⟩, at0.fr⟩
      rcases List.mem_cons.mp hb with rfl | hb
      · rw [hF]
        obtain ⟨m, ⟨o, es, ep, e1, e2, U⟩, U⟩ := at0.fr.ns
        exact ⟨⟨o, e1, es, ep, e2⟩, at0.hp.offO _ eo.ownL, at0.hp.ap _ (at0.hp.oa _ eo.ownL)⟩
      · exact at0.hp.frm b hb
    have mv1 : Mv (c.deep f.F).fs f.own g muts h g muts h₀ := ⟨mv.gg, fun b o x y z => (mv.exs b o x y z).imp id fun q => ⟨List.mem_cons_of_mem _ q.1, q.2⟩, mv.dom, mv.fr, mv.ld⟩
    refine ⟨(at0.hp.gr.sub at0.hp.sub).nolimit, ?_⟩
    have k' := k f env h₀ tk₀ (A.deeper env) (fun e s' => wpAny (model c.prog c.w) (A.deeper env) (leaving env e) (fun U s'' => R (.error e) s'') (fun e' s'' => R (.error e') s'') s') eo at1 mv1 hnew ⟨hL, hF⟩ henv (r.deeper eo.frm hk)
    cases q : fd.body with
    | stmts l => rw [q] at k'; exact codeAny_func k'
    | expr e => rw [q] at k'; exact kla_codeExpr k'
theorem fn_run {c : Cx} {a : Addr} {fd : FuncData} {K : Tb} {ps : PS} {n : Nat} {vals : List Value} {binds : List (Str × Value)} {is : List Nat} {fvs : List (Option Value)} {g : Heap} {muts : Ledger} {sz : Option Nat} {P : Post} (S : Gr c.w g → FnG g a fd) (T : TabOk c.w K.tab) (hcw : K.cw = true)
    (hd : c.d < recursionLimit) (hnm : fd.scope.names = K.names) (hnd : (K.names.map (·.1)).Nodup) (hcl : noK .free K.names = true ∧ fd.closure = [] ∨ noK .cell K.names = true ∧ ((frNs 0 fd.closure K.names).filterMap (·.2)).Nodup)
    (hfr : ∀ (i : Nat) (x : Str), K.names[i]? = some (x, NameKind.free) → Ex2 fun ce v => fd.closure.lookup x = some ce ∧ g.IsCell ce v ∧ fvs[i]? = some v) (hfn : ∀ (i : Nat) (x : Str) (k : NameKind), K.names[i]? = some (x, k) → k ≠ .free → fvs[i]? = some none) (hfl : fvs.length = K.names.length)
    (hba : Gr c.w g → ∀ s : Shared, Sub g s.heap → BindsTo s fd ⟨vals, []⟩ binds) (hb : bindChk K.names true is binds = true) (hk : chkB K n ps fd.body = true)
    (q : ∀ f : Fm, wpS (c.deep f.F) f ps ⟨g, setAll fvs is (binds.map (·.2)), muts, sz.map (· + (1 + cellN K.names))⟩ (RetQ muts P)) : Fn c (.ref a) vals g muts sz P := by
  intro A R h tk r H k
  refine fn_enter r H (S H.gr) hd hnm hnd hcl hfr hfn hfl hba hb fun f env h₀ tk₀ A' E' eo at0 mv hnew hL henv r' => ?_
  have O : Ok (c.deep f.F) f K env := ⟨by rw [hcw]; exact eo, T⟩
  have fin : ∀ {v σ' h' tk'}, At (c.deep f.F) f σ' h' → Mv (c.deep f.F).fs f.own g muts h₀ σ'.g σ'.led h' → RetOk muts P v σ' → R (.ok (.ret v)) (mk c.s h' tk') := fun {v σ' h' tk'} a' m' q' =>
    fn_leave (c := c) (F := f.F) (R := fun v s' => R (.ok (.ret v)) s') hnew (by rw [hL.2]; exact hnew _ eo.ownL) k a' (mv.trans m') q'
  cases qb : fd.body with
  | stmts l =>
    rw [qb] at hk
    refine W_pair ((sndS O n ps).s l _ _ hk (q f)) r' at0 fun fl σ' h' tk' a' m' q' => ?_
    cases fl with
    | ret v => exact fin a' m' q'
    | next => exact fin a' m' q'
    | brk => exact fin a' m' q'
    | cont => exact fin a' m' q'
  | expr e =>
    rw [qb] at hk
    cases ps with
    | ret pe =>
      refine W_pair ((snd O n pe).e e _ _ hk (q f)) r' at0 fun v σ' h' tk' a' m' q' => ?_
      exact fin a' m' q'
    | _ => cases hk
noncomputable def FD (w : World) (a : Addr) : FuncData := (fnData (obAt w a)).getD default
structure FnSt (w : World) (a : Addr) (K : Tb) : Prop where
  g : ∀ {h}, Gr w h → FnG h a (FD w a)
  cw : K.cw = true
  nm : (FD w a).scope.names = K.names
  nd : (K.names.map (·.1)).Nodup
  fr : noK .free K.names = true
  clo : (FD w a).closure = []
theorem fn_locB {c : Cx} {a : Addr} {K : Tb} {ps : PS} {n : Nat} {vals : List Value} {binds : List (Str × Value)} {is : List Nat} {vs : List (Option Value)} {g : Heap} {muts : Ledger} {sz sz' : Option Nat} {P : Post} (S : FnSt c.w a K) (T : TabOk c.w K.tab)
    (hd : c.d < recursionLimit) (hk : chkB K n ps (FD c.w a).body = true) (hba : Gr c.w g → ∀ s : Shared, Sub g s.heap → BindsTo s (FD c.w a) ⟨vals, []⟩ binds) (hb : bindChk K.names true is binds = true) (hv : setAll (K.names.map fun U => none) is (binds.map (·.2)) = vs) (hz : sz.map (· + (1 + cellN K.names)) = sz')
    (q : ∀ f : Fm, wpS (c.deep f.F) f ps ⟨g, vs, muts, sz'⟩ (RetQ muts P)) : Fn c (.ref a) vals g muts sz P := by
  subst hv hz
  refine fn_run (K := K) (fvs := K.names.map fun U => none) (fun G => S.g G) T S.cw hd S.nm S.nd (.inl ⟨S.fr, S.clo⟩) (fun i x e => absurd rfl (noK_ S.fr _ (List.mem_of_getElem? e))) (fun i x k e U => by rw [List.getElem?_map, e]; rfl) (by simp) hba hb hk q
theorem fn_loc {c : Cx} {a : Addr} {K : Tb} {ps : PS} {n : Nat} {vals : List Value} {binds : List (Str × Value)} {is : List Nat} {vs : List (Option Value)} {g : Heap} {muts : Ledger} {sz sz' : Option Nat} {P : Post} (S : FnSt c.w a K) (T : TabOk c.w K.tab)
    (hd : c.d < recursionLimit) (hk : chkB K n ps (FD c.w a).body = true) (hba : bindArgs (FD c.w a) ⟨vals, []⟩ = pure binds) (hb : bindChk K.names true is binds = true) (hv : setAll (K.names.map fun U => none) is (binds.map (·.2)) = vs) (hz : sz.map (· + (1 + cellN K.names)) = sz')
    (q : ∀ (f : Fm) (Q : Flow → St → Prop), (∀ {v σ}, RetOk muts P v σ → Q (.ret v) σ) → (∀ {σ}, RetOk muts P .none σ → Q .next σ) → wpS (c.deep f.F) f ps ⟨g, vs, muts, sz'⟩ Q) : Fn c (.ref a) vals g muts sz P := 
  fn_locB S T hd hk (fun U U U => BindsTo.of_eq hba) hb hv hz fun f => q f _ (fun h => h) (fun h => h)
noncomputable def OpIs (op : CmpOp) (prog : Program) (w : World) (s : Shared) (d u : Nat) (g : Heap) (x y : Value) (b : Bool) : Prop :=
  ∀ (A : Around) (Q : Value → Shared → Prop) (E : Value → Shared → Prop) (h : Heap) (tk : Nat), Rm d u A → Sub g h → (∀ h' tk', Sub h h' → Q (.bool b) (mk s h' tk')) → wpAny (model prog w) A (compareOp op x y) Q E (mk s h tk)
theorem OpIs.sub {op : CmpOp} {prog : Program} {w : World} {s : Shared} {d u : Nat} {g g' : Heap} {x y : Value} {b : Bool} (H : OpIs op prog w s d u g x y b) (S : Sub g g') : OpIs op prog w s d u g' x y b :=
  fun A Q E h tk r S' k => H A Q E h tk r (S.trans S') k
noncomputable abbrev LtIs := OpIs .Lt

noncomputable def sdGo (up : Value → Value → Bool) (new : Value) (start : Nat) : Nat → List Value → Nat → List Value × Nat
  | 0, xs, pos => (xs, pos)
  | f + 1, xs, pos => if start < pos then (if up new (xs.getD ((pos - 1) / 2) .none) then sdGo up new start f (xs.set pos (xs.getD ((pos - 1) / 2) .none)) ((pos - 1) / 2) else (xs, pos)) else (xs, pos)
noncomputable def sd (up : Value → Value → Bool) (xs : List Value) (start pos : Nat) : List Value :=
  (sdGo up (xs.getD pos .none) start pos xs pos).1.set (sdGo up (xs.getD pos .none) start pos xs pos).2 (xs.getD pos .none)
theorem sdGo_fuel {up : Value → Value → Bool} {new : Value} {start : Nat} : ∀ {f f' : Nat} {xs : List Value} {pos : Nat}, pos ≤ f → pos ≤ f' → sdGo up new start f xs pos = sdGo up new start f' xs pos
  | 0, 0, _, _, _, _ => rfl
  | 0, f' + 1, xs, pos, h, _ => by
    have : pos = 0 := by omega
    subst this
    simp [sdGo]
  | f + 1, 0, xs, pos, _, h => by
    have : pos = 0 := by omega
    subst this
    simp [sdGo]
  | f + 1, f' + 1, xs, pos, h, h' => by
    unfold sdGo
    split
    · split
      · exact sdGo_fuel (by omega) (by omega)
      · rfl
    · rfl

noncomputable def suPick (pick : Value → Value → Bool) (xs : List Value) (c : Nat) : Nat := if c + 1 < xs.length ∧ pick (xs.getD (c + 1) .none) (xs.getD c .none) = true then c + 1 else c
noncomputable def suGo (pick : Value → Value → Bool) : Nat → List Value → Nat → List Value × Nat
  | 0, xs, pos => (xs, pos)
  | f + 1, xs, pos => if 2 * pos + 1 < xs.length then suGo pick f (xs.set pos (xs.getD (suPick pick xs (2 * pos + 1)) .none)) (suPick pick xs (2 * pos + 1)) else (xs, pos)
noncomputable def su (up pick : Value → Value → Bool) (xs : List Value) (pos : Nat) : List Value :=
  sd up ((suGo pick (xs.length - pos) xs pos).1.set (suGo pick (xs.length - pos) xs pos).2 (xs.getD pos .none)) pos (suGo pick (xs.length - pos) xs pos).2
theorem suPick_lt {pick : Value → Value → Bool} {xs : List Value} {c : Nat} (h : c < xs.length) : suPick pick xs c < xs.length := by
  unfold suPick; split <;> omega
theorem suPick_le {pick : Value → Value → Bool} {xs : List Value} {c : Nat} : c ≤ suPick pick xs c := by
  unfold suPick; split <;> omega
theorem suGo_fuel {pick : Value → Value → Bool} : ∀ {f f' : Nat} {xs : List Value} {pos : Nat}, xs.length - pos ≤ f → xs.length - pos ≤ f' → suGo pick f xs pos = suGo pick f' xs pos
  | 0, 0, _, _, _, _ => rfl
  | 0, f' + 1, xs, pos, h, _ => by
    have : ¬ 2 * pos + 1 < xs.length := by omega
    simp [suGo, this]
  | f + 1, 0, xs, pos, _, h => by
    have : ¬ 2 * pos + 1 < xs.length := by omega
    simp [suGo, this]
  | f + 1, f' + 1, xs, pos, h, h' => by
    unfold suGo
    split
    · have := suPick_le (pick := pick) (xs := xs) (c := 2 * pos + 1)
      exact suGo_fuel (by simp only [List.length_set]; omega) (by simp only [List.length_set]; omega)
    · rfl
noncomputable def GT : List (Str × Value) := [(Str.ofString "heapreplace", .ref 21), (Str.ofString "heapify", .ref 28), (Str.ofString "_heapreplace_max", .ref 35), (Str.ofString "_heapify_max", .ref 42), (Str.ofString "_siftdown", .ref 49), (Str.ofString "_siftup", .ref 56), (Str.ofString "_siftdown_max", .ref 63), (Str.ofString "_siftup_max", .ref 70), (Str.ofString "nsmallest", .ref 76), (Str.ofString "nlargest", .ref 82), (Str.ofString "cmp_to_key", .ref 89), (Str.ofString "_initial_missing", .ref 90), (Str.ofString "reduce", .ref 98), (Str.ofString "_law_blocks", .ref 105), (Str.ofString "_law_ahead", .ref 110), (Str.ofString "_law_kept", .ref 115), (Str.ofString "len", .builtin "len"), (Str.ofString "iter", .builtin "iter"), (Str.ofString "min", .builtin "min"), (Str.ofString "max", .builtin "max"), (Str.ofString "sorted", .builtin "sorted"), (Str.ofString "sum", .builtin "sum"), (Str.ofString "next", .builtin "next"), (Str.ofString "object", .type "object"), (Str.ofString "range", .type "range"), (Str.ofString "zip", .type "zip"), (Str.ofString "reversed", .type "reversed"), (Str.ofString "TypeError", .type "TypeError"), (Str.ofString "AttributeError", .type "AttributeError"), (Str.ofString "StopIteration", .type "StopIteration")]
theorem tabOk_nil (w : World) : TabOk w [] := fun _ _ h => by cases h
theorem tabOk_cons {w : World} {x : Str} {v : Value} {l : List (Str × Value)} (h : GlobIs w x v ∨ BuiIs w x v) (t : TabOk w l) : TabOk w ((x, v) :: l) := fun y u e => by
  rw [List.lookup_cons] at e
  cases q : y == x with
  | true => rw [q] at e; cases e; rw [beq_iff_eq.mp q]; exact h
  | false => rw [q] at e; exact t y u e
theorem GTok (w : World) : TabOk w GT :=
  tabOk_cons (.inl (gl_heapreplace w)) <|
  tabOk_cons (.inl (gl_heapify w)) <|
  tabOk_cons (.inl (gl_heapreplace_max w)) <|
  tabOk_cons (.inl (gl_heapify_max w)) <|
  tabOk_cons (.inl (gl_siftdown w)) <|
  tabOk_cons (.inl (gl_siftup w)) <|
  tabOk_cons (.inl (gl_siftdown_max w)) <|
  tabOk_cons (.inl (gl_siftup_max w)) <|
  tabOk_cons (.inl (gl_nsmallest w)) <|
  tabOk_cons (.inl (gl_nlargest w)) <|
  tabOk_cons (.inl (gl_cmp_to_key w)) <|
  tabOk_cons (.inl (gl_initial_missing w)) <|
  tabOk_cons (.inl (gl_reduce w)) <|
  tabOk_cons (.inl (gl_law_blocks w)) <|
  tabOk_cons (.inl (gl_law_ahead w)) <|
  tabOk_cons (.inl (gl_law_kept w)) <|
  tabOk_cons (.inr (bl_len w)) <|
  tabOk_cons (.inr (bl_iter w)) <|
  tabOk_cons (.inr (bl_min w)) <|
  tabOk_cons (.inr (bl_max w)) <|
  tabOk_cons (.inr (bl_sorted w)) <|
  tabOk_cons (.inr (bl_sum w)) <|
  tabOk_cons (.inr (bl_next w)) <|
  tabOk_cons (.inr (bl_object w)) <|
  tabOk_cons (.inr (bl_range w)) <|
  tabOk_cons (.inr (bl_zip w)) <|
  tabOk_cons (.inr (bl_reversed w)) <|
  tabOk_cons (.inr (bl_TypeError w)) <|
  tabOk_cons (.inr (bl_AttributeError w)) <|
  tabOk_cons (.inr (bl_StopIteration w)) <|
  tabOk_nil w
noncomputable def ir_sd (t : PE) : PS :=
  (.seq (.asg 3 (.sub (.v 0) (.v 2))) (.seq (.whl (.cmp .Gt (.v 2) (.v 1)) (.seq (.asg 4 (.bin .RShift (.bin .Sub (.v 2) (.int 1)) (.int 1))) (.seq (.asg 5 (.sub (.v 0) (.v 4))) (.seq (.ifS t (.seq (.setI (.v 0) (.v 2) (.v 5)) (.seq (.asg 2 (.v 4)) (.seq .cont .skip))) .skip) (.seq .brk .skip))))) (.seq (.setI (.v 0) (.v 2) (.v 3)) .skip)))
noncomputable def ir_siftdown : PS := ir_sd (.cmp .Lt (.v 3) (.v 5))
noncomputable def ir_siftdown_max : PS := ir_sd (.cmp .Lt (.v 5) (.v 3))
noncomputable def ir_siftup_if : PS :=
  (.ifS (.and (.cmp .Lt (.v 6) (.v 2)) (.and (.not (.cmp .Lt (.sub (.v 0) (.v 5)) (.sub (.v 0) (.v 6)))) .andN)) (.seq (.asg 5 (.v 6)) .skip) .skip)
noncomputable def ir_su (pk : PS) (a : Addr) : PS :=
  (.seq (.asg 2 (.call (.g (.builtin "len")) (.cons (.v 0) .nil))) (.seq (.asg 3 (.v 1)) (.seq (.asg 4 (.sub (.v 0) (.v 1))) (.seq (.asg 5 (.bin .Add (.bin .Mult (.int 2) (.v 1)) (.int 1))) (.seq (.whl (.cmp .Lt (.v 5) (.v 2)) (.seq (.asg 6 (.bin .Add (.v 5) (.int 1))) (.seq pk (.seq (.setI (.v 0) (.v 1) (.sub (.v 0) (.v 5))) (.seq (.asg 1 (.v 5)) (.seq (.asg 5 (.bin .Add (.bin .Mult (.int 2) (.v 1)) (.int 1))) .skip)))))) (.seq (.setI (.v 0) (.v 1) (.v 4)) (.seq (.expr (.call (.g (.ref a)) (.cons (.v 0) (.cons (.v 3) (.cons (.v 1) .nil))))) .skip)))))))
noncomputable def ir_siftup : PS := ir_su ir_siftup_if 49
noncomputable def ir_siftup_max_if : PS :=
  (.ifS (.and (.cmp .Lt (.v 6) (.v 2)) (.and (.not (.cmp .Lt (.sub (.v 0) (.v 6)) (.sub (.v 0) (.v 5)))) .andN)) (.seq (.asg 5 (.v 6)) .skip) .skip)
noncomputable def ir_siftup_max : PS := ir_su ir_siftup_max_if 63
noncomputable def ir_hr (a : Addr) : PS :=
  (.seq (.asg 2 (.sub (.v 0) (.int 0))) (.seq (.setI (.v 0) (.int 0) (.v 1)) (.seq (.expr (.call (.g (.ref a)) (.cons (.v 0) (.cons (.int 0) .nil)))) (.seq (.ret (.v 2)) .skip))))
noncomputable def ir_heapreplace : PS := ir_hr 56
noncomputable def ir_heapreplace_max : PS := ir_hr 70
noncomputable def ir_hf (a : Addr) : PS :=
  (.seq (.asg 1 (.call (.g (.builtin "len")) (.cons (.v 0) .nil))) (.seq (.forN 2 (.call (.g (.type "reversed")) (.cons (.call (.g (.type "range")) (.cons (.bin .FloorDiv (.v 1) (.int 2)) .nil)) .nil)) (.seq (.expr (.call (.g (.ref a)) (.cons (.v 0) (.cons (.v 2) .nil)))) .skip)) .skip))
noncomputable def ir_heapify : PS := ir_hf 56
noncomputable def ir_heapify_max : PS := ir_hf 70
noncomputable abbrev KT (w : World) (a : Addr) : Tb := ⟨(FD w a).scope.names, GT, true⟩
noncomputable def codeOk (o : Obj) (q : Str) : Bool := match o.data with
  | .fields vs => match (vs : Array Value)[1]? with
    | some (Value.str s _) => decide (s = q)
    | _ => false
  | _ => false
theorem codeOk_ {o : Obj} {q : Str} {ca : Addr} {h : Heap} (e : h.get? ca = some o) (k : codeOk o q = true) : h.CodeRec (.ref ca) q := by
  unfold codeOk at k
  split at k
  · rename_i vs hd
    split at k
    · rename_i s t hs
      exact ⟨ca, o, vs, t, rfl, e, hd, by rw [hs, of_decide_eq_true k]⟩
    · cases k
  · cases k
noncomputable def fnOk (w : World) (a ca : Addr) : Bool := ((KK w).lookup a).isSome && !(a == 84 || a == 117) && ((KK w).lookup ca).isSome && !(ca == 84 || ca == 117) && (match (obAt w a).data with
  | .func fd => (match fd.body with | .stmts _ => true | _ => false) && decide (fd.scope.kind = .function) && !fd.scope.isGenerator && !fd.scope.isCoroutine && decide (fd.globals = mainGlobals) && decide (fd.builtins = builtinsNs) && decide (fd.code = .ref ca) && codeOk (obAt w ca) fd.qualname && decide (fd.scope.names.map (·.1)).Nodup && noK .free fd.scope.names && fd.closure.isEmpty
  | _ => false)
theorem fnOk_ {w : World} {a ca : Addr} (h : fnOk w a ca = true) : FnSt w a (KT w a) := by
  unfold fnOk at h
  simp only [Bool.and_eq_true, Bool.not_eq_true'] at h
  obtain ⟨⟨⟨⟨h1, h2⟩, h3⟩, h4⟩, h5⟩ := h
  split at h5
  · rename_i fd hd
    simp only [Bool.and_eq_true, Bool.not_eq_true', decide_eq_true_eq] at h5
    obtain ⟨⟨⟨⟨⟨⟨⟨⟨⟨⟨b, k⟩, g⟩, c⟩, gl⟩, bu⟩, co⟩, cd⟩, nd⟩, nf⟩, cl⟩ := h5
    have e : FD w a = fd := by unfold FD fnData; rw [hd]; rfl
    have eK : (KT w a).names = fd.scope.names := by show (FD w a).scope.names = _; rw [e]
    refine ⟨fun {h} G => ⟨⟨_, G.ob h1 h2, by rw [e]; exact hd⟩, by rw [e]; exact k, by rw [e]; exact g, by rw [e]; exact c, by rw [e]; exact gl, by rw [e]; exact bu, by rw [e, co]; exact codeOk_ (G.ob h3 h4) cd⟩, rfl, rfl, by rw [eK]; exact nd, by rw [eK]; exact nf, by rw [e]; exact List.isEmpty_iff.mp cl⟩
  · cases h5
inductive LU : Ledger → Addr → (Obj → Prop) → (Obj → Prop) → Ledger → Prop where
  | here {a P P' l} : LU ((a, P) :: l) a P P' ((a, P') :: l)
  | there {p a P P' l l'} : LU l a P P' l' → LU (p :: l) a P P' (p :: l')
theorem LU.mem {led led' : Ledger} {a : Addr} {P P' : Obj → Prop} (x : LU led a P P' led') : (a, P) ∈ led := by
  induction x with
  | here => exact .head _
  | there _ ih => exact .tail _ ih
theorem LU.chg {led led' : Ledger} {a : Addr} {P P' : Obj → Prop} (x : LU led a P P' led') (nd : (adr led).Nodup) : chgL led a P' = led' := by
  induction x with
  | @here a P P' l =>
    have n : a ∉ adr l := (List.nodup_cons.mp nd).1
    unfold chgL
    rw [List.map_cons, if_pos rfl]
    congr 1
    conv => rhs; rw [← List.map_id l]
    refine List.map_congr_left fun p hp => ?_
    have hz : ¬ p.1 = a := fun z => n (by rw [← z]; exact List.mem_map_of_mem (f := fun q : Addr × (Obj → Prop) => q.1) hp)
    rw [if_neg hz]; rfl
  | @there p a P P' l l' x ih =>
    have n := List.nodup_cons.mp nd
    have hz : ¬ p.1 = a := fun z => n.1 (by show p.1 ∈ _; rw [z]; exact List.mem_map_of_mem (f := fun q : Addr × (Obj → Prop) => q.1) x.mem)
    unfold chgL at ih ⊢
    rw [List.map_cons, if_neg hz, ih n.2]
section
variable {c : Cx} {f : Fm} {σ : St}
theorem W.nd {α : Type} {t : Sem α} {Q : α → St → Prop} (k : (adr σ.led).Nodup → W c f t σ Q) : W c f t σ Q := fun A E h tk r a => k a.hp.nd A E h tk r a
theorem L_set {l : Addr} {xs : List Value} {k : Nat} {u : Tok} {v : Value} {led' : Ledger} {Q : Unit → St → Prop} (hl : LU σ.led l (IsLs xs) (IsLs (xs.set k v)) led') (hk : k < xs.length) (hz : xs.length ≤ 1000)
    (q : Q () { σ with led := led' }) : W c f (setItem (.ref l) (.int (k : Nat) u) v) σ Q :=
  W.nd fun nd => W_setItem hl.mem (by omega) (by omega) (Nat.le_trans hz (by decide)) (by rw [Int.toNat_natCast, hl.chg nd]; exact q)
theorem L_item {l : Addr} {xs : List Value} {k : Nat} {u : Tok} {Q : Value → St → Prop} (hl : Lst σ l xs) (hk : k < xs.length) (hz : xs.length ≤ 1000) (q : Q (xs.getD k .none) σ) :
    ∀ value slice, subscripted slice false (.ref l) (.int (k : Nat) u) = operate [.ref l, .int (k : Nat) u] (getItem (.ref l) (.int (k : Nat) u)) → W c f (subscriptTail value slice (.ref l) (.int (k : Nat) u)) σ Q :=
  fun U U hs => W_item hl (by omega) (by omega) (by omega) hs (by rw [Int.toNat_natCast]; exact q)
theorem L_app {l : Addr} {xs : List Value} {x : Value} {led' : Ledger} {Q : Value → St → Prop} (hl : LU σ.led l (IsLs xs) (IsLs (xs ++ [x])) led') (hz : xs.length ≤ 1000) (q : Q .none { σ with led := led' }) : W c f (call (.builtin "list.append") [.ref l, x]) σ Q :=
  W.nd fun nd => W_append hl.mem (Nat.le_trans hz (by decide)) (by rw [hl.chg nd]; exact q)
theorem L_len {l : Addr} {xs : List Value} {Q : Value → St → Prop} (hl : Lst σ l xs) (hz : xs.length ≤ 1000) (q : ∀ t, Q (.int (xs.length : Nat) t) σ) : W c f (call (.builtin "len") [.ref l]) σ Q := W_len hl (by omega) q
end
theorem FnSt.plain {c : Cx} {a : Addr} {K : Tb} {g : Heap} (S : FnSt c.w a K) : Gr c.w g → Plain c g (.ref a) := fun G => let ⟨_, h1, h2⟩ := (S.g G).get; Plain.fn h1 h2
theorem Plain.bui' {c : Cx} {g : Heap} {id : String} : Gr c.w g → Plain c g (.builtin id) := fun U => Plain.bui
theorem Plain.typ' {c : Cx} {g : Heap} {T : String} : Gr c.w g → Plain c g (.type T) := fun U => Plain.typ
theorem RetOk.now {muts : Ledger} {P : Post} {v : Value} {σ : St} (e : adr σ.led = adr muts) (h : ∀ g', Sub σ.g g' → P v g' σ.led σ.sz) : RetOk muts P v σ := ⟨[], σ.led, .refl _, fun b h => e ▸ h, fun g' S U => h g' S⟩
theorem OpIs.mono {op : CmpOp} {prog : Program} {w : World} {s : Shared} {d u d' u' : Nat} {g : Heap} {x y : Value} {b : Bool} (H : OpIs op prog w s d u g x y b) (h1 : d' ≤ d) (h2 : u' ≤ u) : OpIs op prog w s d' u' g x y b :=
  fun A Q E h tk r S k => H A Q E h tk (r.mono h1 h2) S k
theorem L_ltV {c : Cx} {f : Fm} {σ : St} {op : CmpOp} {x y : Value} {b : Bool} {Q : Value → St → Prop} (H : OpIs op c.prog c.w c.s c.d c.u σ.g x y b) (q : Q (.bool b) { σ with sz := none }) : W c f (compareOp op x y) σ Q :=
  fun A E h tk r a => H A _ E h tk r.rm a.hp.sub fun h' tk' S => ⟨{ σ with sz := none }, h', tk', rfl, ⟨a.hp.grow S (fun U e => nomatch e), a.fr.keep fun b U o e => S b o e⟩, .grow S, q⟩
section
variable {prog : Program} {w : World} {A : Around} {s : Shared} {h : Heap} {tk : Nat} {env : Env} {g : Heap} {L : Addr} {m : Str → Option Value} {led : Ledger}
variable {E : Value → Shared → Prop}
theorem r_fdiv {a b : Int} {t u : Tok} {Q : Value → Shared → Prop} (hb : b ≠ 0) (hs2 : b.natAbs < 2 ^ 29) (k : ∀ t tk', Q (.int (a.fdiv b) t) (mk s h tk')) : wpAny (model prog w) A (binaryOp .FloorDiv (.int a t) (.int b u)) Q E (mk s h tk) :=
  PyProof.Rows.floordiv_int hb (k _ _) (.inl (PyProof.noPylong_small (by omega)))
theorem r_range1 {n : Int} {t : Tok} {Q : Value → Shared → Prop} (k : ∀ r h' tk' t' v, Sub h h' → h.get? r = none → h'.get? r = some { cls := .type "range", data := .fields #[.int 0 t', .int n t, .int 1 v] } → Q (.ref r) (mk s h' tk')) :
    wpAny (model prog w) A (call (.type "range") [.int n t]) Q E (mk s h tk) :=
  call_range_1 (s := mk s h tk) (k _ _ _ _ _ (Sub.push _ _) (Heap.get?_none_of_le (Nat.le_refl _)) (Heap.get?_push_size _ rfl))
end
end
section
open _root_.PySem _root_.PySem.W _root_.PySem.Calls PyProof.Rows
set_option maxHeartbeats 4000000
set_option maxRecDepth 100000
theorem mro_reversed : mroOf (.type "reversed") = pure [.type "reversed", .type "object"] := by rw [mroOf_type]; kernel_rfl
theorem lookup_reversed_new : typeLookup (.type "reversed") "__new__" = pure (some (.builtin "reversed.__new__")) := by rw [typeLookup_type, builtinLookup_eq_fast]; kernel_rfl
theorem slot_range_rev : Slot "range" "__reversed__" "range.__reversed__" :=
  .of (owner := "range") (n := "__reversed__") (by rw [typeLookup_type, builtinLookup_eq_fast]; kernel_rfl) (by decide +kernel) (by decide +kernel) (by decide +kernel)
    (by first | exact .inl (by decide +kernel) | exact .inr (by decide +kernel)) (by rw [isSubtype_type]; kernel_rfl)
theorem newCall_reversed (a : Value) : checkBuiltinCall "reversed.__new__" ⟨[.type "reversed", a], []⟩ = pure () := by kernel_rfl
theorem typeCall_reversed (a : Value) : checkTypeCall "reversed" ⟨[a], []⟩ = pure () := by kernel_rfl
theorem args_rev (a : Value) : argsOk "range.__reversed__" ⟨[a], []⟩ := by unfold argsOk; kernel_rfl
section
variable {prog : Program} {w : World} {A : Around} {E : Value → Shared → Prop} {s : Shared} {h : Heap} {tk : Nat}
theorem rev_range {A₁ : Around} {r : Addr} {n : Int} {t u v : Tok} (hr : h.get? r = some { cls := .type "range", data := .fields #[.int 0 t, .int n u, .int 1 v] }) (hn : 0 ≤ n) (hn' : n < 1000) :
    wpAny (model prog w) A₁ (Builtin.«range.__reversed__» ⟨[.ref r], []⟩) (fun fin s' => fin = .done (.ret (.ref h.objs.size)) ∧ s' = mk s (h.push { cls := .type "range_iterator", data := .fields #[rawInt (n - 1), rawInt n, rawInt (-1)] }) tk) (fun U U => False) (mk s h tk) := by
  have e1 : Builtin.Range.rangeSize 0 n 1 = n := by rw [rangeSize_one]; split <;> omega
  have e2 : (Builtin.Range.rangeFitsLong 0 && Builtin.Range.rangeFitsLong n && Builtin.Range.rangeFitsLong 1 && Builtin.Range.rangeFitsLong (-1) && Builtin.Range.rangeFitsLong (0 - 1) && Builtin.Range.rangeFitsLong n) = true := by
    simp only [Builtin.Range.rangeFitsLong, Bool.and_eq_true, decide_eq_true_eq]; omega
  unfold Builtin.«range.__reversed__»
  wp_walk
  rw [e1, e2]
  have e3 : (0 : Int) + (n - 1) * 1 = n - 1 := by omega
  simp only [Bool.not_true, Bool.false_eq_true, if_false, if_true, e3]
  wp_walk
  exact ⟨rfl, rfl⟩
theorem c_reversed {r : Addr} {n : Int} {t u v : Tok} {Q : Value → Shared → Prop} (hr : h.get? r = some { cls := .type "range", data := .fields #[.int 0 t, .int n u, .int 1 v] }) (hn : 0 ≤ n) (hn' : n < 1000)
    (k : ∀ I h', Sub h h' → h.get? I = none → IsRangeIter h' I (n - 1) n (-1) → Q (.ref I) (mk s h' tk)) : wpAny (model prog w) A (call (.type "reversed") [.ref r]) Q E (mk s h tk) := by
  have hmade : Bind.madeBy (.type "reversed") = pure (some "reversed.__new__") := madeBy_type mro_reversed lookup_reversed_new (by decide +kernel)
  have hct := typeCall_reversed (.ref r)
  have hmro := mro_reversed
  refine wpAny_call (codeAny_of_tree ?_)
  show wpAny _ _ (callAny (.type "reversed") _) _ _ _
  refine wpAny_pure ⟨Code.quiet_builtin _ (by decide +kernel), codeAny_builtin F.entry_type_call ?_⟩
  rw [Around.under_plain (weight_type_call_type "reversed" [.ref r] []) (units_type_call_type "reversed" [.ref r] [])]
  have h1 : (Value.type "reversed" == Value.type "type") = false := by decide +kernel
  have h2 : ((Manifest.find? "reversed").bind (·.mro.findSome? fun t => (Manifest.find? t).bind fun b => if b.noNew then some true else if b.attrs.any (·.1 == "__new__") then some false else none)).getD false = false := by decide +kernel
  repeat (any_goals (first | assumption | wp_step))
  refine codeAny_mono (codeAny_call_builtin (id := "reversed.__new__") (by decide +kernel) (entryFor_of_tree (by kernel_rfl) : entryFor table "reversed.__new__" = some Builtin.«reversed.__new__») (wpAny_of_eq (newCall_reversed _) ?_)) (R := fun r' s' => Ex2 fun I h' => r' = .ok (.ret (.ref I)) ∧ s' = mk s h' tk ∧ Sub h h' ∧ h.get? I = none ∧ IsRangeIter h' I (n - 1) n (-1)) ?_
  · unfold Builtin.«reversed.__new__»
    have q1 := slot_range_rev.lookup
    have q2 := slot_range_rev.bind (.ref r)
    have hsub : isSubtype (.type "reversed") (.type "reversed") = pure true := by rw [isSubtype_type]; kernel_rfl
    have hT : (mk s h tk).TypeIs (.ref r) "range" := ⟨_, hr, rfl⟩
    repeat (any_goals (first | assumption | wp_step))
    refine codeAny_call_builtin (id := "range.__reversed__") slot_range_rev.plain (entryFor_of_tree (by kernel_rfl) : entryFor table "range.__reversed__" = some Builtin.«range.__reversed__») (slot_range_rev.check _ _ _ _ _ _ _ _ hT (args_rev _) ?_)
    refine wpAny_mono (rev_range hr hn hn') ?_ (fun U U x => x.elim)
    rintro fin s' ⟨(rfl), (rfl)⟩
    dsimp only
    refine wpAny_pure ⟨_, _, rfl, rfl, Sub.push _ _, Heap.get?_none_of_le (Nat.le_refl _), Heap.get?_push_size _ rfl⟩
  · rintro r' s' ⟨I, h', (rfl), (rfl), S, hI, hR⟩
    have hT : (mk s h' tk).TypeIs (.ref I) "range_iterator" := ⟨_, hR, rfl⟩
    have hs : isSubtype (.type "range_iterator") (.type "reversed") = pure false := by rw [isSubtype_type]; kernel_rfl
    repeat (any_goals (first | assumption | wp_step))
    exact k I h' S hI hR
end
end
section
open _root_.PySem _root_.PySem.W _root_.PySem.Calls PyProof.Rows
set_option maxRecDepth 100000
noncomputable def hfyGo (up pick : Value → Value → Bool) : Nat → List Value → List Value
  | 0, ys => ys
  | k + 1, ys => hfyGo up pick k (su up pick ys k)
noncomputable def hfy (up pick : Value → Value → Bool) (xs : List Value) : List Value := hfyGo up pick (xs.length / 2) xs
theorem sdGo_len {up : Value → Value → Bool} {new : Value} {start : Nat} : ∀ {f : Nat} {xs : List Value} {pos : Nat}, (sdGo up new start f xs pos).1.length = xs.length
  | 0, _, _ => rfl
  | f + 1, xs, pos => by
    unfold sdGo
    split
    · split
      · rw [sdGo_len, List.length_set]
      · rfl
    · rfl
theorem sd_len {up : Value → Value → Bool} {xs : List Value} {a b : Nat} : (sd up xs a b).length = xs.length := by unfold sd; rw [List.length_set, sdGo_len]
theorem suGo_len {pick : Value → Value → Bool} : ∀ {f : Nat} {xs : List Value} {pos : Nat}, (suGo pick f xs pos).1.length = xs.length
  | 0, _, _ => rfl
  | f + 1, xs, pos => by
    unfold suGo
    split
    · rw [suGo_len, List.length_set]
    · rfl
theorem su_len {up pick : Value → Value → Bool} {xs : List Value} {a : Nat} : (su up pick xs a).length = xs.length := by unfold su; rw [sd_len, List.length_set, suGo_len]
theorem set_mem {xs ys : List Value} {i : Nat} {v : Value} (h : ∀ y ∈ ys, y ∈ xs) (hv : v ∈ xs) : ∀ y ∈ ys.set i v, y ∈ xs := by
  intro y hy
  rcases List.mem_or_eq_of_mem_set hy with hy | rfl
  · exact h _ hy
  · exact hv
theorem sdGo_mem {up : Value → Value → Bool} {new : Value} {start : Nat} {zs : List Value} : ∀ {f : Nat} {xs : List Value} {pos : Nat}, pos < xs.length → (∀ y ∈ xs, y ∈ zs) → ∀ y ∈ (sdGo up new start f xs pos).1, y ∈ zs
  | 0, _, _, _, h => h
  | f + 1, xs, pos, hp, h => by
    unfold sdGo
    split
    · split
      · exact sdGo_mem (by rw [List.length_set]; omega) (set_mem h (h _ (getD_mem (by omega))))
      · exact h
    · exact h
theorem sd_mem {up : Value → Value → Bool} {xs zs : List Value} {a b : Nat} (hb : b < xs.length) (h : ∀ y ∈ xs, y ∈ zs) : ∀ y ∈ sd up xs a b, y ∈ zs := by
  unfold sd; exact set_mem (sdGo_mem hb h) (h _ (getD_mem hb))
theorem suGo_pos {pick : Value → Value → Bool} : ∀ {f : Nat} {xs : List Value} {pos : Nat}, pos < xs.length → (suGo pick f xs pos).2 < xs.length
  | 0, _, _, h => h
  | f + 1, xs, pos, h => by
    unfold suGo
    split
    · have h1 := suPick_lt (pick := pick) (xs := xs) (c := 2 * pos + 1) (by omega)
      have := @suGo_pos pick f (xs.set pos (xs.getD (suPick pick xs (2 * pos + 1)) .none)) (suPick pick xs (2 * pos + 1)) (by rw [List.length_set]; exact h1)
      rwa [List.length_set] at this
    · exact h
theorem suGo_mem {pick : Value → Value → Bool} {zs : List Value} : ∀ {f : Nat} {xs : List Value} {pos : Nat}, (∀ y ∈ xs, y ∈ zs) → ∀ y ∈ (suGo pick f xs pos).1, y ∈ zs
  | 0, _, _, h => h
  | f + 1, xs, pos, h => by
    unfold suGo
    split
    · exact suGo_mem (set_mem h (h _ (getD_mem (suPick_lt (by omega)))))
    · exact h
theorem su_mem {up pick : Value → Value → Bool} {xs zs : List Value} {a : Nat} (ha : a < xs.length) (h : ∀ y ∈ xs, y ∈ zs) : ∀ y ∈ su up pick xs a, y ∈ zs := by
  unfold su
  refine sd_mem ?_ (set_mem (suGo_mem h) (h _ (getD_mem ha)))
  rw [List.length_set, suGo_len]; exact suGo_pos ha
theorem Pst.newL {α : Type} {c : Cx} {f : Fm} {σ : St} {h h' : Heap} {tk : Nat} {a : Addr} {o : Obj} {P : Obj → Prop} {Q : α → St → Prop} {v : α} (A : At c f σ h) (S : Sub h h') (hn : h.get? a = none) (e : h'.get? a = some o) (hP : P o)
    (q : Q v { σ with led := (a, P) :: σ.led, sz := none }) : Pst c f σ h Q v (mk c.s h' tk) :=
  ⟨{ σ with led := (a, P) :: σ.led, sz := none }, h', tk, rfl, ⟨A.hp.newL S hn e hP (fun U e => nomatch e), A.fr.keep fun b U o e => S b o e⟩, .newL S hn, q⟩
theorem Pst.grow {α : Type} {c : Cx} {f : Fm} {σ : St} {h h' : Heap} {tk : Nat} {Q : α → St → Prop} {v : α} (A : At c f σ h) (S : Sub h h') (q : Q v { σ with sz := none }) : Pst c f σ h Q v (mk c.s h' tk) :=
  ⟨{ σ with sz := none }, h', tk, rfl, ⟨A.hp.grow S (fun U e => nomatch e), A.fr.keep fun b U o e => S b o e⟩, .grow S, q⟩
noncomputable def IsRg (a n : Int) (o : Obj) : Prop := Ex3 fun t u v => o = { cls := .type "range", data := .fields #[.int a t, .int n u, .int 1 v] }
noncomputable def IsRI (a n d : Int) (o : Obj) : Prop := o = { cls := .type "range_iterator", data := .fields #[rawInt a, rawInt n, rawInt d] }
section
variable {c : Cx} {f : Fm} {σ : St}
theorem L_range {n : Int} {t : Tok} {Q : Value → St → Prop} (q : ∀ r, Q (.ref r) { σ with led := (r, IsRg 0 n) :: σ.led, sz := none }) : W c f (call (.type "range") [.int n t]) σ Q :=
  fun A E h tk r a => r_range1 fun x h' tk' t' v S hn e => Pst.newL a S hn e ⟨_, _, _, rfl⟩ (q x)
theorem L_reversed {r : Addr} {n : Nat} {Q : Value → St → Prop} (hm : (r, IsRg 0 (n : Int)) ∈ σ.led) (hn : n < 1000) (q : ∀ I, Q (.ref I) { σ with led := (I, IsRI ((n : Int) - 1) n (-1)) :: σ.led, sz := none }) : W c f (call (.type "reversed") [.ref r]) σ Q := by
  intro A E h tk rr a
  obtain ⟨o, e, t, u, v, (rfl)⟩ := a.hp.ld _ hm
  exact c_reversed e (by omega) (by omega) fun I h' S hI hR => Pst.newL (P := IsRI ((n : Int) - 1) n (-1)) a S hI hR rfl (q I)
theorem Iter_RI {I : Addr} {a d : Int} {n : Nat} : Iter c f σ [(I, IsRI a n d)] (.ref I) n (fun i v => ∃ t, v = .int (a + i * d) t) false 0 := by
  intro A E h tk Q r at0 k
  obtain ⟨o, e, (rfl)⟩ := at0.hp.ld (I, IsRI a n d) (.head _)
  have W := Walks.range (prog := c.prog) (w := c.w) (A := A) r.none I a d n
  have st0 : IsRangeIter h I (a + ((0 : Nat) : Int) * d) ((n : Int) - ((0 : Nat) : Int)) d := by
    have e1 : a + ((0 : Nat) : Int) * d = a := by simp
    have e2 : (n : Int) - ((0 : Nat) : Int) = n := by simp
    rw [e1, e2]; exact e
  exact W.self 0 (mk c.s h tk) _ _ st0 (k I [I] [I] _ h tk (.of W) st0 (Sub.refl _) (fun e => nomatch e) (fun b hb => .inr (.inr (by rw [List.mem_singleton.mp hb]; exact .head _))) (fun b hb => .inr (by rw [List.mem_singleton.mp hb]; exact .head _))
    (fun i h st b hb => by rw [List.mem_singleton.mp hb]; exact ⟨_, st⟩))
theorem W_divI {x y : Int} {t u : Tok} {Q : Value → St → Prop} (hy : y ≠ 0) (hs : y.natAbs < 2 ^ 29) (q : ∀ t, Q (.int (x.fdiv y) t) σ) : W c f (binaryOp .FloorDiv (.int x t) (.int y u)) σ Q :=
  fun U U U U U a => r_fdiv hy hs fun t U => .here a (q t)
end
section
variable {c : Cx} {f : Fm} {σ : St}
theorem W_modI {x y : Int} {t u : Tok} {Q : Value → St → Prop} (hy : y ≠ 0) (q : ∀ t, Q (.int (x.fmod y) t) σ) : W c f (binaryOp .Mod (.int x t) (.int y u)) σ Q :=
  fun U U U U U a => mod_int' hy (.here a (q _))
theorem W_eqI {x y : Int} {t u : Tok} {Q : Value → St → Prop} (q : Q (.bool (x == y)) σ) : W c f (compareOp .Eq (.int x t) (.int y u)) σ Q := fun U U U U U a => PyProof.Rows.eq_int (.here a q)
theorem W_neI {x y : Int} {t u : Tok} {Q : Value → St → Prop} (q : Q (.bool (x != y)) σ) : W c f (compareOp .NotEq (.int x t) (.int y u)) σ Q := fun U U U U U a => PyProof.Rows.ne_int (.here a q)
theorem W_geI {x y : Int} {t u : Tok} {Q : Value → St → Prop} (q : Q (.bool (decide (y ≤ x))) σ) : W c f (compareOp .GtE (.int x t) (.int y u)) σ Q := fun U U U U U a => PyProof.Rows.ge_int (.here a q)
theorem W_iaddI {x y : Int} {t u : Tok} {Q : Value → St → Prop} (q : ∀ t, Q (.int (x + y) t) σ) : W c f (inplaceOp .Add (.int x t) (.int y u)) σ Q := fun U U U U U a => PyProof.Rows.iadd_int (.here a (q _))
theorem L_itemI {l : Addr} {xs : List Value} {k : Int} {u : Tok} {Q : Value → St → Prop} (hl : Lst σ l xs) (h0 : 0 ≤ k) (hk : k < xs.length) (hz : xs.length ≤ 1000) (q : Q (xs.getD k.toNat .none) σ) :
    ∀ value slice, subscripted slice false (.ref l) (.int k u) = operate [.ref l, .int k u] (getItem (.ref l) (.int k u)) → W c f (subscriptTail value slice (.ref l) (.int k u)) σ Q :=
  fun U U hs => W_item hl h0 hk (by omega) hs q
noncomputable def LsG (g : Heap) (v : Value) (xs : List Value) : Prop := Ex2 fun l o => v = .ref l ∧ g.get? l = some o ∧ IsLs xs o
theorem LsG.sub {g g' : Heap} {v : Value} {xs : List Value} (x : LsG g v xs) (S : Sub g g') : LsG g' v xs := let ⟨l, o, a, b, d⟩ := x; ⟨l, o, a, S _ _ b, d⟩
theorem L_itemG {v : Value} {xs : List Value} {k : Int} {u : Tok} {Q : Value → St → Prop} (hl : LsG σ.g v xs) (h0 : 0 ≤ k) (hk : k < xs.length) (hz : xs.length ≤ 1000) (q : Q (xs.getD k.toNat .none) σ) :
    ∀ value slice, subscripted slice false v (.int k u) = operate [v, .int k u] (getItem v (.int k u)) → W c f (subscriptTail value slice v (.int k u)) σ Q := by
  obtain ⟨l, o, (rfl), e, p⟩ := hl
  exact L_itemI (.inl ⟨o, e, p⟩) h0 hk hz q
theorem L_lenG {v : Value} {xs : List Value} {Q : Value → St → Prop} (hl : LsG σ.g v xs) (hz : xs.length ≤ 1000) (q : ∀ t, Q (.int (xs.length : Nat) t) σ) : W c f (call (.builtin "len") [v]) σ Q := by
  obtain ⟨l, o, (rfl), e, p⟩ := hl
  exact L_len (.inl ⟨o, e, p⟩) hz q
theorem Iter_G {v : Value} {xs : List Value} (hl : LsG σ.g v xs) : Iter c f σ [] v xs.length (fun i v => xs[i]? = some v) true 1 := by
  obtain ⟨l, o, (rfl), e, p⟩ := hl
  exact Iter_list ⟨o, e, p⟩
theorem Iter_Rg {r : Addr} {a b : Int} {n : Nat} (hn : n = (b - a).toNat) (ha : -1000 ≤ a) (hb : -1000 ≤ b) (ha' : a ≤ 1000) (hb' : b ≤ 1000) : Iter c f σ [(r, IsRg a b)] (.ref r) n (fun i v => ∃ t, v = .int (a + i) t) false 0 := by
  intro A E h tk Q rr at0 k
  obtain ⟨o, e, t, u, v, (rfl)⟩ := at0.hp.ld (r, IsRg a b) (.head _)
  have hnn : h.get? h.objs.size = none := Heap.get?_none_of_le (Nat.le_refl _)
  have hsz : Builtin.Range.rangeSize a b 1 = (n : Int) := by rw [rangeSize_one]; split <;> omega
  refine wpAny_pyIter_range (s := mk c.s h tk) e (small_one (by omega) (by omega) (by omega) (by omega)) ?_
  have W := Walks.range (prog := c.prog) (w := c.w) (A := A) rr.none h.objs.size a 1 n
  have W' : Wk c.prog c.w A h.objs.size [h.objs.size] [h.objs.size] n (fun i v => ∃ t, v = .int (a + i) t) (fun i h' => IsRangeIter h' h.objs.size (a + (i : Nat) * 1) ((n : Int) - (i : Nat)) 1) false := by
    have W0 := Wk.of W
    exact ⟨W0.sub, W0.frame, fun i s Q E hi st kk => W0.item i s Q E hi st fun v h' tk p => kk v h' tk (by obtain ⟨t, p⟩ := p; exact ⟨t, by rw [p]; simp⟩), W0.done, W0.self⟩
  refine k _ _ _ _ _ _ W' ?_ (Sub.push _ _) (fun e => nomatch e) (fun b hb => ?_) (fun b hb => ?_) fun i h st b hb => ?_
  · show IsRangeIter _ _ _ _ _
    rw [hsz]
    simpa using Heap.get?_push_size _ rfl
  · rw [List.mem_singleton.mp hb]; exact .inr (.inl hnn)
  · rw [List.mem_singleton.mp hb]; exact .inl hnn
  · rw [List.mem_singleton.mp hb]; exact ⟨_, st⟩
theorem L_range2 {a b : Int} {t u : Tok} {Q : Value → St → Prop} (q : ∀ r, Q (.ref r) { σ with led := (r, IsRg a b) :: σ.led, sz := none }) : W c f (call (.type "range") [.int a t, .int b u]) σ Q :=
  fun A E h tk rr at0 => call_range_2 (s := mk c.s h tk) (Pst.newL at0 (Sub.push _ _) (Heap.get?_none_of_le (Nat.le_refl _)) (Heap.get?_push_size _ rfl) ⟨_, _, _, rfl⟩ (q _))
theorem L_min2 {a b : Int} {t u : Tok} {Q : Value → St → Prop} (q : ∀ t, Q (.int (min a b) t) { σ with sz := none }) : W c f (call (.builtin "min") [.int a t, .int b u]) σ Q :=
  fun A E h tk rr at0 => min_two_ints (s := mk c.s h tk) rr.none fun h' tk' S => by
    by_cases hb : b < a
    · rw [if_pos hb]; have := q u; rw [show min a b = b by omega] at this; exact Pst.grow at0 S this
    · rw [if_neg hb]; have := q t; rw [show min a b = a by omega] at this; exact Pst.grow at0 S this
theorem L_max2 {a b : Int} {t u : Tok} {Q : Value → St → Prop} (q : ∀ t, Q (.int (max a b) t) { σ with sz := none }) : W c f (call (.builtin "max") [.int a t, .int b u]) σ Q :=
  fun A E h tk rr at0 => max_two_ints (s := mk c.s h tk) rr.none fun h' tk' S => by
    by_cases hb : b > a
    · rw [if_pos hb]; have := q u; rw [show max a b = b by omega] at this; exact Pst.grow at0 S this
    · rw [if_neg hb]; have := q t; rw [show max a b = a by omega] at this; exact Pst.grow at0 S this
noncomputable def Ints : List Value → List Int → Prop
  | [], [] => True
  | v :: vs, n :: ns => (∃ t, v = .int n t) ∧ Ints vs ns
  | _, _ => False
theorem Ints.items : ∀ {vs : List Value} {ns : List Int}, Ints vs ns → ∃ xs : Array (Int × Tok), intItems xs = vs.toArray ∧ xs.toList.map (·.1) = ns
  | [], [], _ => ⟨#[], by simp [intItems], rfl⟩
  | v :: vs, n :: ns, h => by
    obtain ⟨⟨t, (rfl)⟩, h⟩ := h
    obtain ⟨xs, e1, e2⟩ := h.items
    refine ⟨((n, t) :: xs.toList).toArray, ?_, by simp [e2]⟩
    have : intItems xs = (xs.toList.map fun p => Value.int p.1 p.2).toArray := by
      unfold intItems; apply Array.ext'; simp
    rw [this] at e1
    have e3 : xs.toList.map (fun p => Value.int p.1 p.2) = vs := by
      have := congrArg Array.toList e1
      simpa using this
    simp [intItems, ← e3]
  | [], _ :: _, h => h.elim
  | _ :: _, [], h => h.elim
theorem L_sum {l : Addr} {vs : List Value} {ns : List Int} {Q : Value → St → Prop} (hl : Lst σ l vs) (hi : Ints vs ns) (q : ∀ t, Q (.int ns.sum t) { σ with sz := none }) : W c f (call (.builtin "sum") [.ref l]) σ Q := by
  intro A E h tk rr at0
  obtain ⟨xs, e1, e2⟩ := hi.items
  have hL := IsLs.isList (hl.at at0)
  rw [← e1] at hL
  refine sum_intListG (s := mk c.s h tk) rr.none hL fun h' tk' t' S => Pst.grow at0 S ?_
  have hs : preSum (numAt xs) xs.size = ns.sum := by
    rw [preSum_eq, List.take_of_length_le (by simp), e2]
  rw [hs]; exact q t'
theorem Ints.length : ∀ {vs : List Value} {ns : List Int}, Ints vs ns → vs.length = ns.length
  | [], [], _ => rfl
  | _ :: vs, _ :: ns, h => by simp [Ints.length h.2]
  | [], _ :: _, h => h.elim
  | _ :: _, [], h => h.elim
theorem Ints.take : ∀ {vs : List Value} {ns : List Int} (k : Nat), Ints vs ns → Ints (vs.take k) (ns.take k)
  | _, _, 0, _ => by simp [Ints]
  | [], [], k + 1, _ => by simp [Ints]
  | _ :: vs, _ :: ns, k + 1, h => ⟨h.1, Ints.take k h.2⟩
  | [], _ :: _, _, h => h.elim
  | _ :: _, [], _, h => h.elim
theorem Ints.drop : ∀ {vs : List Value} {ns : List Int} (k : Nat), Ints vs ns → Ints (vs.drop k) (ns.drop k)
  | vs, ns, 0, h => by simpa using h
  | [], [], k + 1, _ => by simp [Ints]
  | _ :: vs, _ :: ns, k + 1, h => by simpa using Ints.drop k h.2
  | [], _ :: _, _, h => h.elim
  | _ :: _, [], _, h => h.elim
theorem Ints.snoc : ∀ {vs : List Value} {ns : List Int} {n : Int} {t : Tok}, Ints vs ns → Ints (vs ++ [.int n t]) (ns ++ [n])
  | [], [], n, t, _ => ⟨⟨t, rfl⟩, trivial⟩
  | _ :: vs, _ :: ns, n, t, h => ⟨h.1, Ints.snoc h.2⟩
  | [], _ :: _, _, _, h => h.elim
  | _ :: _, [], _, _, h => h.elim
theorem L_slc {l : Addr} {xs : List Value} {vl vu : Value} {lo hi : Option Int} {ys : List Value} {Q : Value → St → Prop} (hl : Lst σ l xs) (hz : xs.length ≤ 1000) (pl : IsPart vl lo) (pu : IsPart vu hi) (e : (slicePick xs.toArray lo hi none).toList = ys)
    (q : ∀ a, σ.g.get? a = none → a ∉ adr σ.led → Q (.ref a) { σ with led := (a, IsLs ys) :: σ.led, sz := szUp σ 2 }) : SlcOk σ (.ref l) vl vu Q :=
  ⟨l, xs, lo, hi, rfl, hl, Nat.le_trans hz (by decide), pl, pu, by rw [e]; exact q⟩
end
noncomputable def ThG (g : Heap) (v : Value) (p : Int × Int) : Prop := Ex2 fun t u => LsG g v [.int p.1 t, .int p.2 u]
theorem ThG.sub {g g' : Heap} {v : Value} {p : Int × Int} (x : ThG g v p) (S : Sub g g') : ThG g' v p := let ⟨t, u, a⟩ := x; ⟨t, u, a.sub S⟩
noncomputable def Ths (g : Heap) (vs : List Value) (ps : List (Int × Int)) : Prop := vs.length = ps.length ∧ ∀ (i : Nat) v, vs[i]? = some v → ∃ p, ps[i]? = some p ∧ ThG g v p
/- what is left of an expression, by name: a step of a walk says the step's names alone -/
section
variable (c : Cx) (f : Fm)
noncomputable def kNeg (Q : Value → St → Prop) (x : Value) (σ : St) : Prop := W c f (unaryOp .USub x) σ Q
noncomputable abbrev kBin2 (op : Operator) (x : Value) (Q : Value → St → Prop) (y : Value) (σ : St) : Prop := W c f (binaryOp op x y) σ Q
noncomputable def kBin (op : Operator) (b : PE) (Q : Value → St → Prop) (x : Value) (σ : St) : Prop := wpE c f b σ (kBin2 c f op x Q)
noncomputable abbrev kCmp2 (op : CmpOp) (x : Value) (Q : Value → St → Prop) (y : Value) (σ : St) : Prop := W c f (compareOp op x y) σ Q
noncomputable def kCmp (op : CmpOp) (b : PE) (Q : Value → St → Prop) (x : Value) (σ : St) : Prop := wpE c f b σ (kCmp2 c f op x Q)
noncomputable def kSub2 (x : Value) (Q : Value → St → Prop) (y : Value) (σ : St) : Prop := ∀ value slice, subscripted slice false x y = operate [x, y] (getItem x y) → W c f (subscriptTail value slice x y) σ Q
noncomputable def kSub (b : PE) (Q : Value → St → Prop) (x : Value) (σ : St) : Prop := wpE c f b σ (kSub2 c f x Q)
noncomputable abbrev kCall2 (fv : Value) (Q : Value → St → Prop) (vs : List Value) (σ : St) : Prop := W c f (call fv vs) σ Q
noncomputable abbrev kCall (as : PE) (Q : Value → St → Prop) (fv : Value) (σ : St) : Prop := (Gr c.w σ.g → Plain c σ.g fv) ∧ wpL c f as σ (kCall2 c f fv Q)
noncomputable abbrev kApp2 (ov : Value) (Q : Value → St → Prop) (xv : Value) (σ : St) : Prop := W c f (call (.builtin "list.append") [ov, xv]) σ Q
noncomputable abbrev kApp (x : PE) (Q : Value → St → Prop) (ov : Value) (σ : St) : Prop := (Ex2 fun l xs => ov = .ref l ∧ Lst σ l xs) ∧ wpE c f x σ (kApp2 c f ov Q)
noncomputable abbrev kList (Q : Value → St → Prop) (vs : List Value) (σ : St) : Prop := W c f (newList vs) σ Q
noncomputable abbrev kTup (Q : Value → St → Prop) (vs : List Value) (σ : St) : Prop := W c f (newTuple vs) σ Q
noncomputable def kIfe (a b : PE) (Q : Value → St → Prop) (z : Bool) (σ : St) : Prop := if z = true then wpE c f a σ Q else wpE c f b σ Q
noncomputable abbrev kAtt (Q : Value → St → Prop) (x : Value) (σ : St) : Prop := W c f (getAttr x ("obj" : Str) true) σ Q
noncomputable abbrev kSlc3 (x vl : Value) (Q : Value → St → Prop) (vu : Value) (σ : St) : Prop := SlcOk σ x vl vu Q
noncomputable def kSlc2 (x : Value) (hi : PE) (Q : Value → St → Prop) (vl : Value) (σ : St) : Prop := wpO c f hi σ (kSlc3 x vl Q)
noncomputable def kSlc (lo hi : PE) (Q : Value → St → Prop) (x : Value) (σ : St) : Prop := wpO c f lo σ (kSlc2 c f x hi Q)
noncomputable abbrev kCall0 (Q : Value → St → Prop) (fv : Value) (σ : St) : Prop := (∃ T, fv = .type T) ∧ W c f (call fv []) σ Q
noncomputable abbrev kCk3 (ks : List Str) (fv : Value) (vs : List Value) (Q : Value → St → Prop) (kvs : List Value) (σ : St) : Prop := W c f (call fv vs (ks.zip kvs)) σ Q
noncomputable def kCk2 (ks : List Str) (kv : PE) (fv : Value) (Q : Value → St → Prop) (vs : List Value) (σ : St) : Prop := wpL c f kv σ (kCk3 c f ks fv vs Q)
noncomputable abbrev kCk (as : PE) (ks : List Str) (kv : PE) (Q : Value → St → Prop) (fv : Value) (σ : St) : Prop := (∃ id, fv = .builtin id) ∧ wpL c f as σ (kCk2 c f ks kv fv Q)
noncomputable abbrev kSort (rev : Bool) (Q : Value → St → Prop) (ov : Value) (σ : St) : Prop := (Ex2 fun l xs => ov = .ref l ∧ Lst σ l xs) ∧ W c f (call (.builtin "list.sort") [ov] (if rev = true then [("reverse", .bool true)] else [])) σ Q
noncomputable def kTT (tst : PE) (f1 : Fm) (σ : St) (Q : Bool → St → Prop) : Prop := wpTst c f1 tst σ Q
noncomputable def kEE (elt : PE) (f1 : Fm) (σ : St) (Q : Value → St → Prop) : Prop := wpE c f1 elt σ Q
noncomputable abbrev kComp (fr : List (Option Nat)) (elt : PE) (i : Nat) (tst : PE) (Q : Value → St → Prop) (v : Value) (σ : St) : Prop := CompW c f fr i (kTT c tst) (kEE c elt) Q v σ
noncomputable abbrev kCompT (fr : List (Option Nat)) (elt : PE) (is : List Nat) (Q : Value → St → Prop) (v : Value) (σ : St) : Prop := CompTW c f fr is (kEE c elt) Q v σ
noncomputable def kL2 (v : Value) (Q : List Value → St → Prop) (vs : List Value) (σ : St) : Prop := Q (v :: vs) σ
noncomputable def kL (r : PE) (Q : List Value → St → Prop) (v : Value) (σ : St) : Prop := wpL c f r σ (kL2 v Q)
noncomputable abbrev kTr (Q : Bool → St → Prop) (z : Value) (σ : St) : Prop := W c f (truthy z) σ Q
noncomputable def kAnd (b : PE) (Q : Bool → St → Prop) (z : Bool) (σ : St) : Prop := if z = true then wpT c f b σ Q else Q false σ
noncomputable def kOr (b : PE) (Q : Bool → St → Prop) (z : Bool) (σ : St) : Prop := if z = true then Q true σ else wpT c f b σ Q
noncomputable def kNot (Q : Bool → St → Prop) (z : Bool) (σ : St) : Prop := Q (!z) σ
noncomputable def kAsg (i : Nat) (Q : Flow → St → Prop) (v : Value) (σ : St) : Prop := Q .next { σ with vs := σ.vs.set i (some v) }
noncomputable abbrev kSet3 (v o : Value) (Q : Flow → St → Prop) (i : Value) (σ : St) : Prop := W c f (setItem o i v) σ fun _ σ => Q .next σ
noncomputable def kSet2 (v : Value) (i : PE) (Q : Flow → St → Prop) (o : Value) (σ : St) : Prop := wpE c f i σ (kSet3 c f v o Q)
noncomputable def kSet (o i : PE) (Q : Flow → St → Prop) (v : Value) (σ : St) : Prop := wpE c f o σ (kSet2 c f v i Q)
noncomputable abbrev kAug (i : Nat) (op : Operator) (x : Value) (Q : Flow → St → Prop) (y : Value) (σ : St) : Prop := W c f (inplaceOp op x y) σ (kAsg i Q)
noncomputable def kRet (Q : Flow → St → Prop) (v : Value) (σ : St) : Prop := Q (.ret v) σ
noncomputable def kIf (a b : PS) (Q : Flow → St → Prop) (z : Bool) (σ : St) : Prop := if z = true then nx c f a Q σ else nx c f b Q σ
noncomputable abbrev kTgt (is : List Nat) (Q : Flow → St → Prop) (v : Value) (σ : St) : Prop := UnpOk σ v is.length fun vals => Q .next { σ with vs := setAll σ.vs is vals, sz := szUp σ 3 }
noncomputable abbrev kSwp (i j : Nat) (Q : Flow → St → Prop) (v : Value) (σ : St) : Prop := Ex4 fun T v1 v2 o => v = .ref T ∧ σ.g.get? T = some o ∧ IsT [v1, v2] o ∧ Q .next { σ with vs := (σ.vs.set j (some v2)).set i (some v1), sz := szUp σ 3 }
noncomputable def flw (Q : Flow → St → Prop) (N : St → Prop) (fl : Flow) (σ : St) : Prop := match fl with
  | .next | .cont => N σ
  | .brk => Q .next σ
  | .ret v => Q (.ret v) σ
noncomputable def frZ (J : Nat → St → Prop) (z : Bool) (k : Nat) (σ : St) : Prop := Frz (J k) { σ with sz := zAdd z 0 σ.sz }
noncomputable abbrev kFor (i : Nat) (b : PS) (Q : Flow → St → Prop) (v : Value) (σ : St) : Prop := Ex6 fun D led n P z zk => σ.led.Perm (D ++ led) ∧ Iter c f { σ with led := led } D v n P z zk ∧ ∃ J : Nat → St → Prop, Frz (J 0) { σ with led := led, sz := zAdd z zk σ.sz } ∧
      (∀ k v σ', k < n → P k v → Sub σ.g σ'.g → J k σ' → nx c f b (flw Q (frZ J z (k + 1))) { σ' with vs := σ'.vs.set i (some v) }) ∧ ∀ σ', Sub σ.g σ'.g → J n σ' → Q .next { σ' with sz := zAdd z 2 σ'.sz }
end
section
variable {c : Cx} {f : Fm} {σ : St} {Q : Value → St → Prop} {S : Flow → St → Prop} {T : Bool → St → Prop} {L : List Value → St → Prop}
theorem e_v {i : Nat} {x : Value} (h : (σ.vs[i]?).join = some x) (q : Q x σ) : wpE c f (.v i) σ Q := by
  show (match (σ.vs[i]?).join with | some x => Q x σ | none => False)
  rw [h]; exact q
theorem e_g {x : Value} (q : Q x σ) : wpE c f (.g x) σ Q := q
theorem e_int {n : Int} (q : ∀ t, Q (.int n t) σ) : wpE c f (.int n) σ Q := q
theorem e_none (q : Q .none σ) : wpE c f .none σ Q := q
theorem e_tt {b : Bool} (q : Q (.bool b) σ) : wpE c f (.tt b) σ Q := q
theorem e_neg {a : PE} (h : wpE c f a σ (kNeg c f Q)) : wpE c f (.neg a) σ Q := h
theorem e_bin {op : Operator} {a b : PE} (h : wpE c f a σ (kBin c f op b Q)) : wpE c f (.bin op a b) σ Q := h
theorem e_cmp {op : CmpOp} {a b : PE} (h : wpE c f a σ (kCmp c f op b Q)) : wpE c f (.cmp op a b) σ Q := h
theorem e_sub {a b : PE} (h : wpE c f a σ (kSub c f b Q)) : wpE c f (.sub a b) σ Q := h
theorem e_call {g as : PE} (h : wpE c f g σ (kCall c f as Q)) : wpE c f (.call g as) σ Q := h
theorem e_app {o x : PE} (h : wpE c f o σ (kApp c f x Q)) : wpE c f (.app o x) σ Q := h
theorem e_list {es : PE} (h : wpL c f es σ (kList c f Q)) : wpE c f (.list es) σ Q := h
theorem e_tup {es : PE} (h : wpL c f es σ (kTup c f Q)) : wpE c f (.tup es) σ Q := h
theorem e_ife {t a b : PE} (h : wpT c f t σ (kIfe c f a b Q)) : wpE c f (.ife t a b) σ Q := h
theorem e_att {a : PE} (h : wpE c f a σ (kAtt c f Q)) : wpE c f (.att a) σ Q := h
theorem e_slc {a lo hi : PE} (h : wpE c f a σ (kSlc c f lo hi Q)) : wpE c f (.slc a lo hi) σ Q := h
theorem e_call0 {g : PE} (h : wpE c f g σ (kCall0 c f Q)) : wpE c f (.call0 g) σ Q := h
theorem e_callk {g as : PE} {ks : List Str} {kv : PE} (h : wpE c f g σ (kCk c f as ks kv Q)) : wpE c f (.callk g as ks kv) σ Q := h
theorem e_sort {o : PE} {rev : Bool} (h : wpE c f o σ (kSort c f rev Q)) : wpE c f (.sort o rev) σ Q := h
theorem e_compN {ns : List (Str × NameKind)} {fr : List (Option Nat)} {elt : PE} {i : Nat} {tst it : PE} (h : wpE c f it σ (kComp c f fr elt i tst Q)) : wpE c f (.compN ns fr elt i tst it) σ Q := h
theorem e_compT {ns : List (Str × NameKind)} {fr : List (Option Nat)} {elt : PE} {is : List Nat} {it : PE} (h : wpE c f it σ (kCompT c f fr elt is Q)) : wpE c f (.compT ns fr elt is it) σ Q := h
theorem o_nil (q : Q .none σ) : wpO c f .nil σ Q := q
theorem o_cons {a r : PE} (q : wpE c f a σ Q) : wpO c f (.cons a r) σ Q := q
theorem n_nil (q : T true σ) : wpTst c f .nil σ T := q
theorem n_cons {a r : PE} (q : wpT c f a σ T) : wpTst c f (.cons a r) σ T := q
theorem l_nil (q : L [] σ) : wpL c f .nil σ L := q
theorem l_cons {e r : PE} (h : wpE c f e σ (kL c f r L)) : wpL c f (.cons e r) σ L := h
theorem t_cmp {op : CmpOp} {a b : PE} (h : wpE c f a σ (kCmp c f op b (kTr c f T))) : wpT c f (.cmp op a b) σ T := h
theorem t_and {a b : PE} (h : wpT c f a σ (kAnd c f b T)) : wpT c f (.and a b) σ T := h
theorem t_andN (q : T true σ) : wpT c f .andN σ T := q
theorem t_or {a b : PE} (h : wpT c f a σ (kOr c f b T)) : wpT c f (.or a b) σ T := h
theorem t_orN (q : T false σ) : wpT c f .orN σ T := q
theorem t_not {a : PE} (h : wpT c f a σ (kNot T)) : wpT c f (.not a) σ T := h
theorem t_v {i : Nat} {x : Value} (h : (σ.vs[i]?).join = some x) (q : W c f (truthy x) σ T) : wpT c f (.v i) σ T := by
  show (match (σ.vs[i]?).join with | some x => W c f (truthy x) σ T | none => False)
  rw [h]; exact q
/- what comes next -/
theorem k_neg {x : Value} (h : W c f (unaryOp .USub x) σ Q) : kNeg c f Q x σ := h
theorem k_bin {op : Operator} {b : PE} {x : Value} (h : wpE c f b σ (kBin2 c f op x Q)) : kBin c f op b Q x σ := h
theorem k_cmp {op : CmpOp} {b : PE} {x : Value} (h : wpE c f b σ (kCmp2 c f op x Q)) : kCmp c f op b Q x σ := h
theorem k_sub {b : PE} {x : Value} (h : wpE c f b σ (kSub2 c f x Q)) : kSub c f b Q x σ := h
theorem k_sub2 {x y : Value} (h : ∀ value slice, subscripted slice false x y = operate [x, y] (getItem x y) → W c f (subscriptTail value slice x y) σ Q) : kSub2 c f x Q y σ := h
theorem k_callB {as : PE} {id : String} (h : wpL c f as σ (kCall2 c f (.builtin id) Q)) : kCall c f as Q (.builtin id) σ := ⟨Plain.bui', h⟩
theorem k_callT {as : PE} {id : String} (h : wpL c f as σ (kCall2 c f (.type id) Q)) : kCall c f as Q (.type id) σ := ⟨Plain.typ', h⟩
theorem k_ckB {as : PE} {ks : List Str} {kv : PE} {id : String} (h : wpL c f as σ (kCk2 c f ks kv (.builtin id) Q)) : kCk c f as ks kv Q (.builtin id) σ := ⟨⟨_, rfl⟩, h⟩
theorem k_ck2 {ks : List Str} {kv : PE} {fv : Value} {vs : List Value} (h : wpL c f kv σ (kCk3 c f ks fv vs Q)) : kCk2 c f ks kv fv Q vs σ := h
theorem k_slc {lo hi : PE} {x : Value} (h : wpO c f lo σ (kSlc2 c f x hi Q)) : kSlc c f lo hi Q x σ := h
theorem k_slc2 {x vl : Value} {hi : PE} (h : wpO c f hi σ (kSlc3 x vl Q)) : kSlc2 c f x hi Q vl σ := h
theorem k_ife {a b : PE} {z : Bool} (h : if z = true then wpE c f a σ Q else wpE c f b σ Q) : kIfe c f a b Q z σ := h
theorem k_l {r : PE} {v : Value} (h : wpL c f r σ (kL2 v L)) : kL c f r L v σ := h
theorem k_l2 {v : Value} {vs : List Value} (h : L (v :: vs) σ) : kL2 v L vs σ := h
theorem k_and {b : PE} {z : Bool} (h : if z = true then wpT c f b σ T else T false σ) : kAnd c f b T z σ := h
theorem k_or {b : PE} {z : Bool} (h : if z = true then T true σ else wpT c f b σ T) : kOr c f b T z σ := h
theorem k_not {z : Bool} (h : T (!z) σ) : kNot T z σ := h
theorem k_tr {z : Bool} (h : T z σ) : kTr c f T (.bool z) σ := W_truthB h
theorem k_TT {tst : PE} {f1 : Fm} (h : wpTst c f1 tst σ T) : kTT c tst f1 σ T := h
theorem k_EE {elt : PE} {f1 : Fm} (h : wpE c f1 elt σ Q) : kEE c elt f1 σ Q := h
theorem k_asg {i : Nat} {v : Value} {g : Heap} {vs vs' : List (Option Value)} {led : Ledger} {sz : Option Nat} (h : vs.set i (some v) = vs') (q : S .next ⟨g, vs', led, sz⟩) : kAsg i S v ⟨g, vs, led, sz⟩ := by subst h; exact q
theorem i_t {a b : Prop} (h : a) : if (true : Bool) = true then a else b := h
theorem i_f {a b : Prop} (h : b) : if (false : Bool) = true then a else b := h
theorem k_set {o i : PE} {v : Value} (h : wpE c f o σ (kSet2 c f v i S)) : kSet c f o i S v σ := h
theorem k_set2 {i : PE} {v o : Value} (h : wpE c f i σ (kSet3 c f v o S)) : kSet2 c f v i S o σ := h
theorem k_ret {v : Value} (h : S (.ret v) σ) : kRet S v σ := h
theorem k_if {a b : PS} {z : Bool} (h : if z = true then nx c f a S σ else nx c f b S σ) : kIf c f a b S z σ := h
theorem k_sqN {N : St → Prop} (h : N σ) : sq N S .next σ := h
theorem k_sqR {N : St → Prop} {v : Value} (h : S (.ret v) σ) : sq N S (.ret v) σ := h
theorem k_sqB {N : St → Prop} (h : S .brk σ) : sq N S .brk σ := h
theorem k_sqC {N : St → Prop} (h : S .cont σ) : sq N S .cont σ := h
theorem k_fwN {N : St → Prop} (h : N σ) : flw S N .next σ := h
theorem k_fwC {N : St → Prop} (h : N σ) : flw S N .cont σ := h
theorem k_fwB {N : St → Prop} (h : S .next σ) : flw S N .brk σ := h
theorem k_fwR {N : St → Prop} {v : Value} (h : S (.ret v) σ) : flw S N (.ret v) σ := h
theorem k_frZ {J : Nat → St → Prop} {z : Bool} {k : Nat} (h : Frz (J k) { σ with sz := zAdd z 0 σ.sz }) : frZ J z k σ := h
theorem k_flN {σ0 : St} {N : St → Prop} (h : N σ) : flowTo σ0 S N .next σ := h
theorem k_flC {σ0 : St} {N : St → Prop} (h : N σ) : flowTo σ0 S N .cont σ := h
theorem k_flB {σ0 : St} {N : St → Prop} (h : S .next σ) : flowTo σ0 S N .brk σ := h
theorem k_flR {σ0 : St} {N : St → Prop} {v : Value} (h : S (.ret v) σ) : flowTo σ0 S N (.ret v) σ := h
theorem k_nrN {v : Value} (h : S .next σ) : notRef S v σ := h
theorem k_rq {muts : Ledger} {P : Post} {v : Value} (h : RetOk muts P v σ) : RetQ muts P (.ret v) σ := h
theorem k_rqN {muts : Ledger} {P : Post} (h : RetOk muts P .none σ) : RetQ muts P .next σ := h
theorem p_asg {i : Nat} {e : PE} (h : wpE c f e σ (kAsg i S)) : wpS c f (.asg i e) σ S := h
theorem p_asgC {i : Nat} {e : PE} (h : wpE c f e σ (kAsg i S)) : wpS c f (.asgC i e) σ S := h
theorem p_setI {o i v : PE} (h : wpE c f v σ (kSet c f o i S)) : wpS c f (.setI o i v) σ S := h
theorem p_aug {i : Nat} {op : Operator} {e : PE} {x : Value} (hx : (σ.vs[i]?).join = some x) (h : wpE c f e σ (kAug c f i op x S)) : wpS c f (.aug i op e) σ S := s_aug hx h
theorem p_ret {e : PE} (h : wpE c f e σ (kRet S)) : wpS c f (.ret e) σ S := h
theorem p_if {t : PE} {a b : PS} (h : wpT c f t σ (kIf c f a b S)) : wpS c f (.ifS t a b) σ S := h
theorem p_asgT {is : List Nat} {e : PE} (h : wpE c f e σ (kTgt is S)) : wpS c f (.asgT is e) σ S := h
theorem p_asgS {i j : Nat} {e : PE} (h : wpE c f e σ (kSwp i j S)) : wpS c f (.asgS i j e) σ S := h
theorem p_forN {i : Nat} {it : PE} {b : PS} (h : wpE c f it σ (kFor c f i b S)) : wpS c f (.forN i it b) σ S := by
  have e : ∀ (σ0 : St) (N : St → Prop), flw S N = flowTo σ0 S N := fun σ0 N => by funext fl σ; cases fl <;> rfl
  unfold kFor at h
  simp only [e σ] at h
  exact h
noncomputable def vI : Option Value → Option Int
  | some (.int n _) => some n
  | _ => none
noncomputable def opI (op : Operator) (x y : Option Int) : Option Int := match op, x, y with
  | .Add, some x, some y => some (x + y)
  | .Sub, some x, some y => some (x - y)
  | .Mult, some x, some y => bif decide (Builtin.Int.intBits y ≤ 64) then some (x * y) else none
  | .FloorDiv, some x, some y => bif decide (y ≠ 0 ∧ y.natAbs < 2 ^ 29) then some (x.fdiv y) else none
  | .Mod, some x, some y => bif decide (y ≠ 0) then some (x.fmod y) else none
  | _, _, _ => none
noncomputable def evI (vs : List (Option Value)) (e : PE) : Option Int := PE.rec (motive := fun U => Option Int)
  (fun i => vI ((vs[i]?).join)) (fun U => none) (fun n => some n) none (fun U x => x.map fun n => -n) (fun op U U x y => opI op x y) (fun U U U U U => none) (fun U U U U => none) (fun U U U U U U => none) (fun U => none) (fun U U => none)
  (fun U U U U => none) (fun U U => none) (fun U U U U U U U => none) (fun U U U U => none) (fun U U U => none) (fun U U => none) (fun U U => none) none (fun U U U U => none)
  (fun U U U U U U => none) (fun U U U U => none) none (fun U U U U => none) none (fun U U => none) (fun U U U U U U U U U => none) (fun U U U U U U U => none) e
end
theorem opI_wp {c : Cx} {f : Fm} {σ : St} {op : Operator} {x y : Option Int} {n : Int} (h : opI op x y = some n) : Ex2 fun a b => x = some a ∧ y = some b ∧ ∀ {t u : Tok} {Q : Value → St → Prop}, (∀ t, Q (.int n t) σ) → W c f (binaryOp op (.int a t) (.int b u)) σ Q := by
  cases x with
  | none => cases op <;> cases h
  | some a =>
    cases y with
    | none => cases op <;> cases h
    | some b =>
      refine ⟨a, b, rfl, rfl, fun {t u Q} q => ?_⟩
      cases op with
      | Add => cases h; exact W_addI q
      | Sub => cases h; exact W_subI q
      | Mult =>
        change (bif decide _ then some (a * b) else none) = some n at h
        cases hd : decide (Builtin.Int.intBits b ≤ 64) with
        | false => rw [hd] at h; cases h
        | true => rw [hd] at h; cases h; exact W_mulI (IntMulOk.of_right (of_decide_eq_true hd)) q
      | FloorDiv =>
        change (bif decide _ then some (a.fdiv b) else none) = some n at h
        cases hd : decide (b ≠ 0 ∧ b.natAbs < 2 ^ 29) with
        | false => rw [hd] at h; cases h
        | true => rw [hd] at h; cases h; exact W_divI (of_decide_eq_true hd).1 (of_decide_eq_true hd).2 q
      | Mod =>
        change (bif decide _ then some (a.fmod b) else none) = some n at h
        cases hd : decide (b ≠ 0) with
        | false => rw [hd] at h; cases h
        | true => rw [hd] at h; cases h; exact W_modI (of_decide_eq_true hd) q
      | _ => cases h
theorem e_I {c : Cx} {f : Fm} {σ : St} {e : PE} : ∀ {n : Int} {Q : Value → St → Prop}, evI σ.vs e = some n → (∀ t, Q (.int n t) σ) → wpE c f e σ Q := by
  induction e with
  | int k => intro n Q h q; cases h; exact q
  | v i =>
    intro n Q h q
    change vI _ = _ at h
    cases e : (σ.vs[i]?).join with
    | none => rw [e] at h; cases h
    | some x =>
      rw [e] at h
      cases x with
      | int m t => cases h; exact e_v e (q t)
      | _ => cases h
  | neg a ih =>
    intro n Q h q
    change (evI σ.vs a).map _ = _ at h
    cases ha : evI σ.vs a with
    | none => rw [ha] at h; cases h
    | some x =>
      rw [ha] at h; cases h
      exact e_neg (ih ha fun t => W_negI q)
  | bin op a b iha ihb =>
    intro n Q h q
    change opI op (evI σ.vs a) (evI σ.vs b) = _ at h
    obtain ⟨x, y, ea, eb, k⟩ := opI_wp (c := c) (f := f) (σ := σ) h
    exact e_bin (iha ea fun t => k_bin (ihb eb fun u => k q))
  | _ => intro n Q h; cases h
noncomputable def opB (op : CmpOp) (x y : Option Int) : Option Bool := match op, x, y with
  | .Lt, some x, some y => some (decide (x < y))
  | .Gt, some x, some y => some (decide (x > y))
  | .GtE, some x, some y => some (decide (y ≤ x))
  | .Eq, some x, some y => some (x == y)
  | _, _, _ => none
theorem t_I {c : Cx} {f : Fm} {σ : St} {op : CmpOp} {a b : PE} {z : Bool} {T : Bool → St → Prop} (h : opB op (evI σ.vs a) (evI σ.vs b) = some z) (q : T z σ) : wpT c f (.cmp op a b) σ T := by
  cases ha : evI σ.vs a with
  | none => rw [ha] at h; cases op <;> cases h
  | some x =>
    cases hb : evI σ.vs b with
    | none => rw [ha, hb] at h; cases op <;> cases h
    | some y =>
      rw [ha, hb] at h
      refine t_cmp (e_I ha fun t => k_cmp (e_I hb fun u => ?_))
      cases op with
      | Lt => cases h; exact W_ltI (k_tr q)
      | Gt => cases h; exact W_gtI (k_tr q)
      | GtE => cases h; exact W_geI (k_tr q)
      | Eq => cases h; exact W_eqI (k_tr q)
      | _ => cases h
theorem e_Ib {c : Cx} {f : Fm} {σ : St} {op : Operator} {a b : PE} {n : Int} {Q : Value → St → Prop} (h : evI σ.vs (.bin op a b) = some n) (q : ∀ t, Q (.int n t) σ) : wpE c f (.bin op a b) σ Q := e_I h q
theorem e_In {c : Cx} {f : Fm} {σ : St} {a : PE} {n : Int} {Q : Value → St → Prop} (h : evI σ.vs (.neg a) = some n) (q : ∀ t, Q (.int n t) σ) : wpE c f (.neg a) σ Q := e_I h q
theorem ls1 {p : Prop} {α : Type} {a : α} {l : List α} : p ∨ a ∈ a :: l := .inr (.head _)
theorem ls2 {p : Prop} {α : Type} {a b : α} {l : List α} : p ∨ a ∈ b :: a :: l := .inr (.tail _ (.head _))
theorem ls3 {p : Prop} {α : Type} {a b c : α} {l : List α} : p ∨ a ∈ b :: c :: a :: l := .inr (.tail _ (.tail _ (.head _)))
theorem ls0 {α : Type} {P Q : α → Prop} {r : Prop} {o : α} (h : P o) (k : Q o) : (∃ o, P o ∧ Q o) ∨ r := .inl ⟨o, h, k⟩
theorem lu2 {a b : Addr} {P P' R : Obj → Prop} {l : Ledger} : LU ((b, R) :: (a, P) :: l) a P P' ((b, R) :: (a, P') :: l) := .there .here
theorem lu3 {a b d : Addr} {P P' R R' : Obj → Prop} {l : Ledger} : LU ((b, R) :: (d, R') :: (a, P) :: l) a P P' ((b, R) :: (d, R') :: (a, P') :: l) := .there (.there .here)
section
open Lean
def mcWG (g out : Array Syntax) : Array Syntax := if g.isEmpty then out else out.push (mcQ #[mcR #[mcF g]])
def mcTk : Syntax := mcIn #[mcI "tk"]
def mcCk (k t : Syntax) : Syntax := mcP #[mc "{Tactic.case case { {Tactic.caseArg {!Lean.binderIdent $1 } { } } } => $0 }" #[mcQ #[t], k]]
def mcRk (k l : Syntax) : Syntax := mcP #[mcR #[mc "{Tactic.refine' refine' {Term.app $1 { {Term.syntheticHole ? $0 } {Term.syntheticHole ? _ } } } }" #[k, l]]]
def mcWB (k : Syntax) (s : Array Syntax × Array Syntax) (w : String) : Array Syntax × Array Syntax :=
  let c := w.back
  let rf := #[mc "{Tactic.refine refine {Term.app $0 { {Term.syntheticHole ? _ } } } }" #[mcI (if c == '*' then (w.dropEnd 1).toString else w)]]
  let f := mcRk k (mcI (w.dropEnd 1).toString)
  let e := mc "{Tactic.exact exact %rfl }" #[]
  let out (t : Array Syntax) : Array Syntax × Array Syntax := (#[], (mcWG s.1 s.2).push (mcQ t))
  if c == '=' then out #[f, mcCk k e]
  else if c == '!' then out #[f, mcCk k (mc mcD #[]), mcTk]
  else if c == '#' then out #[f, mcCk k e, mcTk]
  else (s.1.push (mcQ (if c == '*' then rf.push mcTk else rf)), s.2)
def mcWA (k : Syntax) (ws : List String) : Syntax :=
  let s := ws.foldl (mcWB k) (#[], #[])
  mcF ((mcWG s.1 s.2).push mcFl)
def mcSm (s ls : String) : Syntax := mc ("{Tactic." ++ s ++ " " ++ s ++ " {Tactic.optConfig { } } { } { only } { [ $0 ] } { } }") #[mcs ((ls.splitOn " ").map fun w => mc "{Tactic.simpLemma { } { } $0 }" #[mcI w]).toArray ","]
def walkM (s : String) : MacroM Syntax := do
  let k := mkIdent (← Macro.addMacroScope `k1)
  let k2 := mkIdent (← Macro.addMacroScope `k2)
  let al (s : String) : MacroM Syntax := return mcWA k (s.splitOn " ")
  match s with
  | "st" => al "s_nx s_seq s_skip p_asg s_expr p_if p_forN p_ret p_setI p_asgC s_brk s_cont p_asgT p_asgS"
  | "ex" => al "e_v= e_g e_int* e_sub e_call e_Ib# e_bin e_app e_list e_tup e_slc e_none e_tt e_In# e_neg e_cmp e_ife e_att e_call0 e_callk e_sort e_compN e_compT"
  | "tl" => al "l_cons l_nil o_nil o_cons n_nil n_cons t_I= t_cmp t_and t_andN t_or t_orN t_not t_v="
  | "k1" => al "k_l k_l2 k_bin k_sub k_sub2 k_callB k_callT k_cmp"
  | "k2" => al "i_t i_f k_sqN k_fwN k_frZ k_flN k_fwB k_fwR k_fwC k_nrN k_if k_ret k_and k_or k_not k_tr k_ife k_slc k_slc2 k_ckB k_ck2 k_set k_set2 k_sqR k_flR k_rq k_rqN k_flC k_flB k_sqB k_sqC k_TT k_EE hQr hQn"
  | "l1" => al "W_addI* W_subI* W_shrI* W_negI* W_modI! W_ltI W_gtI W_eqI W_geI L_range* L_range2* L_min2* L_max2*"
  | "bd" =>
    let o := mc "{Tactic.omega omega {Tactic.optConfig { } } }" #[]
    return mcF #[mc1 mcA #[], mcQ #[o], mcQ #[mcSm "simp" "List.length_set List.length_append List.length_cons List.length_nil", o]]
  | "n" => return mcSm "dsimp" "List.getElem?_cons_zero List.getElem?_cons_succ Option.join_some List.set_cons_zero List.set_cons_succ"
  | "lst" => return mcF #[mcE "ls1" #[], mcE "ls2" #[], mcE "ls3" #[], mcE "ls0" #[mcB mcA, mcB mcA]]
  | "lu" => return mcF #[mcE "LU.here" #[], mcE "lu2" #[], mcE "lu3" #[]]
  | "k" => return mcF #[mcW "k1", mcQ #[mcRk k (mcI "k_asg"), mcCk k (mc "{Tactic.«tactic_<;>_» $0 <;> {Tactic.exact exact %rfl } }" #[mcSm "dsimp" "List.set_cons_succ List.set_cons_zero"])], mcW "k2"]
  | "lf" =>
    let d := mcCk k (mc mcD #[])
    return mcF #[mcW "l1", mcQ #[mcP #[mcR #[mc "{Tactic.refine' refine' {Term.app %W_divI { {Term.syntheticHole ? $0 } {Term.syntheticHole ? $1 } {Term.syntheticHole ? _ } } } }" #[k, k2]]], d, mcCk k2 (mc mcD #[]), mcTk], mcQ #[mcR #[mc "{Tactic.show show {Term.forall ∀ { {Term.explicitBinder ( { {Term.hole _ } } { : %PySem.Tok } { } ) } } { } , {Term.hole _ } } }" #[], mcTk]]]
  | "w" =>
    let f (n w : String) : Syntax := mcQ #[mcP #[mcR #[mc "{Tactic.show show {Term.app $0 { {Term.hole _ } {Term.hole _ } {Term.hole _ } {Term.hole _ } {Term.hole _ } } } }" #[mcI n]]], mc "{!PyProof.Rows.tacticWalk_at_ walk_at $0 }" #[Syntax.mkStrLit w]]
    return mcF #[f "wpE" "ex", f "wpT" "tl", f "W" "lf", f "wpS" "st", mcW "k", mcW "tl", mcW "st", mcW "lf", mcW "n"]
  | _ => Macro.throwUnsupported
end
end
local macro_rules | `(tactic| walk_at $s:str) => walkM s.getString
section
open _root_.PySem _root_.PySem.W _root_.PySem.Calls PyProof.Rows
set_option maxRecDepth 100000
end
section
open _root_.PySem _root_.PySem.W _root_.PySem.Calls PyProof.Rows
set_option maxRecDepth 100000
local macro_rules | `(tactic| walk_at "lf") => `(tactic| first
  | ((with_reducible refine' W_mulI ?k1 ?_); (case k1 => first | exact IntMulOk.of_left (by decide) | exact IntMulOk.of_right (by decide)); intro _)
  | ((with_reducible refine' L_item ?k1 ?k2 ?k3 ?_); (case k1 => walk_at "lst"); (case k2 => walk_at "bd"); (case k3 => walk_at "bd"))
  | ((with_reducible refine' L_set ?k1 ?k2 ?k3 ?_); (case k1 => walk_at "lu"); (case k2 => walk_at "bd"); (case k3 => walk_at "bd"))
  | ((with_reducible refine' L_len ?k1 ?k2 ?_); (case k1 => walk_at "lst"); (case k2 => walk_at "bd"); intro _)
  | fail)
noncomputable def cmpM (mx : Bool) (a b : PE) : PE := @Bool.casesOn (fun U => PE) mx (.cmp .Lt a b) (.cmp .Lt b a)
noncomputable def upB (mx : Bool) (lt : Value → Value → Bool) (n p : Value) : Bool := @Bool.casesOn (fun U => Bool) mx (lt n p) (lt p n)
theorem t_mx {c : Cx} {f : Fm} {σ : St} {T : Bool → St → Prop} {mx : Bool} {lt : Value → Value → Bool} {n p : Value} {i j : Nat} (hi : (σ.vs[i]?).join = some n) (hj : (σ.vs[j]?).join = some p) (h1 : LtIs c.prog c.w c.s c.d c.u σ.g n p (lt n p)) (h2 : LtIs c.prog c.w c.s c.d c.u σ.g p n (lt p n)) (q : T (upB mx lt n p) { σ with sz := none }) : wpT c f (cmpM mx (.v i) (.v j)) σ T := by
  cases mx with
  | false => exact t_cmp (e_v hi (k_cmp (e_v hj (L_ltV h1 (k_tr q)))))
  | true => exact t_cmp (e_v hj (k_cmp (e_v hi (L_ltV h2 (k_tr q)))))
theorem w_sd {c : Cx} {f : Fm} {mx : Bool} (hd : c.d ≤ 400) (hu : c.u ≤ 1000) {l : Addr} {xs : List Value} {start pos : Nat} {t u : Tok} {lt : Value → Value → Bool} {g : Heap} {z : Option Nat} {Q : Flow → St → Prop}
    (hlt : ∀ x ∈ xs, ∀ y ∈ xs, LtIs c.prog c.w c.s 400 1000 g x y (lt x y)) (hp : pos < xs.length) (hz : xs.length < 1000)
    (q : ∀ {g' vs z}, Sub g g' → Q .next ⟨g', vs, [(l, IsLs (sd (upB mx lt) xs start pos))], z⟩) :
    wpS c f (ir_sd (cmpM mx (.v 3) (.v 5))) ⟨g, [some (.ref l), some (.int start t), some (.int pos u), none, none, none], [(l, IsLs xs)], z⟩ Q := by
  unfold ir_sd
  repeat walk_at "w"
  have hmem : xs.getD pos .none ∈ xs := getD_mem hp
  delta sd at q
  generalize hnew : xs.getD pos .none = new at *
  refine s_whl (fun p σ => Ex6 fun g' ys tp a b z => σ = ⟨g', [some (.ref l), some (.int start t), some (.int (p : Nat) tp), some new, a, b], [(l, IsLs ys)], z⟩ ∧ Sub g g' ∧
    p < ys.length ∧ ys.length = xs.length ∧ (∀ y ∈ ys, y ∈ xs) ∧ sdGo (upB mx lt) new start p ys p = sdGo (upB mx lt) new start pos xs pos)
    pos (Frz.now fun g' S => ⟨g', xs, u, none, none, _, rfl, S, hp, rfl, fun U h => h, rfl⟩) ?_
  rintro p σ' - ⟨g', ys, tp, a, b, z, (rfl), S, hp', hlen, hsub, hgo⟩
  repeat walk_at "w"
  by_cases hb : start < p
  · have hb' : (start : Int) < p := by omega
    have e : ((p : Int) - 1).fdiv 2 = (((p - 1) / 2 : Nat) : Int) := by rw [Int.fdiv_eq_ediv_of_nonneg _ (by decide)]; omega
    simp only [hb', decide_true, if_true]
    repeat walk_at "w"
    simp only [e]
    repeat walk_at "w"
    have hpar : ys.getD ((p - 1) / 2) .none ∈ xs := hsub _ (getD_mem (by omega))
    refine t_mx (lt := lt) rfl rfl (((hlt _ hmem _ hpar).mono hd hu).sub S) (((hlt _ hpar _ hmem).mono hd hu).sub S) ?_
    repeat walk_at "w"
    cases hq : upB mx lt new (ys.getD ((p - 1) / 2) .none) with
    | true =>
      simp only [if_true]
      repeat walk_at "w"
      refine ⟨(p - 1) / 2, by omega, Frz.now fun g'' S' => ⟨g'', _, _, _, _, _, rfl, S.trans S', by rw [List.length_set]; omega, by rw [List.length_set]; exact hlen, fun y hy => ?_, ?_⟩⟩
      · rcases List.mem_or_eq_of_mem_set hy with hy | rfl
        · exact hsub _ hy
        · exact hpar
      · rw [← hgo]
        obtain ⟨f, (rfl)⟩ : ∃ f, p = f + 1 := ⟨p - 1, by omega⟩
        conv => rhs; unfold sdGo
        rw [if_pos hb, if_pos hq]
        exact sdGo_fuel (by omega) (by omega)
    | false =>
      simp only [Bool.false_eq_true, if_false]
      repeat walk_at "w"
      have e2 : sdGo (upB mx lt) new start pos xs pos = (ys, p) := by
        rw [← hgo]
        obtain ⟨f, (rfl)⟩ : ∃ f, p = f + 1 := ⟨p - 1, by omega⟩
        unfold sdGo
        rw [if_pos hb, if_neg (by rw [hq]; exact Bool.false_ne_true)]
      rw [e2] at q
      exact q S
  · have hb' : ¬ (start : Int) < p := by omega
    simp only [hb', decide_false, Bool.false_eq_true, if_false]
    repeat walk_at "w"
    have e2 : sdGo (upB mx lt) new start pos xs pos = (ys, p) := by
      rw [← hgo]
      cases p with
      | zero => rfl
      | succ f => unfold sdGo; rw [if_neg hb]
    rw [e2] at q
    exact q S
theorem fs_63 (w : World) : FnSt w 63 (KT w 63) := fnOk_ (ca := 62) (by kernel_rfl)
theorem ck_63 (w : World) : chkB (KT w 63) 40 ir_siftdown_max (FD w 63).body = true := by kernel_rfl
theorem c_siftdown_max {c : Cx} (hd : c.d ≤ 340) (hu : c.u ≤ 200) {l : Addr} {xs : List Value} {start pos : Nat} {t u : Tok} {lt : Value → Value → Bool} {g : Heap} {sz : Option Nat}
    (hlt : ∀ x ∈ xs, ∀ y ∈ xs, LtIs c.prog c.w c.s 400 1000 g x y (lt x y)) (hp : pos < xs.length) (hz : xs.length < 1000) :
    Fn c (.ref 63) [.ref l, .int (start : Nat) t, .int (pos : Nat) u] g [(l, IsLs xs)] sz fun v g' m' z' => v = .none ∧ m' = [(l, IsLs (sd (fun n p => lt p n) xs start pos))] :=
  fn_loc (fs_63 _) (GTok _) (by have : recursionLimit = 1000 := rfl; omega) (ck_63 _) (binds := [("heap", .ref l), ("startpos", .int start t), ("pos", .int pos u)]) (is := [0, 1, 2]) (by kernel_rfl) (by kernel_rfl)
    (vs := [some (.ref l), some (.int start t), some (.int pos u), none, none, none]) (by kernel_rfl) rfl fun f Q hQr hQn => w_sd (c := c.deep f.F) (mx := true) (by show c.d + 1 ≤ 400; omega) (by show c.u + 3 ≤ 1000; omega) hlt hp hz fun S => hQn (RetOk.now rfl fun U U => ⟨rfl, rfl⟩)
theorem fs_49 (w : World) : FnSt w 49 (KT w 49) := fnOk_ (ca := 48) (by kernel_rfl)
theorem ck_49 (w : World) : chkB (KT w 49) 40 ir_siftdown (FD w 49).body = true := by kernel_rfl
theorem c_siftdown {c : Cx} (hd : c.d ≤ 340) (hu : c.u ≤ 200) {l : Addr} {xs : List Value} {start pos : Nat} {t u : Tok} {lt : Value → Value → Bool} {g : Heap} {sz : Option Nat}
    (hlt : ∀ x ∈ xs, ∀ y ∈ xs, LtIs c.prog c.w c.s 400 1000 g x y (lt x y)) (hp : pos < xs.length) (hz : xs.length < 1000) :
    Fn c (.ref 49) [.ref l, .int (start : Nat) t, .int (pos : Nat) u] g [(l, IsLs xs)] sz fun v g' m' z' => v = .none ∧ m' = [(l, IsLs (sd (fun n p => lt n p) xs start pos))] :=
  fn_loc (fs_49 _) (GTok _) (by have : recursionLimit = 1000 := rfl; omega) (ck_49 _) (binds := [("heap", .ref l), ("startpos", .int start t), ("pos", .int pos u)]) (is := [0, 1, 2]) (by kernel_rfl) (by kernel_rfl)
    (vs := [some (.ref l), some (.int start t), some (.int pos u), none, none, none]) (by kernel_rfl) rfl fun f Q hQr hQn => w_sd (c := c.deep f.F) (mx := false) (by show c.d + 1 ≤ 400; omega) (by show c.u + 3 ≤ 1000; omega) hlt hp hz fun S => hQn (RetOk.now rfl fun U U => ⟨rfl, rfl⟩)
noncomputable def pkI (mx : Bool) : PS := @Bool.casesOn (fun _ => PS) mx ir_siftup_if ir_siftup_max_if
noncomputable def sdA (mx : Bool) : Addr := @Bool.casesOn (fun _ => Addr) mx 49 63
noncomputable def pkB (mx : Bool) (lt : Value → Value → Bool) (r c : Value) : Bool := @Bool.casesOn (fun _ => Bool) mx (!lt c r) (!lt r c)
theorem pick_siftup_max {c : Cx} {f : Fm} (hd : c.d ≤ 390) (hu : c.u ≤ 900) {l : Addr} {ys xs : List Value} {C : Nat} {te tc td : Tok} {lt : Value → Value → Bool} {g : Heap} {z : Option Nat} {v1 v3 v4 : Option Value} {vr : List (Option Value)} {Q : Flow → St → Prop}
    (hlt : ∀ x ∈ xs, ∀ y ∈ xs, LtIs c.prog c.w c.s 400 1000 g x y (lt x y)) (hsub : ∀ y ∈ ys, y ∈ xs) (hlen : ys.length = xs.length) (hC : C < xs.length) (hz : xs.length < 1000)
    (q : ∀ t z, Q .next ⟨g, some (.ref l) :: v1 :: some (.int (xs.length : Nat) te) :: v3 :: v4 :: some (.int (suPick (fun r c => !lt r c) ys C : Nat) t) :: some (.int ((C : Int) + 1) td) :: vr, [(l, IsLs ys)], z⟩) :
    wpS c f ir_siftup_max_if ⟨g, some (.ref l) :: v1 :: some (.int (xs.length : Nat) te) :: v3 :: v4 :: some (.int (C : Nat) tc) :: some (.int ((C : Int) + 1) td) :: vr, [(l, IsLs ys)], z⟩ Q := by
  unfold ir_siftup_max_if
  repeat walk_at "w"
  by_cases hb : C + 1 < xs.length
  · have hb' : (C : Int) + 1 < xs.length := by omega
    have e : (C : Int) + 1 = ((C + 1 : Nat) : Int) := by omega
    simp only [hb', decide_true, if_true]
    rw [e] at q ⊢
    have hL : ys.getD C .none ∈ xs := hsub _ (getD_mem (by omega))
    have hR : ys.getD (C + 1) .none ∈ xs := hsub _ (getD_mem (by omega))
    repeat walk_at "w"
    refine L_ltV ((hlt _ hR _ hL).mono (by omega) (by omega)) ?_
    repeat walk_at "w"
    unfold suPick at q
    cases hq : lt (ys.getD (C + 1) .none) (ys.getD C .none) with
    | true =>
      simp only [Bool.not_true, Bool.false_eq_true, if_false]
      repeat walk_at "w"
      rw [if_neg (by rintro ⟨_, h⟩; have h' : (!lt (ys.getD (C + 1) .none) (ys.getD C .none)) = true := h; rw [hq] at h'; cases h')] at q
      exact q tc none
    | false =>
      simp only [Bool.not_false, if_true]
      repeat walk_at "w"
      rw [if_pos ⟨by omega, by show (!lt (ys.getD (C + 1) .none) (ys.getD C .none)) = true; rw [hq]; rfl⟩] at q
      exact q td none
  · have hb' : ¬ (C : Int) + 1 < xs.length := by omega
    simp only [hb', decide_false, Bool.false_eq_true, if_false]
    repeat walk_at "w"
    unfold suPick at q
    rw [if_neg (by omega)] at q
    exact q tc z
theorem pick_siftup {c : Cx} {f : Fm} (hd : c.d ≤ 390) (hu : c.u ≤ 900) {l : Addr} {ys xs : List Value} {C : Nat} {te tc td : Tok} {lt : Value → Value → Bool} {g : Heap} {z : Option Nat} {v1 v3 v4 : Option Value} {vr : List (Option Value)} {Q : Flow → St → Prop}
    (hlt : ∀ x ∈ xs, ∀ y ∈ xs, LtIs c.prog c.w c.s 400 1000 g x y (lt x y)) (hsub : ∀ y ∈ ys, y ∈ xs) (hlen : ys.length = xs.length) (hC : C < xs.length) (hz : xs.length < 1000)
    (q : ∀ t z, Q .next ⟨g, some (.ref l) :: v1 :: some (.int (xs.length : Nat) te) :: v3 :: v4 :: some (.int (suPick (fun r c => !lt c r) ys C : Nat) t) :: some (.int ((C : Int) + 1) td) :: vr, [(l, IsLs ys)], z⟩) :
    wpS c f ir_siftup_if ⟨g, some (.ref l) :: v1 :: some (.int (xs.length : Nat) te) :: v3 :: v4 :: some (.int (C : Nat) tc) :: some (.int ((C : Int) + 1) td) :: vr, [(l, IsLs ys)], z⟩ Q := by
  unfold ir_siftup_if
  repeat walk_at "w"
  by_cases hb : C + 1 < xs.length
  · have hb' : (C : Int) + 1 < xs.length := by omega
    have e : (C : Int) + 1 = ((C + 1 : Nat) : Int) := by omega
    simp only [hb', decide_true, if_true]
    rw [e] at q ⊢
    have hL : ys.getD C .none ∈ xs := hsub _ (getD_mem (by omega))
    have hR : ys.getD (C + 1) .none ∈ xs := hsub _ (getD_mem (by omega))
    repeat walk_at "w"
    refine L_ltV ((hlt _ hL _ hR).mono (by omega) (by omega)) ?_
    repeat walk_at "w"
    unfold suPick at q
    cases hq : lt (ys.getD C .none) (ys.getD (C + 1) .none) with
    | true =>
      simp only [Bool.not_true, Bool.false_eq_true, if_false]
      repeat walk_at "w"
      rw [if_neg (by rintro ⟨_, h⟩; have h' : (!lt (ys.getD C .none) (ys.getD (C + 1) .none)) = true := h; rw [hq] at h'; cases h')] at q
      exact q tc none
    | false =>
      simp only [Bool.not_false, if_true]
      repeat walk_at "w"
      rw [if_pos ⟨by omega, by show (!lt (ys.getD C .none) (ys.getD (C + 1) .none)) = true; rw [hq]; rfl⟩] at q
      exact q td none
  · have hb' : ¬ (C : Int) + 1 < xs.length := by omega
    simp only [hb', decide_false, Bool.false_eq_true, if_false]
    repeat walk_at "w"
    unfold suPick at q
    rw [if_neg (by omega)] at q
    exact q tc z
theorem pick_m {c : Cx} {f : Fm} (hd : c.d ≤ 390) (hu : c.u ≤ 900) {l : Addr} {ys xs : List Value} {C : Nat} {mx : Bool} {te tc td : Tok} {lt : Value → Value → Bool} {g : Heap} {z : Option Nat} {v1 v3 v4 : Option Value} {vr : List (Option Value)} {Q : Flow → St → Prop}
    (hlt : ∀ x ∈ xs, ∀ y ∈ xs, LtIs c.prog c.w c.s 400 1000 g x y (lt x y)) (hsub : ∀ y ∈ ys, y ∈ xs) (hlen : ys.length = xs.length) (hC : C < xs.length) (hz : xs.length < 1000)
    (q : ∀ t z, Q .next ⟨g, some (.ref l) :: v1 :: some (.int (xs.length : Nat) te) :: v3 :: v4 :: some (.int (suPick (pkB mx lt) ys C : Nat) t) :: some (.int ((C : Int) + 1) td) :: vr, [(l, IsLs ys)], z⟩) :
    wpS c f (pkI mx) ⟨g, some (.ref l) :: v1 :: some (.int (xs.length : Nat) te) :: v3 :: v4 :: some (.int (C : Nat) tc) :: some (.int ((C : Int) + 1) td) :: vr, [(l, IsLs ys)], z⟩ Q := by
  cases mx with
  | false => exact pick_siftup hd hu hlt hsub hlen hC hz q
  | true => exact pick_siftup_max hd hu hlt hsub hlen hC hz q
theorem sdPl {c : Cx} {g : Heap} {mx : Bool} (G : Gr c.w g) : Plain c g (.ref (sdA mx)) := by
  cases mx with
  | false => exact (fs_49 _).plain G
  | true => exact (fs_63 _).plain G
theorem c_sdM {c : Cx} {mx : Bool} (hd : c.d ≤ 340) (hu : c.u ≤ 200) {l : Addr} {xs : List Value} {start pos : Nat} {t u : Tok} {lt : Value → Value → Bool} {g : Heap} {sz : Option Nat}
    (hlt : ∀ x ∈ xs, ∀ y ∈ xs, LtIs c.prog c.w c.s 400 1000 g x y (lt x y)) (hp : pos < xs.length) (hz : xs.length < 1000) :
    Fn c (.ref (sdA mx)) [.ref l, .int (start : Nat) t, .int (pos : Nat) u] g [(l, IsLs xs)] sz fun v g' m' z' => v = .none ∧ m' = [(l, IsLs (sd (upB mx lt) xs start pos))] := by
  cases mx with
  | false => exact c_siftdown hd hu hlt hp hz
  | true => exact c_siftdown_max hd hu hlt hp hz
theorem w_su {c : Cx} {f : Fm} {mx : Bool} (hd : c.d ≤ 340) (hu : c.u ≤ 200) {l : Addr} {xs : List Value} {pos : Nat} {u : Tok} {lt : Value → Value → Bool} {g : Heap} {z : Option Nat} {Q : Flow → St → Prop}
    (hlt : ∀ x ∈ xs, ∀ y ∈ xs, LtIs c.prog c.w c.s 400 1000 g x y (lt x y)) (hp : pos < xs.length) (hz : xs.length < 1000)
    (q : ∀ {g' vs z}, Sub g g' → Q .next ⟨g', vs, [(l, IsLs (su (upB mx lt) (pkB mx lt) xs pos))], z⟩) :
    wpS c f (ir_su (pkI mx) (sdA mx)) ⟨g, [some (.ref l), some (.int pos u), none, none, none, none, none, none, none], [(l, IsLs xs)], z⟩ Q := by
  unfold ir_su
  repeat walk_at "w"
  have hmem : xs.getD pos .none ∈ xs := getD_mem hp
  delta su at q
  generalize hnew : xs.getD pos .none = new at *
  rename Tok => tc0; rename_i te _ _
  refine s_whl (fun n σ => Ex7 fun g' ys p tp tc b z => n = xs.length - p ∧ σ = ⟨g', [some (.ref l), some (.int (p : Nat) tp), some (.int (xs.length : Nat) te), some (.int pos u), some new, some (.int ((2 * p + 1 : Nat) : Int) tc), b, none, none], [(l, IsLs ys)], z⟩ ∧ Sub g g' ∧
    p < ys.length ∧ ys.length = xs.length ∧ (∀ y ∈ ys, y ∈ xs) ∧ suGo (pkB mx lt) (xs.length - p) ys p = suGo (pkB mx lt) (xs.length - pos) xs pos)
    (xs.length - pos) (Frz.now fun g' S => ⟨g', xs, pos, u, tc0, none, _, rfl, by congr 6, S, hp, rfl, fun _ h => h, rfl⟩) ?_
  rintro n σ' - ⟨g', ys, p, tp, tc, b, z, (rfl), (rfl), S, hp', hlen, hsub, hgo⟩
  repeat walk_at "w"
  by_cases hb : 2 * p + 1 < xs.length
  · have hb' : ((2 * p + 1 : Nat) : Int) < xs.length := by omega
    simp only [hb', decide_true, if_true]
    repeat walk_at "w"
    refine pick_m (xs := xs) (ys := ys) (C := 2 * p + 1) (by omega) (by omega) (fun x hx y hy => (hlt x hx y hy).sub S) hsub hlen hb hz fun t z => ?_
    have b1 := suPick_lt (pick := (pkB mx lt)) (xs := ys) (c := 2 * p + 1) (by omega)
    have b2 := suPick_le (pick := (pkB mx lt)) (xs := ys) (c := 2 * p + 1)
    generalize hq : suPick (pkB mx lt) ys (2 * p + 1) = r at *
    repeat walk_at "w"
    refine ⟨xs.length - r, by omega, Frz.now fun g'' S' => ⟨g'', _, r, _, _, _, _, rfl, by congr 6, S.trans S', by rw [List.length_set]; omega, by rw [List.length_set]; exact hlen, fun y hy => ?_, ?_⟩⟩
    · rcases List.mem_or_eq_of_mem_set hy with hy | rfl
      · exact hsub _ hy
      · exact hsub _ (getD_mem (by omega))
    · rw [← hgo]
      obtain ⟨f, hf⟩ : ∃ f, xs.length - p = f + 1 := ⟨xs.length - p - 1, by omega⟩
      rw [hf]
      conv => rhs; unfold suGo
      rw [if_pos (by omega), hq]
      exact suGo_fuel (by simp only [List.length_set]; omega) (by simp only [List.length_set]; omega)
  · have hb' : ¬ ((2 * p + 1 : Nat) : Int) < xs.length := by omega
    simp only [hb', decide_false, Bool.false_eq_true, if_false]
    have hsu : suGo (pkB mx lt) (xs.length - pos) xs pos = (ys, p) := by
      rw [← hgo]
      cases hf : xs.length - p with
      | zero => rfl
      | succ f => unfold suGo; rw [if_neg (by omega)]
    repeat walk_at "w"
    have hsub' : ∀ y ∈ ys.set p new, y ∈ xs := fun y hy => by
      rcases List.mem_or_eq_of_mem_set hy with hy | rfl
      · exact hsub _ hy
      · exact hmem
    refine ⟨sdPl, W_fn [(l, IsLs (ys.set p new))] [] _ (.refl _) (c_sdM (mx := mx) (lt := lt) (by omega) (by omega) (fun x hx y hy => (hlt x (hsub' x hx) y (hsub' y hy)).sub S) (by rw [List.length_set]; omega) (by rw [List.length_set]; omega)) fun v g2 m2 z2 S2 _ P2 => ?_⟩
    obtain ⟨(rfl), (rfl)⟩ := P2
    repeat walk_at "w"
    rw [hsu] at q
    exact q (S.trans S2)
theorem fs_70 (w : World) : FnSt w 70 (KT w 70) := fnOk_ (ca := 69) (by kernel_rfl)
theorem ck_70 (w : World) : chkB (KT w 70) 40 ir_siftup_max (FD w 70).body = true := by kernel_rfl
theorem c_siftup_max {c : Cx} (hd : c.d ≤ 330) (hu : c.u ≤ 150) {l : Addr} {xs : List Value} {pos : Nat} {u : Tok} {lt : Value → Value → Bool} {g : Heap} {sz : Option Nat}
    (hlt : ∀ x ∈ xs, ∀ y ∈ xs, LtIs c.prog c.w c.s 400 1000 g x y (lt x y)) (hp : pos < xs.length) (hz : xs.length < 1000) :
    Fn c (.ref 70) [.ref l, .int (pos : Nat) u] g [(l, IsLs xs)] sz fun v g' m' z' => v = .none ∧ m' = [(l, IsLs (su (fun n p => lt p n) (fun r c => !lt r c) xs pos))] :=
  fn_loc (fs_70 _) (GTok _) (by have : recursionLimit = 1000 := rfl; omega) (ck_70 _) (binds := [("heap", .ref l), ("pos", .int pos u)]) (is := [0, 1]) (by kernel_rfl) (by kernel_rfl)
    (vs := [some (.ref l), some (.int pos u), none, none, none, none, none, none, none]) (by kernel_rfl) rfl fun f Q hQr hQn => w_su (c := c.deep f.F) (mx := true) (by show c.d + 1 ≤ 340; omega) (by show c.u + 3 ≤ 200; omega) hlt hp hz fun S => hQn (RetOk.now rfl fun _ _ => ⟨rfl, rfl⟩)
theorem fs_56 (w : World) : FnSt w 56 (KT w 56) := fnOk_ (ca := 55) (by kernel_rfl)
theorem ck_56 (w : World) : chkB (KT w 56) 40 ir_siftup (FD w 56).body = true := by kernel_rfl
theorem c_siftup {c : Cx} (hd : c.d ≤ 330) (hu : c.u ≤ 150) {l : Addr} {xs : List Value} {pos : Nat} {u : Tok} {lt : Value → Value → Bool} {g : Heap} {sz : Option Nat}
    (hlt : ∀ x ∈ xs, ∀ y ∈ xs, LtIs c.prog c.w c.s 400 1000 g x y (lt x y)) (hp : pos < xs.length) (hz : xs.length < 1000) :
    Fn c (.ref 56) [.ref l, .int (pos : Nat) u] g [(l, IsLs xs)] sz fun v g' m' z' => v = .none ∧ m' = [(l, IsLs (su (fun n p => lt n p) (fun r c => !lt c r) xs pos))] :=
  fn_loc (fs_56 _) (GTok _) (by have : recursionLimit = 1000 := rfl; omega) (ck_56 _) (binds := [("heap", .ref l), ("pos", .int pos u)]) (is := [0, 1]) (by kernel_rfl) (by kernel_rfl)
    (vs := [some (.ref l), some (.int pos u), none, none, none, none, none, none, none]) (by kernel_rfl) rfl fun f Q hQr hQn => w_su (c := c.deep f.F) (mx := false) (by show c.d + 1 ≤ 340; omega) (by show c.u + 3 ≤ 200; omega) hlt hp hz fun S => hQn (RetOk.now rfl fun _ _ => ⟨rfl, rfl⟩)
noncomputable def hfyN (up pick : Value → Value → Bool) (xs : List Value) : Nat → List Value
  | 0 => xs
  | i + 1 => su up pick (hfyN up pick xs i) (xs.length / 2 - 1 - i)
theorem hfyN_len {up pick : Value → Value → Bool} {xs : List Value} : ∀ {i : Nat}, (hfyN up pick xs i).length = xs.length
  | 0 => rfl
  | i + 1 => by unfold hfyN; rw [su_len, hfyN_len]
theorem hfyN_mem {up pick : Value → Value → Bool} {xs : List Value} : ∀ {i : Nat}, ∀ y ∈ hfyN up pick xs i, y ∈ xs
  | 0, _, h => h
  | i + 1, y, h => by
    unfold hfyN at h
    by_cases q : xs.length / 2 - 1 - i < xs.length
    · exact su_mem (by rw [hfyN_len]; exact q) (fun z hz => hfyN_mem z hz) y h
    · have hx : xs = [] := List.eq_nil_of_length_eq_zero (by omega)
      have : (su up pick (hfyN up pick xs i) (xs.length / 2 - 1 - i)) = [] := List.eq_nil_of_length_eq_zero (by rw [su_len, hfyN_len, hx]; rfl)
      rw [this] at h; cases h
theorem hfyN_go {up pick : Value → Value → Bool} {xs : List Value} : ∀ i, i ≤ xs.length / 2 → hfyGo up pick (xs.length / 2 - i) (hfyN up pick xs i) = hfy up pick xs
  | 0, _ => rfl
  | i + 1, h => by
    rw [← hfyN_go i (by omega)]
    obtain ⟨k, hk⟩ : ∃ k, xs.length / 2 - i = k + 1 := ⟨xs.length / 2 - i - 1, by omega⟩
    rw [hk]
    have e1 : xs.length / 2 - (i + 1) = k := by omega
    have e2 : xs.length / 2 - 1 - i = k := by omega
    show hfyGo up pick (xs.length / 2 - (i + 1)) (su up pick (hfyN up pick xs i) (xs.length / 2 - 1 - i)) = hfyGo up pick k (su up pick (hfyN up pick xs i) k)
    rw [e1, e2]
theorem hfyN_all {up pick : Value → Value → Bool} {xs : List Value} : hfyN up pick xs (xs.length / 2) = hfy up pick xs := by
  have := hfyN_go (up := up) (pick := pick) (xs := xs) _ (Nat.le_refl _)
  rw [Nat.sub_self] at this
  exact this
noncomputable def suA (mx : Bool) : Addr := @Bool.casesOn (fun U => Addr) mx 56 70
theorem suPl {c : Cx} {g : Heap} {mx : Bool} (G : Gr c.w g) : Plain c g (.ref (suA mx)) := by
  cases mx with
  | false => exact (fs_56 _).plain G
  | true => exact (fs_70 _).plain G
theorem c_suM {c : Cx} {mx : Bool} (hd : c.d ≤ 330) (hu : c.u ≤ 150) {l : Addr} {xs : List Value} {pos : Nat} {u : Tok} {lt : Value → Value → Bool} {g : Heap} {sz : Option Nat}
    (hlt : ∀ x ∈ xs, ∀ y ∈ xs, LtIs c.prog c.w c.s 400 1000 g x y (lt x y)) (hp : pos < xs.length) (hz : xs.length < 1000) :
    Fn c (.ref (suA mx)) [.ref l, .int (pos : Nat) u] g [(l, IsLs xs)] sz fun v g' m' z' => v = .none ∧ m' = [(l, IsLs (su (upB mx lt) (pkB mx lt) xs pos))] := by
  cases mx with
  | false => exact c_siftup hd hu hlt hp hz
  | true => exact c_siftup_max hd hu hlt hp hz
theorem w_hr {c : Cx} {f : Fm} {mx : Bool} (hd : c.d ≤ 330) (hu : c.u ≤ 150) {l : Addr} {xs : List Value} {v : Value} {lt : Value → Value → Bool} {g : Heap} {z : Option Nat} {Q : Flow → St → Prop}
    (hlt : ∀ x ∈ v :: xs, ∀ y ∈ v :: xs, LtIs c.prog c.w c.s 400 1000 g x y (lt x y)) (hp : 0 < xs.length) (hz : xs.length < 1000)
    (q : ∀ {r g' vs z}, Sub g g' → Q (.ret r) ⟨g', vs, [(l, IsLs (su (upB mx lt) (pkB mx lt) (xs.set 0 v) 0))], z⟩) :
    wpS c f (ir_hr (suA mx)) ⟨g, [some (.ref l), some v, none, none], [(l, IsLs xs)], z⟩ Q := by
  unfold ir_hr
  repeat walk_at "w"
  refine L_item (k := 0) (Or.inr (List.Mem.head _)) hp (by omega) ?_
  repeat walk_at "w"
  refine L_set (k := 0) LU.here hp (by omega) ?_
  repeat walk_at "w"
  have hsub : ∀ y ∈ xs.set 0 v, y ∈ v :: xs := fun y hy => by
    rcases List.mem_or_eq_of_mem_set hy with hy | rfl
    · exact .tail _ hy
    · exact .head _
  refine ⟨suPl, ?_⟩
  repeat walk_at "w"
  refine W_fn [(l, IsLs (xs.set 0 v))] [] _ (.refl _) (c_suM (mx := mx) (pos := 0) (lt := lt) hd hu (fun x hx y hy => hlt x (hsub x hx) y (hsub y hy)) (by rw [List.length_set]; omega) (by rw [List.length_set]; omega)) fun v2 g2 m2 z2 S2 U P2 => ?_
  obtain ⟨rfl, rfl⟩ := P2
  repeat walk_at "w"
  exact q S2
theorem w_hf {c : Cx} {f : Fm} {mx : Bool} (hd : c.d ≤ 330) (hu : c.u ≤ 150) {l : Addr} {xs : List Value} {lt : Value → Value → Bool} {g : Heap} {z : Option Nat} {Q : Flow → St → Prop}
    (hlt : ∀ x ∈ xs, ∀ y ∈ xs, LtIs c.prog c.w c.s 400 1000 g x y (lt x y)) (hz : xs.length < 1000)
    (q : ∀ {ra P g' vs z}, Sub g g' → Q .next ⟨g', vs, [(ra, P), (l, IsLs (hfyN (upB mx lt) (pkB mx lt) xs (xs.length / 2)))], z⟩) :
    wpS c f (ir_hf (suA mx)) ⟨g, [some (.ref l), none, none, none, none, none, none], [(l, IsLs xs)], z⟩ Q := by
  unfold ir_hf
  repeat walk_at "w"
  have e : ((xs.length : Nat) : Int).fdiv 2 = ((xs.length / 2 : Nat) : Int) := by rw [Int.fdiv_eq_ediv_of_nonneg _ (by decide)]; omega
  rename Addr => ra
  rw [e]
  refine L_reversed (List.Mem.head _) (by omega) fun I => ?_
  refine ⟨[(I, _)], [(ra, _), (l, IsLs xs)], xs.length / 2, _, _, _, .refl _, Iter_RI, fun i σ => Ex4 fun g' te b z => σ = ⟨g', [some (.ref l), te, b, none, none, none, none], [(ra, IsRg 0 ((xs.length / 2 : Nat) : Int)), (l, IsLs (hfyN (upB mx lt) (pkB mx lt) xs i))], z⟩ ∧ Sub g g',
    Frz.now fun g' S => ⟨g', _, _, _, rfl, S⟩, ?_, ?_⟩
  · rintro i v σ' hi ⟨tv, rfl⟩ - ⟨g', te, b, z, rfl, S⟩
    have e3 : ((xs.length / 2 : Nat) : Int) - 1 + ((i : Nat) : Int) * (-1) = ((xs.length / 2 - 1 - i : Nat) : Int) := by omega
    rw [e3]
    repeat walk_at "w"
    refine ⟨suPl, ?_⟩
    repeat walk_at "w"
    refine W_fn [(l, IsLs (hfyN (upB mx lt) (pkB mx lt) xs i))] [(ra, _)] _ (.swap _ _ _) (c_suM (mx := mx) (lt := lt) hd hu (fun x hx y hy => (hlt x (hfyN_mem x hx) y (hfyN_mem y hy)).sub S) (by rw [hfyN_len]; omega) (by rw [hfyN_len]; omega)) fun v2 g2 m2 z2 S2 U P2 => ?_
    obtain ⟨rfl, rfl⟩ := P2
    repeat walk_at "w"
    refine ⟨[], [(ra, _), (l, _)], .swap _ _ _, fun g3 S3 U => ⟨g3, _, _, _, rfl, (S.trans S2).trans S3⟩⟩
  · rintro σ' - ⟨g', te, b, z, rfl, S⟩
    repeat walk_at "w"
    exact q S
theorem fs_35 (w : World) : FnSt w 35 (KT w 35) := fnOk_ (ca := 34) (by kernel_rfl)
theorem ck_35 (w : World) : chkB (KT w 35) 40 ir_heapreplace_max (FD w 35).body = true := by kernel_rfl
theorem c_heapreplace_max {c : Cx} (hd : c.d ≤ 320) (hu : c.u ≤ 100) {l : Addr} {xs : List Value} {v : Value} {lt : Value → Value → Bool} {g : Heap} {sz : Option Nat}
    (hlt : ∀ x ∈ v :: xs, ∀ y ∈ v :: xs, LtIs c.prog c.w c.s 400 1000 g x y (lt x y)) (hp : 0 < xs.length) (hz : xs.length < 1000) :
    Fn c (.ref 35) [.ref l, v] g [(l, IsLs xs)] sz fun r g' m' z' => m' = [(l, IsLs (su (fun n p => lt p n) (fun r c => !lt r c) (xs.set 0 v) 0))] :=
  fn_loc (fs_35 _) (GTok _) (by have : recursionLimit = 1000 := rfl; omega) (ck_35 _) (binds := [("heap", .ref l), ("item", v)]) (is := [0, 1]) (by kernel_rfl) (by kernel_rfl)
    (vs := [some (.ref l), some v, none, none]) (by kernel_rfl) rfl fun f Q hQr hQn => w_hr (c := c.deep f.F) (mx := true) (by show c.d + 1 ≤ 330; omega) (by show c.u + 3 ≤ 150; omega) hlt hp hz fun S => hQr (RetOk.now rfl fun U U => rfl)
theorem fs_21 (w : World) : FnSt w 21 (KT w 21) := fnOk_ (ca := 20) (by kernel_rfl)
theorem ck_21 (w : World) : chkB (KT w 21) 40 ir_heapreplace (FD w 21).body = true := by kernel_rfl
theorem c_heapreplace {c : Cx} (hd : c.d ≤ 320) (hu : c.u ≤ 100) {l : Addr} {xs : List Value} {v : Value} {lt : Value → Value → Bool} {g : Heap} {sz : Option Nat}
    (hlt : ∀ x ∈ v :: xs, ∀ y ∈ v :: xs, LtIs c.prog c.w c.s 400 1000 g x y (lt x y)) (hp : 0 < xs.length) (hz : xs.length < 1000) :
    Fn c (.ref 21) [.ref l, v] g [(l, IsLs xs)] sz fun r g' m' z' => m' = [(l, IsLs (su (fun n p => lt n p) (fun r c => !lt c r) (xs.set 0 v) 0))] :=
  fn_loc (fs_21 _) (GTok _) (by have : recursionLimit = 1000 := rfl; omega) (ck_21 _) (binds := [("heap", .ref l), ("item", v)]) (is := [0, 1]) (by kernel_rfl) (by kernel_rfl)
    (vs := [some (.ref l), some v, none, none]) (by kernel_rfl) rfl fun f Q hQr hQn => w_hr (c := c.deep f.F) (mx := false) (by show c.d + 1 ≤ 330; omega) (by show c.u + 3 ≤ 150; omega) hlt hp hz fun S => hQr (RetOk.now rfl fun U U => rfl)
theorem fs_42 (w : World) : FnSt w 42 (KT w 42) := fnOk_ (ca := 41) (by kernel_rfl)
theorem ck_42 (w : World) : chkB (KT w 42) 40 ir_heapify_max (FD w 42).body = true := by kernel_rfl
theorem c_heapify_max {c : Cx} (hd : c.d ≤ 320) (hu : c.u ≤ 100) {l : Addr} {xs : List Value} {lt : Value → Value → Bool} {g : Heap} {sz : Option Nat}
    (hlt : ∀ x ∈ xs, ∀ y ∈ xs, LtIs c.prog c.w c.s 400 1000 g x y (lt x y)) (hz : xs.length < 1000) :
    Fn c (.ref 42) [.ref l] g [(l, IsLs xs)] sz fun r g' m' z' => r = .none ∧ m' = [(l, IsLs (hfy (fun n p => lt p n) (fun r c => !lt r c) xs))] :=
  fn_loc (fs_42 _) (GTok _) (by have : recursionLimit = 1000 := rfl; omega) (ck_42 _) (binds := [("x", .ref l)]) (is := [0]) (by kernel_rfl) (by kernel_rfl)
    (vs := [some (.ref l), none, none, none, none, none, none]) (by kernel_rfl) rfl fun f Q hQr hQn => w_hf (c := c.deep f.F) (mx := true) (by show c.d + 1 ≤ 330; omega) (by show c.u + 3 ≤ 150; omega) hlt hz fun S => hQn ⟨[(_, _)], [(l, _)], .refl _, fun U h => h, fun g3 S3 U => ⟨rfl, congrArg (fun x => [(l, IsLs x)]) hfyN_all⟩⟩
theorem fs_28 (w : World) : FnSt w 28 (KT w 28) := fnOk_ (ca := 27) (by kernel_rfl)
theorem ck_28 (w : World) : chkB (KT w 28) 40 ir_heapify (FD w 28).body = true := by kernel_rfl
theorem c_heapify {c : Cx} (hd : c.d ≤ 320) (hu : c.u ≤ 100) {l : Addr} {xs : List Value} {lt : Value → Value → Bool} {g : Heap} {sz : Option Nat}
    (hlt : ∀ x ∈ xs, ∀ y ∈ xs, LtIs c.prog c.w c.s 400 1000 g x y (lt x y)) (hz : xs.length < 1000) :
    Fn c (.ref 28) [.ref l] g [(l, IsLs xs)] sz fun r g' m' z' => r = .none ∧ m' = [(l, IsLs (hfy (fun n p => lt n p) (fun r c => !lt c r) xs))] :=
  fn_loc (fs_28 _) (GTok _) (by have : recursionLimit = 1000 := rfl; omega) (ck_28 _) (binds := [("x", .ref l)]) (is := [0]) (by kernel_rfl) (by kernel_rfl)
    (vs := [some (.ref l), none, none, none, none, none, none]) (by kernel_rfl) rfl fun f Q hQr hQn => w_hf (c := c.deep f.F) (mx := false) (by show c.d + 1 ≤ 330; omega) (by show c.u + 3 ≤ 150; omega) hlt hz fun S => hQn ⟨[(_, _)], [(l, _)], .refl _, fun U h => h, fun g3 S3 U => ⟨rfl, congrArg (fun x => [(l, IsLs x)]) hfyN_all⟩⟩
end
section
open _root_.PySem _root_.PySem.W _root_.PySem.Calls PyProof.Rows
set_option maxRecDepth 100000
noncomputable def ir_law_blocks : PS :=
  (.seq (.asgS 1 2 (.tup (.cons (.list (.cons (.list (.cons (.int 3) (.cons (.list .nil) .nil))) .nil)) (.cons (.int 0) .nil)))) (.seq (.forN 3 (.v 0) (.seq (.ifS (.cmp .Eq (.bin .Mod (.v 3) (.int 3)) (.int 0)) (.seq (.expr (.app (.v 1) (.list (.cons (.bin .Sub (.bin .Mod (.bin .FloorDiv (.v 3) (.int 3)) (.int 7)) (.int 1)) (.cons (.list .nil) .nil))))) .skip) (.seq (.expr (.app (.sub (.sub (.v 1) (.neg (.int 1))) (.int 1)) (.list (.cons (.ife (.cmp .Eq (.bin .Mod (.v 3) (.int 3)) (.int 1)) (.bin .FloorDiv (.v 3) (.int 3)) (.bin .Mod (.bin .FloorDiv (.v 3) (.int 3)) (.int 4))) (.cons (.v 2) .nil))))) (.seq (.asg 2 (.bin .Add (.v 2) (.int 1))) .skip))) .skip)) (.seq (.ret (.v 1)) .skip)))
noncomputable def ir_law_ahead : PS :=
  (.seq (.asg 3 (.bin .FloorDiv (.sub (.v 0) (.int 0)) (.int 2))) (.seq (.ret (.call (.g (.builtin "len")) (.cons (.compN [(".0", .local), ("other", .local), ("half", .free), ("sign", .free), ("thing", .free)] [none, none, some 3, some 2, some 0] (.int 1) 1 (.cons (.or (.cmp .Lt (.bin .Mult (.bin .Sub (.bin .FloorDiv (.sub (.v 1) (.int 0)) (.int 2)) (.v 2)) (.v 3)) (.int 0)) (.or (.and (.cmp .Eq (.bin .FloorDiv (.sub (.v 1) (.int 0)) (.int 2)) (.v 2)) (.and (.cmp .Lt (.sub (.v 1) (.int 1)) (.sub (.v 4) (.int 1))) .andN)) .orN)) .nil) (.v 1)) .nil))) .skip))
noncomputable def ir_kept_j : PS :=
  (.seq (.asg 7 (.call (.g (.builtin "sum")) (.cons (.slc (.v 5) .nil (.cons (.bin .Add (.v 6) (.int 1)) .nil)) .nil))) (.seq (.forN 8 (.call (.g (.type "range")) (.cons (.v 6) .nil)) (.seq (.asg 7 (.call (.g (.builtin "min")) (.cons (.v 7) (.cons (.bin .Add (.call (.g (.builtin "max")) (.cons (.sub (.sub (.v 0) (.v 8)) (.int 0)) (.cons (.int 0) .nil))) (.call (.g (.builtin "sum")) (.cons (.slc (.v 5) (.cons (.bin .Add (.v 8) (.int 1)) .nil) (.cons (.bin .Add (.v 6) (.int 1)) .nil)) .nil))) .nil)))) .skip)) (.seq (.ifS (.cmp .GtE (.v 7) (.sub (.sub (.v 0) (.v 6)) (.int 0))) (.seq .brk .skip) .skip) (.seq (.expr (.app (.sub (.v 2) (.v 6)) (.tup (.cons (.v 7) (.cons (.v 4) .nil))))) .skip))))
noncomputable def ir_kept_t : PS :=
  (.seq (.asgC 5 (.compN [(".0", .local), ("block", .local), ("_law_ahead", .globalImplicit), ("sign", .free), ("thing", .free)] [none, none, none, some 1, some 4] (.call (.g (.ref 110)) (.cons (.v 4) (.cons (.sub (.v 1) (.int 1)) (.cons (.v 3) .nil)))) 1 .nil (.v 0))) (.seq (.forN 6 (.call (.g (.type "range")) (.cons (.v 3) (.cons (.call (.g (.builtin "len")) (.cons (.v 0) .nil)) .nil))) ir_kept_j) .skip))
noncomputable def ir_law_kept : PS :=
  (.seq (.asgC 2 (.compN [(".0", .local), ("block", .local)] [none, none] (.list .nil) 1 .nil (.v 0))) (.seq (.forN 3 (.call (.g (.type "range")) (.cons (.call (.g (.builtin "len")) (.cons (.v 0) .nil)) .nil)) (.seq (.forN 4 (.sub (.sub (.v 0) (.v 3)) (.int 1)) ir_kept_t) .skip)) (.seq (.ret (.v 2)) .skip)))
end
section

section
variable {T : Type} (lt : T → T → Bool)
noncomputable def Best (n : Int) (xs ys : List T) : Prop := ∃ L : List T, L.Perm xs ∧ L.Pairwise (fun a b => lt a b = true) ∧ ys = L.take n.toNat

structure Good (lt : T → T → Bool) : Prop where
  irr : ∀ a, lt a a = false
  tr : ∀ a b c, lt a b = true → lt b c = true → lt a c = true

variable {lt}
theorem countP_sorted (g : Good lt) {t : T} : ∀ {L : List T}, L.Pairwise (fun a b => lt a b = true) → ∀ n, (L.take n).countP (fun o => lt o t) = min n (L.countP fun o => lt o t)
  | [], _, n => by simp
  | a :: L, hp, 0 => by simp
  | a :: L, hp, n + 1 => by
    rw [List.pairwise_cons] at hp
    rw [List.take_succ_cons, List.countP_cons, List.countP_cons, countP_sorted g hp.2 n]
    cases h : lt a t with
    | true => first | (simp; done) | (simp; omega)
    | false =>
      have h0 : L.countP (fun o => lt o t) = 0 := by
        rw [List.countP_eq_zero]
        intro b hb hbt
        have := g.tr a b t (hp.1 b hb) hbt
        rw [h] at this; cases this
      simp [h0]
theorem get_sorted (g : Good lt) {t : T} : ∀ {L : List T}, L.Pairwise (fun a b => lt a b = true) → t ∈ L → L[L.countP fun o => lt o t]? = some t
  | [], _, h => by cases h
  | a :: L, hp, h => by
    rw [List.pairwise_cons] at hp
    rcases List.mem_cons.mp h with rfl | h
    · have h0 : L.countP (fun o => lt o t) = 0 := by
        rw [List.countP_eq_zero]
        intro b hb hbt
        have := g.tr t b t (hp.1 b hb) hbt
        rw [g.irr] at this; cases this
      rw [List.countP_cons, h0, g.irr]; simp
    · rw [List.countP_cons, hp.1 t h]
      simpa using get_sorted g hp.2 h
theorem Best.count (g : Good lt) {n : Int} {xs ys : List T} (b : Best lt n xs ys) (t : T) : ys.countP (fun o => lt o t) = min n.toNat (xs.countP fun o => lt o t) := by
  obtain ⟨L, hp, hs, (rfl)⟩ := b
  rw [countP_sorted g hs, hp.countP_eq]
theorem Best.mem (g : Good lt) {n : Int} {xs ys : List T} (b : Best lt n xs ys) {t : T} (ht : t ∈ xs) : (t ∈ ys ↔ (xs.countP fun o => lt o t) < n.toNat) := by
  obtain ⟨L, hp, hs, (rfl)⟩ := b
  have h1 := get_sorted g hs (hp.mem_iff.mpr ht)
  rw [hp.countP_eq] at h1
  constructor
  · intro h
    have hc := countP_sorted g (t := t) hs n.toNat
    rw [hp.countP_eq] at hc
    by_cases hlt : (xs.countP fun o => lt o t) < n.toNat
    · exact hlt
    · exfalso
      -- all of the first n lie below t, and t is among them
      have hall : (L.take n.toNat).countP (fun o => lt o t) = (L.take n.toNat).length := by
        have h2 := List.countP_le_length (p := fun o => lt o t) (l := L.take n.toNat)
        have h3 : (L.take n.toNat).length ≤ n.toNat := by simp; omega
        omega
      have h4 := List.countP_eq_length.mp hall t h
      rw [g.irr] at h4; cases h4
  · intro h
    obtain ⟨hl, e⟩ := List.getElem?_eq_some_iff.mp h1
    rw [← e]
    exact List.mem_of_getElem? (i := xs.countP fun o => lt o t) (by rw [List.getElem?_take, if_pos h]; exact List.getElem?_eq_getElem hl)
theorem Best.get (g : Good lt) {n : Int} {xs ys : List T} (b : Best lt n xs ys) {t : T} (ht : t ∈ xs) (h : (xs.countP fun o => lt o t) < n.toNat) : ys[xs.countP fun o => lt o t]? = some t := by
  obtain ⟨L, hp, hs, (rfl)⟩ := b
  have h1 := get_sorted g hs (hp.mem_iff.mpr ht)
  rw [hp.countP_eq] at h1
  rw [List.getElem?_take, if_pos h]; exact h1
theorem Best.sub {n : Int} {xs ys : List T} (b : Best lt n xs ys) {t : T} (h : t ∈ ys) : t ∈ xs := by
  obtain ⟨L, hp, U, (rfl)⟩ := b
  exact hp.mem_iff.mp (List.mem_of_mem_take h)
theorem Best.nodup (g : Good lt) {n : Int} {xs ys : List T} (b : Best lt n xs ys) : ys.Nodup := by
  obtain ⟨L, hp, hs, (rfl)⟩ := b
  have : L.Nodup := hs.imp fun {a b} h z => by rw [z, g.irr] at h; cases h
  exact this.sublist (List.take_sublist _ _)

structure Blk (T : Type) where
  w : Int
  row : List T
noncomputable def ah (lt : T → T → Bool) (t : T) (b : Blk T) : Nat := b.row.countP fun o => lt o t
noncomputable def place (lt : T → T → Bool) (B : Nat → Blk T) (t : T) : Nat → Nat
  | 0 => ah lt t (B 0)
  | j + 1 => min (B j).w.toNat (place lt B t j) + ah lt t (B (j + 1))
structure Rows (lt : T → T → Bool) (B : Nat → Blk T) (n : Nat) (K : Nat → List T) : Prop where
  zero : K 0 = []
  next : ∀ j < n, Best lt (B j).w (K j ++ (B j).row) (K (j + 1))
theorem Rows.place {B : Nat → Blk T} {n : Nat} {K : Nat → List T} (g : Good lt) (r : Rows lt B n K) (t : T) : ∀ j < n, (K j ++ (B j).row).countP (fun o => lt o t) = place lt B t j
  | 0, _ => by rw [r.zero]; rfl
  | j + 1, h => by
    rw [List.countP_append, (r.next j (by omega)).count g t, r.place g t j (by omega)]; rfl
noncomputable def stays (lt : T → T → Bool) (B : Nat → Blk T) (home j : Nat) (t : T) : Bool := (List.range' home (j + 1 - home)).all fun i => decide ((place lt B t i : Int) < (B i).w)
noncomputable def keptAt (lt : T → T → Bool) (B : Nat → Blk T) (j : Nat) : List (Nat × T) :=
  (List.range (j + 1)).flatMap fun home => ((B home).row.filter (stays lt B home j)).map fun t => (Mine.place lt B t j, t)
structure Apart (B : Nat → Blk T) (n : Nat) : Prop where
  nd : ∀ i < n, (B i).row.Nodup
  dj : ∀ i < n, ∀ j < n, i ≠ j → ∀ t ∈ (B i).row, t ∉ (B j).row
theorem Rows.home {B : Nat → Blk T} {n : Nat} {K : Nat → List T} (r : Rows lt B n K) : ∀ j ≤ n, ∀ t ∈ K j, ∃ i < j, t ∈ (B i).row
  | 0, _, t, h => by rw [r.zero] at h; cases h
  | j + 1, hj, t, h => by
    rcases List.mem_append.mp ((r.next j (by omega)).sub h) with h | h
    · obtain ⟨i, hi, h⟩ := r.home j (by omega) t h; exact ⟨i, by omega, h⟩
    · exact ⟨j, by omega, h⟩
theorem Rows.kept {B : Nat → Blk T} {n : Nat} {K : Nat → List T} (g : Good lt) (a : Apart B n) (r : Rows lt B n K) {home : Nat} {t : T} (ht : t ∈ (B home).row) : ∀ d, home + d < n → (t ∈ K (home + d + 1) ↔ stays lt B home (home + d) t = true)
  | 0, h => by
    have hx : t ∈ K home ++ (B home).row := List.mem_append_right _ ht
    show t ∈ K (home + 1) ↔ _
    rw [(r.next home h).mem g hx, r.place g t home h]
    unfold stays
    rw [show home + 0 + 1 - home = 1 from by omega]
    simp [List.range']
  | d + 1, h => by
    have ih := r.kept g a ht d (by omega)
    have e : stays lt B home (home + (d + 1)) t = (stays lt B home (home + d) t && decide ((Mine.place lt B t (home + (d + 1)) : Int) < (B (home + (d + 1))).w)) := by
      unfold stays
      rw [show home + (d + 1) + 1 - home = (home + d + 1 - home) + 1 from by omega, List.range'_concat, List.all_append]
      simp only [List.all_cons, List.all_nil, Bool.and_true]
      rw [show home + 1 * (home + d + 1 - home) = home + (d + 1) from by omega]
    rw [e, Bool.and_eq_true, ← ih, decide_eq_true_eq]
    have key : t ∈ K (home + d + 1) ↔ t ∈ K (home + (d + 1)) ++ (B (home + (d + 1))).row := by
      rw [List.mem_append]
      refine ⟨.inl, ?_⟩
      rintro (h1 | h1)
      · exact h1
      · exact absurd h1 (a.dj home (by omega) _ h (by omega) t ht)
    constructor
    · intro h1
      have hx := (r.next _ h).sub h1
      have h2 := ((r.next _ h).mem g hx).mp h1
      rw [r.place g t _ h] at h2
      exact ⟨key.mpr hx, by omega⟩
    · rintro ⟨h1, h2⟩
      have hx := key.mp h1
      refine ((r.next _ h).mem g hx).mpr ?_
      rw [r.place g t _ h]; omega
theorem mem_keptAt {B : Nat → Blk T} {j p : Nat} {t : T} : (p, t) ∈ keptAt lt B j ↔ ∃ home ≤ j, t ∈ (B home).row ∧ stays lt B home j t = true ∧ p = Mine.place lt B t j := by
  unfold keptAt
  rw [List.mem_flatMap]
  constructor
  · rintro ⟨home, hh, h⟩
    obtain ⟨u, hu, e⟩ := List.mem_map.mp h
    cases e
    rw [List.mem_filter] at hu
    exact ⟨home, by have := List.mem_range.mp hh; omega, hu.1, hu.2, rfl⟩
  · rintro ⟨home, hh, h1, h2, (rfl)⟩
    exact ⟨home, List.mem_range.mpr (by omega), List.mem_map.mpr ⟨t, List.mem_filter.mpr ⟨h1, h2⟩, rfl⟩⟩
theorem Rows.law {B : Nat → Blk T} {n : Nat} {K : Nat → List T} (g : Good lt) (a : Apart B n) (r : Rows lt B n K) {j : Nat} (hj : j < n) :
    (K (j + 1)).length = (keptAt lt B j).length ∧ ∀ p t, (p, t) ∈ keptAt lt B j → (K (j + 1))[p]? = some t := by
  have hmem : ∀ home ≤ j, ∀ t ∈ (B home).row, (t ∈ K (j + 1) ↔ stays lt B home j t = true) := by
    intro home hh t ht
    have := r.kept g a ht (j - home) (by omega)
    rw [show home + (j - home) = j from by omega] at this
    exact this
  constructor
  · have h1 : (keptAt lt B j).length = ((keptAt lt B j).map (·.2)).length := by simp
    rw [h1]
    refine List.Perm.length_eq ?_
    refine (List.perm_ext_iff_of_nodup ((r.next j hj).nodup g) ?_).mpr ?_
    · unfold keptAt
      rw [List.map_flatMap]
      refine List.pairwise_flatMap.mpr ?_
      constructor
      · intro i hi
        have hi' := List.mem_range.mp hi
        have : List.map (fun x : Nat × T => x.2) (((B i).row.filter (stays lt B i j)).map fun t => (Mine.place lt B t j, t)) = (B i).row.filter (stays lt B i j) := by
          rw [List.map_map]; exact List.map_id _
        rw [this]
        exact (a.nd i (by omega)).filter _
      · refine List.Pairwise.imp_of_mem ?_ (List.pairwise_lt_range)
        intro x y hx hy hxy
        have hx' := List.mem_range.mp hx
        have hy' := List.mem_range.mp hy
        intro t h1 t' h2 e
        subst e
        simp only [List.map_map, List.mem_map, List.mem_filter, Function.comp] at h1 h2
        obtain ⟨u, ⟨hu, U⟩, rfl⟩ := h1
        obtain ⟨v, ⟨hv, U⟩, e⟩ := h2
        subst e
        exact a.dj x (by omega) y (by omega) (by omega) _ hu hv
    · intro t
      constructor
      · intro h
        obtain ⟨home, hh, ht⟩ := r.home (j + 1) (by omega) t h
        exact List.mem_map.mpr ⟨(_, t), mem_keptAt.mpr ⟨home, by omega, ht, (hmem home (by omega) t ht).mp h, rfl⟩, rfl⟩
      · intro h
        obtain ⟨⟨p, u⟩, hu, rfl⟩ := List.mem_map.mp h
        obtain ⟨home, hh, ht, hs, U⟩ := mem_keptAt.mp hu
        exact (hmem home hh _ ht).mpr hs
  · intro p t h
    obtain ⟨home, hh, ht, hs, (rfl)⟩ := mem_keptAt.mp h
    have h1 := (hmem home hh t ht).mpr hs
    have hx := (r.next j hj).sub h1
    have h2 := ((r.next j hj).mem g hx).mp h1
    have h3 := (r.next j hj).get g hx h2
    rw [r.place g t j hj] at h3
    exact h3
end
section
variable {T : Type} {lt : T → T → Bool}
noncomputable def ins (lt : T → T → Bool) (e : T) : List T → List T
  | [] => [e]
  | a :: L => if lt e a = true then e :: a :: L else a :: ins lt e L
theorem ins_perm {e : T} : ∀ {L : List T}, (ins lt e L).Perm (e :: L)
  | [] => .refl _
  | a :: L => by
    unfold ins
    split
    · exact .refl _
    · exact (ins_perm.cons a).trans (.swap e a L)
theorem ins_sorted (g : Good lt) {e : T} : ∀ {L : List T}, L.Pairwise (fun a b => lt a b = true) → (∀ a ∈ L, lt e a = false → lt a e = true) → (ins lt e L).Pairwise (fun a b => lt a b = true)
  | [], _, _ => by simp [ins]
  | a :: L, hp, ht => by
    unfold ins
    have hp' := List.pairwise_cons.mp hp
    split
    · rename_i h
      refine List.pairwise_cons.mpr ⟨fun b hb => ?_, hp⟩
      rcases List.mem_cons.mp hb with rfl | hb
      · exact h
      · exact g.tr _ _ _ h (hp'.1 b hb)
    · rename_i h
      refine List.pairwise_cons.mpr ⟨fun b hb => ?_, ins_sorted g hp'.2 fun b hb => ht b (.tail _ hb)⟩
      rcases List.mem_cons.mp (ins_perm.mem_iff.mp hb) with rfl | hb
      · exact ht a (.head _) (by simpa using h)
      · exact hp'.1 b hb
theorem take_ins_ge (g : Good lt) {e : T} : ∀ {L : List T} {n : Nat}, L.Pairwise (fun a b => lt a b = true) → (h : n < L.length) → lt e L[n] = false → (ins lt e L).take (n + 1) = L.take (n + 1)
  | a :: L, 0, _, _, h => by
    unfold ins
    have h' : lt e a = false := h
    rw [h']; simp
  | a :: L, n + 1, hp, hl, h => by
    have hp' := List.pairwise_cons.mp hp
    have hl' : n < L.length := by simpa using hl
    have h' : lt e L[n] = false := h
    have ha : lt e a = false := by
      cases q : lt e a with
      | false => rfl
      | true => have := g.tr _ _ _ q (hp'.1 L[n] (List.getElem_mem hl')); rw [h'] at this; cases this
    unfold ins
    rw [ha]
    simp only [Bool.false_eq_true, if_false, List.take_succ_cons, List.cons.injEq, true_and]
    exact take_ins_ge g hp'.2 hl' h'
theorem take_ins_lt {e : T} : ∀ {L : List T} {n : Nat}, (h : n < L.length) → lt e L[n] = true → ((ins lt e L).take (n + 1)).Perm (e :: L.take n)
  | a :: L, 0, _, h => by
    unfold ins
    have h' : lt e a = true := h
    rw [h']; simp
  | a :: L, n + 1, hl, h => by
    have hl' : n < L.length := by simpa using hl
    have h' : lt e L[n] = true := h
    unfold ins
    split
    · simp
    · rw [List.take_succ_cons, List.take_succ_cons]
      exact ((take_ins_lt hl' h').cons a).trans (.swap e a _)
structure TopN (lt : T → T → Bool) (n : Nat) (P hs : List T) : Prop where
  ex : ∃ L : List T, L.Perm P ∧ L.Pairwise (fun a b => lt a b = true) ∧ hs.Perm (L.take n)
theorem TopN.step_ge (g : Good lt) {n : Nat} {P hs : List T} {e top : T} (t : TopN lt n P hs) (hn : 0 < n) (hl : n ≤ P.length) (hm : top ∈ hs) (hmax : ∀ x ∈ hs, x ≠ top → lt x top = true) (he : lt e top = false) (tot : ∀ a ∈ P, lt e a = false → lt a e = true) :
    TopN lt n (P ++ [e]) hs := by
  obtain ⟨L, hp, hs', hh⟩ := t.ex
  obtain ⟨k, (rfl)⟩ : ∃ k, n = k + 1 := ⟨n - 1, by omega⟩
  have hk : k < L.length := by rw [hp.length_eq]; omega
  have hlast : lt e L[k] = false := by
    by_cases q : L[k] = top
    · rw [q]; exact he
    · have h1 : L[k] ∈ hs := hh.mem_iff.mpr (by rw [List.take_succ_eq_append_getElem hk]; exact List.mem_append_right _ (List.mem_singleton.mpr rfl))
      have h2 := hmax _ h1 q
      cases r : lt e L[k] with
      | false => rfl
      | true => have := g.tr _ _ _ r h2; rw [he] at this; cases this
  refine ⟨ins lt e L, ?_, ins_sorted g hs' fun a ha => tot a (hp.mem_iff.mp ha), ?_⟩
  · exact ins_perm.trans ((hp.cons e).trans (List.perm_append_singleton e P).symm)
  · rw [take_ins_ge g hs' hk hlast]; exact hh
theorem TopN.step_lt (g : Good lt) {n : Nat} {P hs rest : List T} {e top : T} (t : TopN lt n P hs) (hn : 0 < n) (hl : n ≤ P.length) (hr : hs.Perm (top :: rest)) (hmax : ∀ x ∈ hs, x ≠ top → lt x top = true) (he : lt e top = true) (tot : ∀ a ∈ P, lt e a = false → lt a e = true) :
    TopN lt n (P ++ [e]) (e :: rest) := by
  obtain ⟨L, hp, hs', hh⟩ := t.ex
  obtain ⟨k, (rfl)⟩ : ∃ k, n = k + 1 := ⟨n - 1, by omega⟩
  have hk : k < L.length := by rw [hp.length_eq]; omega
  have e1 := List.take_succ_eq_append_getElem hk
  have hlast : L[k] = top := by
    have h1 : top ∈ L.take (k + 1) := hh.mem_iff.mp (hr.mem_iff.mpr (.head _))
    have h2 : L[k] ∈ hs := hh.mem_iff.mpr (by rw [e1]; exact List.mem_append_right _ (List.mem_singleton.mpr rfl))
    by_cases q : L[k] = top
    · exact q
    · have h3 := hmax _ h2 q
      rw [e1] at h1
      rcases List.mem_append.mp h1 with h1 | h1
      · have : lt top L[k] = true := by
          have hpw := hs'
          rw [← List.take_append_drop k L] at hpw
          exact (List.pairwise_append.mp hpw).2.2 top h1 L[k] (by rw [List.mem_iff_getElem]; exact ⟨0, by simp; omega, by simp⟩)
        have := g.tr _ _ _ h3 this
        rw [g.irr] at this; cases this
      · exact (List.mem_singleton.mp h1).symm
  refine ⟨ins lt e L, ?_, ins_sorted g hs' fun a ha => tot a (hp.mem_iff.mp ha), ?_⟩
  · exact ins_perm.trans ((hp.cons e).trans (List.perm_append_singleton e P).symm)
  · refine List.Perm.symm ((take_ins_lt hk (by rw [hlast]; exact he)).trans (List.Perm.cons e ?_))
    have h4 : (top :: rest).Perm (L.take k ++ [top]) := by
      refine hr.symm.trans (hh.trans ?_)
      rw [e1, hlast]
    exact ((List.perm_append_singleton top _).symm.trans h4.symm).cons_inv
end
theorem foldl_shift (f : Nat → Nat) (x : Nat) : ∀ (l : List Nat) (a : Nat), l.foldl (fun p m => min p (f m + x)) (a + x) = l.foldl (fun p m => min p (f m)) a + x
  | [], _ => rfl
  | m :: l, a => by
    rw [List.foldl_cons, List.foldl_cons, ← foldl_shift f x l]
    congr 1; omega
theorem foldl_congr {f g : Nat → Nat} : ∀ {l : List Nat} {a : Nat}, (∀ m ∈ l, f m = g m) → l.foldl (fun p m => min p (f m)) a = l.foldl (fun p m => min p (g m)) a
  | [], _, _ => rfl
  | m :: l, a, h => by
    rw [List.foldl_cons, List.foldl_cons, h m (.head _)]
    exact foldl_congr fun n hn => h n (.tail _ hn)
noncomputable def placeF (W : Nat → Nat) (al : List Nat) (j : Nat) : Nat := (List.range j).foldl (fun p m => min p (W m + ((al.take (j + 1)).drop (m + 1)).sum)) (al.take (j + 1)).sum
noncomputable def pl (W : Nat → Nat) (al : List Nat) : Nat → Nat
  | 0 => al.getD 0 0
  | j + 1 => min (W j) (pl W al j) + al.getD (j + 1) 0
theorem placeF_eq {W : Nat → Nat} {al : List Nat} : ∀ j < al.length, placeF W al j = pl W al j
  | 0, h => by
    cases al with
    | nil => simp at h
    | cons a l => simp [placeF, pl]
  | j + 1, h => by
    have ih := placeF_eq (W := W) (al := al) j (by omega)
    have ex : al.getD (j + 1) 0 = al[j + 1] := by simp [h]
    have e1 : al.take (j + 1 + 1) = al.take (j + 1) ++ [al[j + 1]] := List.take_succ_eq_append_getElem h
    have hlen : (al.take (j + 1)).length = j + 1 := by simp; omega
    unfold placeF pl
    rw [ex, e1, List.range_succ, List.foldl_append, List.foldl_cons, List.foldl_nil, List.sum_append]
    have ed : ((al.take (j + 1) ++ [al[j + 1]]).drop (j + 1)).sum = al[j + 1] := by
      rw [List.drop_append_of_le_length (by omega), List.drop_of_length_le (by omega)]; simp
    rw [ed, show [al[j + 1]].sum = al[j + 1] from by simp]
    have ec : (List.range j).foldl (fun p m => min p (W m + ((al.take (j + 1) ++ [al[j + 1]]).drop (m + 1)).sum)) ((al.take (j + 1)).sum + al[j + 1]) = placeF W al j + al[j + 1] := by
      rw [foldl_congr (g := fun m => (W m + ((al.take (j + 1)).drop (m + 1)).sum) + al[j + 1]), foldl_shift (fun m => W m + ((al.take (j + 1)).drop (m + 1)).sum)]
      · rfl
      · intro m hm
        have := List.mem_range.mp hm
        rw [List.drop_append_of_le_length (by omega), List.sum_append]
        simp; omega
    rw [ec, ih]; omega
theorem place_pl {T : Type} {lt : T → T → Bool} {B : Nat → Blk T} {n : Nat} {t : T} : ∀ j < n, pl (fun m => (B m).w.toNat) ((List.range n).map fun i => ah lt t (B i)) j = place lt B t j
  | 0, h => by simp [pl, place, h]
  | j + 1, h => by
    unfold pl place
    rw [place_pl j (by omega)]
    simp [h]
end
section
open _root_.PySem _root_.PySem.W _root_.PySem.Calls PyProof.Rows
set_option maxRecDepth 100000
section
variable {c : Cx} {f : Fm} {σ : St}
theorem L_th0 {v : Value} {p : Int × Int} {u : Tok} {Q : Value → St → Prop} (h : ThG σ.g v p) (q : ∀ t, Q (.int p.1 t) σ) :
    ∀ value slice, subscripted slice false v (.int 0 u) = operate [v, .int 0 u] (getItem v (.int 0 u)) → W c f (subscriptTail value slice v (.int 0 u)) σ Q := by
  obtain ⟨t, t', h⟩ := h
  exact L_itemG h (by decide) (by simp) (by simp) (q t)
theorem L_th1 {v : Value} {p : Int × Int} {u : Tok} {Q : Value → St → Prop} (h : ThG σ.g v p) (q : ∀ t, Q (.int p.2 t) σ) :
    ∀ value slice, subscripted slice false v (.int 1 u) = operate [v, .int 1 u] (getItem v (.int 1 u)) → W c f (subscriptTail value slice v (.int 1 u)) σ Q := by
  obtain ⟨t, t', h⟩ := h
  exact L_itemG h (by decide) (by simp) (by simp) (q t')
end
noncomputable def half (p : Int × Int) : Int := p.1.fdiv 2
noncomputable def thLt (s : Int) (o p : Int × Int) : Bool := decide ((half o - half p) * s < 0) || (half o == half p && decide (o.2 < p.2))
theorem fs_110 (w : World) : FnSt w 110 (KT w 110) := fnOk_ (ca := 109) (by kernel_rfl)
theorem ck_110 (w : World) : chkB (KT w 110) 40 ir_law_ahead (FD w 110).body = true := by kernel_rfl
theorem c_ahead {c : Cx} (hd : c.d ≤ 390) (hu : c.u ≤ 900) {tv rv : Value} {p : Int × Int} {vs : List Value} {ps : List (Int × Int)} {s : Int} {ts : Tok} {g : Heap} {sz : Option Nat}
    (hs : Builtin.Int.intBits s ≤ 64) (ht : ThG g tv p) (hr : LsG g rv vs) (hq : Ths g vs ps) (hz : vs.length < 1000) :
    Fn c (.ref 110) [tv, rv, .int s ts] g [] sz fun v g' m' z' => ∃ t, v = .int (ps.countP fun o => thLt s o p : Nat) t ∧ m' = [] := by
  refine fn_loc (fs_110 _) (GTok _) (by have : recursionLimit = 1000 := rfl; omega) (ck_110 _) (binds := [("thing", tv), ("row", rv), ("sign", .int s ts)]) (is := [0, 1, 2]) (by kernel_rfl) (by kernel_rfl)
    (vs := [some tv, some rv, some (.int s ts), none, none]) (by kernel_rfl) rfl fun f Q hQr hQn => ?_
  unfold ir_law_ahead
  repeat walk_at "w"
  refine L_th0 ht fun U => ?_
  repeat walk_at "w"
  refine ⟨[], [], _, _, _, _, .refl _, Iter_G hr, fun f1 acc ha hm => ⟨fun k σ => Ex5 fun g' th b xs z => σ = ⟨g', [none, b, some (.int (half p) th), some (.int s ts), some tv], [(acc, IsLs xs)], z⟩ ∧ Sub g g' ∧ xs.length = (ps.take k).countP fun o => thLt s o p,
    Frz.now fun g' S => ⟨g', _, none, [], _, rfl, S, by simp⟩, ?_, ?_⟩⟩
  · rintro k v U hk hv S' ⟨g', th, b, xs, z, rfl, S, hn⟩
    obtain ⟨o, ho, hov⟩ := hq.2 k v hv
    have hov := hov.sub S
    have htv := ht.sub S
    have hk' : k < ps.length := by rw [← hq.1]; exact hk
    have htk : (ps.take (k + 1)).countP (fun o => thLt s o p) = (ps.take k).countP (fun o => thLt s o p) + if thLt s o p = true then 1 else 0 := by
      rw [List.take_add_one, ho]; simp [List.countP_append, List.countP_cons]
    repeat walk_at "w"
    refine L_th0 hov fun U => ?_
    repeat walk_at "w"
    refine W_mulI (IntMulOk.of_right hs) fun U => ?_
    have hxl : xs.length ≤ 1000 := by
      have : (ps.take k).countP (fun o => thLt s o p) ≤ (ps.take k).length := List.countP_le_length
      rw [List.length_take] at this
      omega
    have h2 : o.1.fdiv 2 = half o := rfl
    rw [h2]
    repeat walk_at "w"
    by_cases c1 : (half o - half p) * s < 0
    · have e : thLt s o p = true := by simp [thLt, c1]
      simp only [c1, decide_true, if_true]
      repeat walk_at "w"
      refine L_app LU.here hxl ?_
      exact Frz.now fun g3 S3 => ⟨g3, th, _, _, _, rfl, S.trans S3, by rw [htk, e]; simp [hn]⟩
    · simp only [c1, decide_false, Bool.false_eq_true, if_false]
      repeat walk_at "w"
      refine L_th0 hov fun U => ?_
      repeat walk_at "w"
      rw [h2]
      cases c2 : (half o == half p) with
      | false =>
        have e : thLt s o p = false := by simp [thLt, c1, c2]
        simp only [Bool.false_eq_true, if_false]
        repeat walk_at "w"
        exact Frz.now fun g3 S3 => ⟨g3, th, _, _, _, rfl, S.trans S3, by rw [htk, e]; simp [hn]⟩
      | true =>
        simp only [if_true]
        repeat walk_at "w"
        refine L_th1 hov fun U => ?_
        repeat walk_at "w"
        refine L_th1 htv fun U => ?_
        repeat walk_at "w"
        by_cases c3 : o.2 < p.2
        · have e : thLt s o p = true := by simp [thLt, c2, c3]
          simp only [c3, decide_true, if_true]
          repeat walk_at "w"
          refine L_app LU.here hxl ?_
          exact Frz.now fun g3 S3 => ⟨g3, th, _, _, _, rfl, S.trans S3, by rw [htk, e]; simp [hn]⟩
        · have e : thLt s o p = false := by simp [thLt, c1, c3]
          simp only [c3, decide_false, Bool.false_eq_true, if_false]
          repeat walk_at "w"
          exact Frz.now fun g3 S3 => ⟨g3, th, _, _, _, rfl, S.trans S3, by rw [htk, e]; simp [hn]⟩
  · rintro _ S' ⟨g', th, b, xs, z, rfl, S, hn⟩
    rw [List.take_of_length_le (by rw [← hq.1]; exact Nat.le_refl _)] at hn
    repeat walk_at "w"
    refine L_len (.inr (.head _)) ?_ fun U => ?_
    · rw [hn]
      have : ps.countP (fun o => thLt s o p) ≤ ps.length := List.countP_le_length
      have := hq.1
      omega
    repeat walk_at "w"
    exact ⟨[(acc, IsLs xs)], [], .refl _, fun U h => h, fun g3 S3 U => ⟨_, by rw [hn], rfl⟩⟩
noncomputable abbrev Th := Value × (Int × Int)
noncomputable def lt2 (s : Int) (a b : Th) : Bool := thLt s a.2 b.2
noncomputable def ThsG (g : Heap) (L : List Th) : Prop := ∀ t ∈ L, ThG g t.1 t.2
theorem ThsG.sub {g g' : Heap} {L : List Th} (x : ThsG g L) (S : Sub g g') : ThsG g' L := fun t h => (x t h).sub S
theorem ThsG.ths {g : Heap} {L : List Th} (x : ThsG g L) : Ths g (L.map (·.1)) (L.map (·.2)) := ⟨by simp, fun i v e => by
  rw [List.getElem?_map] at e ⊢
  cases q : L[i]? with
  | none => rw [q] at e; cases e
  | some t =>
    rw [q] at e
    cases e
    exact ⟨t.2, rfl, x t (List.mem_of_getElem? q)⟩⟩
noncomputable def BlkG (g : Heap) (v : Value) (b : Blk Th) : Prop := Ex2 fun t rv => LsG g v [.int b.w t, rv] ∧ LsG g rv (b.row.map (·.1)) ∧ ThsG g b.row
theorem BlkG.sub {g g' : Heap} {v : Value} {b : Blk Th} (x : BlkG g v b) (S : Sub g g') : BlkG g' v b := let ⟨t, rv, a, d, e⟩ := x; ⟨t, rv, a.sub S, d.sub S, e.sub S⟩
noncomputable def AllG {β : Type} (R : Heap → Value → β → Prop) (g : Heap) (vs : List Value) (bs : List β) : Prop := vs.length = bs.length ∧ ∀ (i : Nat) v, vs[i]? = some v → ∃ b, bs[i]? = some b ∧ R g v b
theorem AllG.sub {β : Type} {R : Heap → Value → β → Prop} (hR : ∀ g g' v b, R g v b → Sub g g' → R g' v b) {g g' : Heap} {vs : List Value} {bs : List β} (x : AllG R g vs bs) (S : Sub g g') : AllG R g' vs bs :=
  ⟨x.1, fun i v e => let ⟨b, a, d⟩ := x.2 i v e; ⟨b, a, hR _ _ _ _ d S⟩⟩
theorem AllG.nil {β : Type} {R : Heap → Value → β → Prop} {g : Heap} : AllG R g [] [] := ⟨rfl, fun i v e => by cases e⟩
theorem AllG.snoc {β : Type} {R : Heap → Value → β → Prop} {g : Heap} {vs : List Value} {bs : List β} {v : Value} {b : β} (x : AllG R g vs bs) (h : R g v b) : AllG R g (vs ++ [v]) (bs ++ [b]) := by
  refine ⟨by simp [x.1], fun i u e => ?_⟩
  by_cases hi : i < vs.length
  · rw [List.getElem?_append_left hi] at e
    rw [List.getElem?_append_left (x.1 ▸ hi)]
    exact x.2 i u e
  · rw [List.getElem?_append_right (by omega)] at e
    rw [List.getElem?_append_right (by have := x.1; omega), ← x.1]
    cases hk : i - vs.length with
    | zero => rw [hk] at e; cases e; exact ⟨b, rfl, h⟩
    | succ k => rw [hk] at e; cases e
noncomputable def BlksG (g : Heap) (v : Value) (bs : List (Blk Th)) : Prop := ∃ vs, LsG g v vs ∧ AllG BlkG g vs bs
theorem BlksG.sub {g g' : Heap} {v : Value} {bs : List (Blk Th)} (x : BlksG g v bs) (S : Sub g g') : BlksG g' v bs := let ⟨vs, a, d⟩ := x; ⟨vs, a.sub S, AllG.sub (R := BlkG) (fun U U U U h S => h.sub S) d S⟩
noncomputable def bAt (bs : List (Blk Th)) (i : Nat) : Blk Th := bs.getD i ⟨0, []⟩
noncomputable def DueG (g : Heap) (v : Value) (p : Nat × Th) : Prop := Ex3 fun T o t => v = .ref T ∧ g.get? T = some o ∧ IsT [.int p.1 t, p.2.1] o
theorem DueG.sub {g g' : Heap} {v : Value} {p : Nat × Th} (x : DueG g v p) (S : Sub g g') : DueG g' v p := let ⟨T, o, t, a, b, d⟩ := x; ⟨T, o, t, a, S _ _ b, d⟩
theorem LU.mapAt {α : Type} {ka : α → Addr} {X X' : α → Obj → Prop} {a : α} : ∀ {l : List α}, a ∈ l → l.Nodup → (∀ b ∈ l, b ≠ a → X' b = X b) → LU (l.map fun j => (ka j, X j)) (ka a) (X a) (X' a) (l.map fun j => (ka j, X' j))
  | b :: l, hm, nd, hX => by
    have nd := List.nodup_cons.mp nd
    by_cases h : b = a
    · subst h
      have : (l.map fun j => (ka j, X' j)) = l.map fun j => (ka j, X j) := List.map_congr_left fun j hj => by rw [hX j (.tail _ hj) fun z => nd.1 (z ▸ hj)]
      rw [List.map_cons, List.map_cons, this]
      exact .here
    · rw [List.map_cons, List.map_cons, hX b (.head _) h]
      exact .there (LU.mapAt ((List.mem_cons.mp hm).resolve_left fun z => h z.symm) nd.2 fun c hc => hX c (.tail _ hc))
theorem pick_up {xs : List Value} {b : Nat} (hb : b ≤ xs.length) : (slicePick xs.toArray none (some (b : Int)) none).toList = xs.take b := by
  rw [slicePick_upto _ _ (by simpa using hb)]
theorem pick_run {xs : List Value} {a b : Nat} (hb : b ≤ xs.length) (hab : a ≤ b) : (slicePick xs.toArray (some (a : Int)) (some (b : Int)) none).toList = (xs.take b).drop a := by
  rw [slicePick_run _ _ _ (by simpa using hb) hab]; simp [List.drop_take]
section
variable {c : Cx} {f : Fm} {σ : St}
theorem L_blk {bv : Value} {bs : List (Blk Th)} {k : Int} {i : Nat} {u : Tok} {Q : Value → St → Prop} (hB : BlksG σ.g bv bs) (hk : k = (i : Nat)) (hi : i < bs.length) (hz : bs.length ≤ 1000) (q : ∀ v, BlkG σ.g v (bAt bs i) → Q v σ) :
    ∀ value slice, subscripted slice false bv (.int k u) = operate [bv, .int k u] (getItem bv (.int k u)) → W c f (subscriptTail value slice bv (.int k u)) σ Q := by
  subst hk
  obtain ⟨vs, hl, hA⟩ := hB
  have h1 := hA.1
  refine L_itemG hl (by omega) (by omega) (by omega) (q _ ?_)
  have e : vs[i]? = some (vs.getD i .none) := by
    rw [List.getD_eq_getElem?_getD, List.getElem?_eq_getElem (by omega)]; rfl
  obtain ⟨b, eb, hb⟩ := hA.2 i _ e
  rw [Int.toNat_natCast]
  have : bAt bs i = b := by unfold bAt; rw [List.getD_eq_getElem?_getD, eb]; rfl
  rw [this]; exact hb
theorem L_w {v : Value} {b : Blk Th} {u : Tok} {Q : Value → St → Prop} (h : BlkG σ.g v b) (q : ∀ t, Q (.int b.w t) σ) :
    ∀ value slice, subscripted slice false v (.int 0 u) = operate [v, .int 0 u] (getItem v (.int 0 u)) → W c f (subscriptTail value slice v (.int 0 u)) σ Q := by
  obtain ⟨t, rv, h, U⟩ := h
  exact L_itemG h (by decide) (by simp) (by simp) (q t)
theorem L_row {v : Value} {b : Blk Th} {u : Tok} {Q : Value → St → Prop} (h : BlkG σ.g v b) (q : ∀ rv, LsG σ.g rv (b.row.map (·.1)) → ThsG σ.g b.row → Q rv σ) :
    ∀ value slice, subscripted slice false v (.int 1 u) = operate [v, .int 1 u] (getItem v (.int 1 u)) → W c f (subscriptTail value slice v (.int 1 u)) σ Q := by
  obtain ⟨t, rv, h, h1, h2⟩ := h
  exact L_itemG h (by decide) (by simp) (by simp) (q rv h1 h2)
theorem BlksG.len {bv : Value} {bs : List (Blk Th)} {Q : Value → St → Prop} (hB : BlksG σ.g bv bs) (hz : bs.length ≤ 1000) (q : ∀ t, Q (.int (bs.length : Nat) t) σ) : W c f (call (.builtin "len") [bv]) σ Q := by
  obtain ⟨vs, hl, hA⟩ := hB
  rw [← hA.1] at q
  exact L_lenG hl (by rw [hA.1]; exact hz) q
end
noncomputable def mkl (n : Nat) (ka : Nat → Addr) (X : Nat → List Value) : Ledger := (List.range n).map fun j => (ka j, IsLs (X j))
theorem mkl_upd {n j : Nat} {ka : Nat → Addr} {X : Nat → List Value} {v : Value} (hj : j < n) : LU (mkl n ka X) (ka j) (IsLs (X j)) (IsLs (X j ++ [v])) (mkl n ka fun i => if i = j then X j ++ [v] else X i) := by
  have := LU.mapAt (ka := ka) (X := fun j => IsLs (X j)) (X' := fun i => IsLs (if i = j then X j ++ [v] else X i)) (List.mem_range.mpr hj) List.nodup_range (fun b U hb => by rw [if_neg hb])
  rw [if_pos rfl] at this
  exact this
noncomputable def aL (s : Int) (bs : List (Blk Th)) (t : Th) : List Nat := (List.range bs.length).map fun i => ah (lt2 s) t (bAt bs i)
theorem stays_iff {T : Type} {lt : T → T → Bool} {B : Nat → Blk T} {home j : Nat} {t : T} : stays lt B home j t = true ↔ ∀ i, home ≤ i → i ≤ j → (place lt B t i : Int) < (B i).w := by
  unfold stays
  rw [List.all_eq_true]
  constructor
  · intro h i h1 h2
    exact of_decide_eq_true (h i (List.mem_range'_1.mpr ⟨h1, by omega⟩))
  · intro h i hi
    have := List.mem_range'_1.mp hi
    exact decide_eq_true (h i this.1 (by omega))
theorem k_ahead {c : Cx} {f : Fm} (hd : c.d ≤ 380) (hu : c.u ≤ 800) {bv kv : Value} {bs : List (Blk Th)} (hnz : bs.length ≤ 100) {s : Int} (hs : Builtin.Int.intBits s ≤ 64) {ts th : Tok} {home : Nat} {t : Th} {g : Heap} (hB : BlksG g bv bs) (hr : ∀ b ∈ bs, b.row.length < 1000)
    (ht : ThG g t.1 t.2) {led : Ledger} {z : Option Nat} {b5 b6 b7 b8 : Option Value} {vr : List (Option Value)} {Q : Value → St → Prop}
    (q : ∀ g' acc vals z, Sub g g' → Ints vals ((aL s bs t).map Int.ofNat) → Q (.ref acc) ⟨g', some bv :: some (.int s ts) :: some kv :: some (.int home th) :: some t.1 :: b5 :: b6 :: b7 :: b8 :: vr, (acc, IsLs vals) :: led, z⟩) :
    wpE c f (.compN [(".0", .local), ("block", .local), ("_law_ahead", .globalImplicit), ("sign", .free), ("thing", .free)] [none, none, none, some 1, some 4] (.call (.g (.ref 110)) (.cons (.v 4) (.cons (.sub (.v 1) (.int 1)) (.cons (.v 3) .nil)))) 1 .nil (.v 0))
      ⟨g, some bv :: some (.int s ts) :: some kv :: some (.int home th) :: some t.1 :: b5 :: b6 :: b7 :: b8 :: vr, led, z⟩ Q := by
  obtain ⟨vs, hl, hA⟩ := hB
  repeat walk_at "w"
  refine ⟨[], led, _, _, _, _, .refl _, Iter_G hl, fun f1 acc ha hm => ⟨fun k σ => Ex4 fun g' b vals z => σ = ⟨g', [none, b, none, some (.int s ts), some t.1], (acc, IsLs vals) :: led, z⟩ ∧ Sub g g' ∧ Ints vals (((aL s bs t).take k).map Int.ofNat),
    Frz.now fun g' S => ⟨g', none, [], _, rfl, S, trivial⟩, ?_, ?_⟩⟩
  · rintro k v U hk hv S' ⟨g', b, vals, z, rfl, S, hn⟩
    obtain ⟨o, ho, hov⟩ := hA.2 k v hv
    have hov := hov.sub S
    repeat walk_at "w"
    refine ⟨(fs_110 _).plain, ?_⟩
    intro _
    refine L_row hov fun rv hrv hrt => ?_
    repeat walk_at "w"
    refine W_fn [] _ _ (.refl _) (c_ahead (by omega) (by omega) hs (ht.sub S) hrv hrt.ths (by rw [List.length_map]; exact hr o (List.mem_of_getElem? ho))) ?_
    rintro v' g2 m2 z2 S2 - ⟨t2, rfl, rfl⟩
    have hnl := hn.length
    refine L_app LU.here (by rw [hnl, List.length_map, List.length_take, aL, List.length_map, List.length_range]; omega) ?_
    refine Frz.now fun g3 S3 => ⟨g3, _, _, _, rfl, S.trans (S2.trans S3), ?_⟩
    have e : (aL s bs t).take (k + 1) = (aL s bs t).take k ++ [ah (lt2 s) t o] := by
      rw [List.take_add_one]
      congr 1
      unfold aL bAt
      have hk' : k < bs.length := by rw [← hA.1]; exact hk
      rw [List.getElem?_map, List.getElem?_range hk', Option.map_some, List.getD_eq_getElem?_getD, ho]; rfl
    rw [e, List.map_append]
    have e2 : (List.map (·.2) o.row).countP (fun o => thLt s o t.2) = ah (lt2 s) t o := by rw [List.countP_map]; rfl
    rw [e2]
    exact hn.snoc
  · rintro _ S' ⟨g', b, vals, z, rfl, S, hn⟩
    rw [List.take_of_length_le (by unfold aL; rw [List.length_map, List.length_range, hA.1]; exact Nat.le_refl _)] at hn
    repeat walk_at "w"
    exact q _ _ _ _ S hn
noncomputable def plF (W : Nat → Nat) (al : List Nat) (j m : Nat) : Nat := (List.range m).foldl (fun p m => min p (W m + ((al.take (j + 1)).drop (m + 1)).sum)) (al.take (j + 1)).sum
theorem sum_cast : ∀ l : List Nat, (l.map Int.ofNat).sum = (l.sum : Nat)
  | [] => rfl
  | a :: l => by rw [List.map_cons, List.sum_cons, List.sum_cons, sum_cast l]; simp
section
variable {c : Cx} {f : Fm}
theorem k_j (hd : c.d ≤ 380) (hu : c.u ≤ 800) {bv kv : Value} {bs : List (Blk Th)} (hnz : bs.length ≤ 100) {s : Int} {ts th tj : Tok} {home j : Nat} (hhj : home ≤ j) (hj : j < bs.length) {t : Th} {g : Heap} (hB : BlksG g bv bs)
    {ka : Nat → Addr} (hK : LsG g kv ((List.range bs.length).map fun j => .ref (ka j))) {X : Nat → List Value} (hX : (X j).length ≤ 1000) {acc : Addr} {vals : List Value} (hv : Ints vals ((aL s bs t).map Int.ofNat))
    {z : Option Nat} {b7 b8 : Option Value} {vr : List (Option Value)} {Q : Flow → St → Prop}
    (qb : ∀ g' b7 b8 z, Sub g g' → ¬ (place (lt2 s) (bAt bs) t j : Int) < (bAt bs j).w → Q .brk ⟨g', some bv :: some (.int s ts) :: some kv :: some (.int home th) :: some t.1 :: some (.ref acc) :: some (.int (j : Nat) tj) :: b7 :: b8 :: vr, (acc, IsLs vals) :: mkl bs.length ka X, z⟩)
    (qn : ∀ g' b7 b8 z v, Sub g g' → (place (lt2 s) (bAt bs) t j : Int) < (bAt bs j).w → DueG g' v (place (lt2 s) (bAt bs) t j, t) → Q .next ⟨g', some bv :: some (.int s ts) :: some kv :: some (.int home th) :: some t.1 :: some (.ref acc) :: some (.int (j : Nat) tj) :: b7 :: b8 :: vr, (acc, IsLs vals) :: mkl bs.length ka (fun i => if i = j then X j ++ [v] else X i), z⟩) :
    wpS c f ir_kept_j ⟨g, some bv :: some (.int s ts) :: some kv :: some (.int home th) :: some t.1 :: some (.ref acc) :: some (.int (j : Nat) tj) :: b7 :: b8 :: vr, (acc, IsLs vals) :: mkl bs.length ka X, z⟩ Q := by
  have hal : (aL s bs t).length = bs.length := by unfold aL; rw [List.length_map, List.length_range]
  have hvl : vals.length = bs.length := by rw [hv.length, List.length_map, hal]
  unfold ir_kept_j
  repeat walk_at "w"
  have e1 : (j : Int) + 1 = ((j + 1 : Nat) : Int) := by omega
  have hint : ∀ a b : Nat, Ints ((vals.take b).drop a) ((((aL s bs t).take b).drop a).map Int.ofNat) := fun a b => by rw [List.map_drop, List.map_take]; exact (hv.take b).drop a
  rw [e1]
  refine L_slc (.inr (.head _)) (by omega) .none (.int _ _) (pick_up (by omega)) fun a1 U U => ?_
  refine L_sum (.inr (.head _)) (by have := hint 0 (j + 1); rwa [List.drop_zero, List.drop_zero] at this) fun tp => ?_
  rw [sum_cast]
  repeat walk_at "w"
  rename Addr => r
  refine ⟨[(r, IsRg 0 (j : Nat))], (a1, IsLs (vals.take (j + 1))) :: (acc, IsLs vals) :: mkl bs.length ka X, j, _, _, _, .refl _, Iter_Rg (n := j) (a := 0) (b := (j : Nat)) (by omega) (by omega) (by omega) (by omega) (by omega),
    fun m σ => Ex4 fun g' tp b8 z => σ = ⟨g', some bv :: some (.int s ts) :: some kv :: some (.int home th) :: some t.1 :: some (.ref acc) :: some (.int (j : Nat) tj) :: some (.int (plF (fun m => (bAt bs m).w.toNat) (aL s bs t) j m : Nat) tp) :: b8 :: vr, (acc, IsLs vals) :: mkl bs.length ka X, z⟩ ∧ Sub g g',
    ⟨[(a1, IsLs (vals.take (j + 1)))], _, .refl _, fun g' S U => ⟨g', tp, b8, _, rfl, S⟩⟩, ?_, ?_⟩
  · rintro m U U hm ⟨tm, rfl⟩ S' ⟨g', tp', b8', z', rfl, S⟩
    rw [show (0 : Int) + (m : Nat) = (m : Nat) by omega]
    repeat walk_at "w"
    refine L_blk (hB.sub S) rfl (by omega) (by omega) fun v hv1 => ?_
    repeat walk_at "w"
    refine L_w hv1 fun U => ?_
    repeat walk_at "w"
    have e2 : (m : Int) + 1 = ((m + 1 : Nat) : Int) := by omega
    rw [e1, e2]
    refine L_slc (.inr (.head _)) (by omega) (.int _ _) (.int _ _) (pick_run (by omega) (by omega)) fun a2 U U => ?_
    refine L_sum (.inr (.head _)) (hint (m + 1) (j + 1)) fun U => ?_
    repeat walk_at "w"
    have e3 : min ((plF (fun m => (bAt bs m).w.toNat) (aL s bs t) j m : Nat) : Int) (max (bAt bs m).w 0 + ((((aL s bs t).take (j + 1)).drop (m + 1)).sum : Nat)) = (plF (fun m => (bAt bs m).w.toNat) (aL s bs t) j (m + 1) : Nat) := by
      unfold plF
      rw [List.range_succ, List.foldl_append]
      simp only [List.foldl_cons, List.foldl_nil]
      omega
    rw [sum_cast, e3]
    exact ⟨[(a2, _)], _, .refl _, fun g3 S3 U => ⟨g3, _, _, _, rfl, S.trans S3⟩⟩
  · rintro _ S' ⟨g', tp', b8', z', rfl, S⟩
    repeat walk_at "w"
    refine L_blk (hB.sub S) rfl (by omega) (by omega) fun v hv1 => ?_
    repeat walk_at "w"
    refine L_w hv1 fun U => ?_
    repeat walk_at "w"
    have e4 : plF (fun m => (bAt bs m).w.toNat) (aL s bs t) j j = place (lt2 s) (bAt bs) t j := by
      rw [← place_pl (n := bs.length) j hj, ← placeF_eq j (by rw [List.length_map, List.length_range]; exact hj)]; rfl
    rw [e4]
    by_cases hb : (bAt bs j).w ≤ (place (lt2 s) (bAt bs) t j : Int)
    · simp only [hb, decide_true, if_true]
      repeat walk_at "w"
      exact qb _ _ _ _ S (by omega)
    · simp only [hb, decide_false, Bool.false_eq_true, if_false]
      repeat walk_at "w"
      refine L_itemG (hK.sub S) (by omega) (by rw [List.length_map, List.length_range]; omega) (by rw [List.length_map, List.length_range]; omega) ?_
      have ek : ((List.range bs.length).map fun j => Value.ref (ka j)).getD (j : Int).toNat .none = .ref (ka j) := by
        rw [Int.toNat_natCast, List.getD_eq_getElem?_getD, List.getElem?_map, List.getElem?_range hj]; rfl
      rw [ek]
      have hU := fun v => mkl_upd (ka := ka) (X := X) (n := bs.length) (v := v) hj
      refine ⟨⟨_, _, rfl, .inr (.tail _ (hU .none).mem)⟩, ?_⟩
      repeat walk_at "w"
      refine W_newTuple (by simp; decide) fun g3 T o S3 U eT hT => ?_
      refine L_app (.there (hU _)) hX ?_
      repeat walk_at "w"
      exact qn _ _ _ _ _ (S.trans S3) (by omega) ⟨T, o, _, rfl, eT, hT⟩
end
noncomputable def Brt (s : Int) (bs : List (Blk Th)) (home lim : Nat) (t : Th) (g : Heap) (X X' : Nat → List Value) : Prop :=
  ∀ j < bs.length, if home ≤ j ∧ j < lim then ∃ v, X' j = X j ++ [v] ∧ DueG g v (place (lt2 s) (bAt bs) t j, t) else X' j = X j
theorem Brt.sub {s : Int} {bs : List (Blk Th)} {home lim : Nat} {t : Th} {g g' : Heap} {X X' : Nat → List Value} (b : Brt s bs home lim t g X X') (S : Sub g g') : Brt s bs home lim t g' X X' := fun j hj => by
  have := b j hj
  split
  · next h => rw [if_pos h] at this; obtain ⟨v, e, d⟩ := this; exact ⟨v, e, d.sub S⟩
  · next h => rw [if_neg h] at this; exact this
theorem Brt.next {s : Int} {bs : List (Blk Th)} {home lim : Nat} {t : Th} {g : Heap} {X X' : Nat → List Value} (b : Brt s bs home lim t g X X') (hl : home ≤ lim) {v : Value} (hv : DueG g v (place (lt2 s) (bAt bs) t lim, t)) :
    Brt s bs home (lim + 1) t g X (fun i => if i = lim then X' lim ++ [v] else X' i) := fun j hj => by
  have := b j hj
  show (if _ then ∃ v, (if j = lim then X' lim ++ [_] else X' j) = _ ∧ _ else (if j = lim then X' lim ++ [_] else X' j) = _)
  by_cases h : j = lim
  · subst h
    rw [if_pos ⟨hl, by omega⟩]
    rw [if_neg (by omega)] at this
    exact ⟨v, by rw [if_pos rfl, this], hv⟩
  · by_cases h2 : home ≤ j ∧ j < lim
    · rw [if_pos h2] at this
      rw [if_pos ⟨h2.1, by omega⟩, if_neg h]
      exact this
    · rw [if_neg h2] at this
      rw [if_neg (by omega), if_neg h]
      exact this
noncomputable def Brg (s : Int) (bs : List (Blk Th)) (home : Nat) (t : Th) (g : Heap) (X X' : Nat → List Value) : Prop :=
  ∀ j < bs.length, if home ≤ j ∧ stays (lt2 s) (bAt bs) home j t = true then ∃ v, X' j = X j ++ [v] ∧ DueG g v (place (lt2 s) (bAt bs) t j, t) else X' j = X j
theorem Brt.brg {s : Int} {bs : List (Blk Th)} {home lim : Nat} {t : Th} {g : Heap} {X X' : Nat → List Value} (b : Brt s bs home lim t g X X') (h : ∀ i, home ≤ i → i < lim → (place (lt2 s) (bAt bs) t i : Int) < (bAt bs i).w)
    (hl : lim < bs.length → ¬ (place (lt2 s) (bAt bs) t lim : Int) < (bAt bs lim).w) (hlim : home ≤ lim) : Brg s bs home t g X X' := fun j hj => by
  have := b j hj
  by_cases h2 : home ≤ j ∧ j < lim
  · rw [if_pos h2] at this
    rw [if_pos ⟨h2.1, stays_iff.mpr fun i h3 h4 => h i h3 (by omega)⟩]
    exact this
  · rw [if_neg h2] at this
    rw [if_neg]
    · exact this
    · rintro ⟨h3, h4⟩
      have := stays_iff.mp h4 lim hlim (by omega)
      exact hl (by omega) this
section
variable {c : Cx} {f : Fm}
theorem k_t (hd : c.d ≤ 380) (hu : c.u ≤ 800) {bv kv : Value} {bs : List (Blk Th)} (hnz : bs.length ≤ 100) {s : Int} (hs : Builtin.Int.intBits s ≤ 64) {ts th : Tok} {home : Nat} (hh : home < bs.length) {t : Th} {g : Heap} (hB : BlksG g bv bs)
    (hr : ∀ b ∈ bs, b.row.length < 1000) (ht : ThG g t.1 t.2)
    {ka : Nat → Addr} (hK : LsG g kv ((List.range bs.length).map fun j => .ref (ka j))) {X : Nat → List Value} (hX : ∀ j < bs.length, (X j).length ≤ 1000)
    {z : Option Nat} {b5 b6 b7 b8 : Option Value} {vr : List (Option Value)} {Q : Flow → St → Prop}
    (q : ∀ g' b5 b6 b7 b8 z l X', Sub g g' → Brg s bs home t g' X X' → Q .next ⟨g', some bv :: some (.int s ts) :: some kv :: some (.int home th) :: some t.1 :: b5 :: b6 :: b7 :: b8 :: vr, l ++ mkl bs.length ka X', z⟩) :
    wpS c f ir_kept_t ⟨g, some bv :: some (.int s ts) :: some kv :: some (.int home th) :: some t.1 :: b5 :: b6 :: b7 :: b8 :: vr, mkl bs.length ka X, z⟩ Q := by
  unfold ir_kept_t
  refine s_seq (s_asgC ?_)
  refine k_ahead hd hu hnz hs hB hr ht fun g1 acc vals z1 S1 hv => ?_
  repeat walk_at "w"
  refine BlksG.len (hB.sub S1) (by omega) fun U => ?_
  repeat walk_at "w"
  rename Addr => r
  refine ⟨[(r, IsRg home (bs.length : Nat))], (acc, IsLs vals) :: mkl bs.length ka X, bs.length - home, _, _, _, .refl _, Iter_Rg (n := bs.length - home) (a := home) (b := (bs.length : Nat)) (by omega) (by omega) (by omega) (by omega) (by omega),
    fun d σ => Ex6 fun g' X' b6 b7 b8 z => σ = ⟨g', some bv :: some (.int s ts) :: some kv :: some (.int home th) :: some t.1 :: some (.ref acc) :: b6 :: b7 :: b8 :: vr, (acc, IsLs vals) :: mkl bs.length ka X', z⟩ ∧ Sub g g' ∧
      (∀ i, home ≤ i → i < home + d → (place (lt2 s) (bAt bs) t i : Int) < (bAt bs i).w) ∧ Brt s bs home (home + d) t g' X X',
    Frz.now fun g' S => ⟨g', X, b6, b7, b8, _, rfl, S1.trans S, fun i h1 h2 => absurd h2 (by omega), fun j hj => by rw [if_neg (by omega)]⟩, ?_, ?_⟩
  · rintro d U U hd' ⟨tm, rfl⟩ S' ⟨g', X', b6', b7', b8', z', rfl, S, hst, hbr⟩
    rw [show (home : Int) + (d : Nat) = (home + d : Nat) by omega]
    have hXd : X' (home + d) = X (home + d) := by have := hbr (home + d) (by omega); rwa [if_neg (by omega)] at this
    refine k_j hd hu hnz (by omega) (by omega) (hB.sub S) (hK.sub S) (by rw [hXd]; exact hX _ (by omega)) hv ?_ ?_
    · intro g2 b7 b8 z2 S2 hb
      repeat walk_at "w"
      exact q _ _ _ _ _ _ [_] _ (S.trans S2) ((hbr.sub S2).brg hst (fun U => hb) (by omega))
    · intro g2 b7 b8 z2 v S2 hb hv
      repeat walk_at "w"
      refine Frz.now fun g3 S3 => ⟨g3, _, _, _, _, _, rfl, S.trans (S2.trans S3), fun i h1 h2 => ?_, ?_⟩
      · by_cases h3 : i = home + d
        · subst h3; exact hb
        · exact hst i h1 (by omega)
      · exact (hbr.sub (S2.trans S3)).next (by omega) (hv.sub S3)
  · rintro _ S' ⟨g', X', b6', b7', b8', z', rfl, S, hst, hbr⟩
    repeat walk_at "w"
    exact q _ _ _ _ _ _ [_] _ S (hbr.brg hst (fun h => absurd h (by omega)) (by omega))
end
section
variable {T : Type} {lt : T → T → Bool} {B : Nat → Blk T}
noncomputable def ktOf (lt : T → T → Bool) (B : Nat → Blk T) (h j : Nat) (l : List T) : List (Nat × T) := (l.filter (stays lt B h j)).map fun t => (Mine.place lt B t j, t)
noncomputable def preK (lt : T → T → Bool) (B : Nat → Blk T) (h j : Nat) : List (Nat × T) := (List.range (min h (j + 1))).flatMap fun home => ktOf lt B home j (B home).row
noncomputable def curK (lt : T → T → Bool) (B : Nat → Blk T) (h i j : Nat) : List (Nat × T) := preK lt B h j ++ if h ≤ j then ktOf lt B h j ((B h).row.take i) else []
theorem curK_zero (h j : Nat) : curK lt B h 0 j = preK lt B h j := by
  unfold curK ktOf; rw [List.take_zero]; split <;> simp
theorem curK_yes {h i j : Nat} {t : T} (ht : (B h).row[i]? = some t) (hj : h ≤ j) (hs : stays lt B h j t = true) : curK lt B h (i + 1) j = curK lt B h i j ++ [(place lt B t j, t)] := by
  unfold curK ktOf
  rw [if_pos hj, if_pos hj, List.take_add_one, ht, List.filter_append, List.map_append, List.append_assoc]
  simp [hs]
theorem curK_no {h i j : Nat} {t : T} (ht : (B h).row[i]? = some t) (hj : ¬ (h ≤ j ∧ stays lt B h j t = true)) : curK lt B h (i + 1) j = curK lt B h i j := by
  unfold curK ktOf
  by_cases h1 : h ≤ j
  · have : stays lt B h j t = false := by cases e : stays lt B h j t <;> simp_all
    rw [if_pos h1, if_pos h1, List.take_add_one, ht, List.filter_append, List.map_append]
    simp [this]
  · rw [if_neg h1, if_neg h1]
theorem curK_all (h j : Nat) : curK lt B h (B h).row.length j = preK lt B (h + 1) j := by
  unfold curK preK
  rw [List.take_length]
  by_cases h1 : h ≤ j
  · rw [if_pos h1, show min (h + 1) (j + 1) = h + 1 by omega, show min h (j + 1) = h by omega, List.range_succ, List.flatMap_append]
    simp
  · rw [if_neg h1, show min (h + 1) (j + 1) = j + 1 by omega, show min h (j + 1) = j + 1 by omega, List.append_nil]
theorem preK_kept {n j : Nat} (hj : j < n) : preK lt B n j = keptAt lt B j := by
  unfold preK keptAt ktOf; rw [show min n (j + 1) = j + 1 by omega]
theorem ktOf_le {h j : Nat} {l : List T} : (ktOf lt B h j l).length ≤ l.length := by unfold ktOf; rw [List.length_map]; exact List.length_filter_le _ _
theorem flat_le {β : Type} {F : Nat → List β} {k : Nat} (hF : ∀ i, (F i).length ≤ k) : ∀ n, ((List.range n).flatMap F).length ≤ n * k
  | 0 => by simp
  | n + 1 => by
    rw [List.range_succ, List.flatMap_append, List.length_append]
    have := flat_le hF n
    have := hF n
    simp only [List.flatMap_cons, List.flatMap_nil, List.append_nil]
    rw [Nat.succ_mul]; omega
theorem curK_le {h i j : Nat} (hr : ∀ k, (B k).row.length ≤ 20) : (curK lt B h i j).length ≤ h * 20 + 20 := by
  unfold curK preK
  rw [List.length_append]
  have h1 := flat_le (F := fun home => ktOf lt B home j (B home).row) (k := 20) (fun i => Nat.le_trans ktOf_le (hr i)) (min h (j + 1))
  have h2 : (if h ≤ j then ktOf lt B h j ((B h).row.take i) else []).length ≤ 20 := by
    split
    · exact Nat.le_trans ktOf_le (Nat.le_trans (by rw [List.length_take]; omega) (hr h))
    · simp
  have : min h (j + 1) * 20 ≤ h * 20 := Nat.mul_le_mul_right _ (by omega)
  omega
end
noncomputable def KeptG (g : Heap) (v : Value) (n : Nat) (K : Nat → List (Nat × Th)) : Prop := ∃ vs, LsG g v vs ∧ vs.length = n ∧ ∀ j < n, ∃ ds, LsG g (vs.getD j .none) ds ∧ AllG DueG g ds (K j)
theorem KeptG.sub {g g' : Heap} {v : Value} {n : Nat} {K : Nat → List (Nat × Th)} (x : KeptG g v n K) (S : Sub g g') : KeptG g' v n K :=
  let ⟨vs, a, b, d⟩ := x; ⟨vs, a.sub S, b, fun j hj => let ⟨ds, e1, e2⟩ := d j hj; ⟨ds, e1.sub S, AllG.sub (R := DueG) (fun U U U U h S => h.sub S) e2 S⟩⟩
theorem bAt_row {bs : List (Blk Th)} (hr : ∀ b ∈ bs, b.row.length ≤ 20) (k : Nat) : (bAt bs k).row.length ≤ 20 := by
  unfold bAt
  rw [List.getD_eq_getElem?_getD]
  cases e : bs[k]? with
  | none => exact Nat.zero_le _
  | some b => exact hr b (List.mem_of_getElem? e)
theorem Brg.all {s : Int} {bs : List (Blk Th)} {h i : Nat} {t : Th} {g g' : Heap} {X X' : Nat → List Value} (b : Brg s bs h t g' X X') (S : Sub g g') (ht : (bAt bs h).row[i]? = some t)
    (a : ∀ j < bs.length, AllG DueG g (X j) (curK (lt2 s) (bAt bs) h i j)) : ∀ j < bs.length, AllG DueG g' (X' j) (curK (lt2 s) (bAt bs) h (i + 1) j) := fun j hj => by
  have := b j hj
  have aj := AllG.sub (R := DueG) (fun U U U U h S => h.sub S) (a j hj) S
  by_cases h1 : h ≤ j ∧ stays (lt2 s) (bAt bs) h j t = true
  · rw [if_pos h1] at this
    obtain ⟨v, e, d⟩ := this
    rw [curK_yes ht h1.1 h1.2, e]
    exact aj.snoc d
  · rw [if_neg h1] at this
    rw [curK_no ht h1, this]; exact aj
theorem fs_115 (w : World) : FnSt w 115 (KT w 115) := fnOk_ (ca := 114) (by kernel_rfl)
theorem ck_115 (w : World) : chkB (KT w 115) 40 ir_law_kept (FD w 115).body = true := by kernel_rfl
theorem c_kept {c : Cx} (hd : c.d ≤ 370) (hu : c.u ≤ 700) {bv : Value} {bs : List (Blk Th)} (hnz : bs.length ≤ 40) (hr : ∀ b ∈ bs, b.row.length ≤ 20) {s : Int} {ts : Tok} {g : Heap} {sz : Option Nat}
    (hs : Builtin.Int.intBits s ≤ 64) (hB : BlksG g bv bs) :
    Fn c (.ref 115) [bv, .int s ts] g [] sz fun v g' m' z' => KeptG g' v bs.length (keptAt (lt2 s) (bAt bs)) ∧ m' = [] := by
  refine fn_loc (fs_115 _) (GTok _) (by have : recursionLimit = 1000 := rfl; omega) (ck_115 _) (binds := [("blocks", bv), ("sign", .int s ts)]) (is := [0, 1]) (by kernel_rfl) (by kernel_rfl)
    (vs := [some bv, some (.int s ts), none, none, none, none, none, none, none, none, none, none, none, none]) (by kernel_rfl) rfl fun f Q hQr hQn => ?_
  have hdd : (c.deep f.F).d ≤ 380 := by show c.d + 1 ≤ 380; omega
  have huu : (c.deep f.F).u ≤ 800 := by show c.u + 3 ≤ 800; omega
  unfold ir_law_kept
  refine s_seq (s_asgC ?_)
  obtain ⟨vs, hl, hA⟩ := id hB
  repeat walk_at "w"
  refine ⟨[], [], _, _, _, _, .refl _, Iter_G hl, fun f1 acc ha hm => ⟨fun k σ => Ex4 fun g' b ka z => σ = ⟨g', [none, b], (acc, IsLs ((List.range k).map fun j => .ref (ka j))) :: mkl k ka (fun U => []), z⟩ ∧ Sub g g',
    Frz.now fun g' S => ⟨g', none, fun U => 0, _, rfl, S⟩, ?_, ?_⟩⟩
  · rintro k v U hk hv S' ⟨g', b, ka, z, rfl, S⟩
    repeat walk_at "w"
    refine W_newList (by simp) fun a U U => ?_
    repeat walk_at "w"
    refine L_app (.there .here) (by rw [List.length_map, List.length_range]; have := hA.1; omega) ?_
    refine ⟨[], (acc, IsLs ((List.range (k + 1)).map fun j => .ref ((fun i => if i = k then a else ka i) j))) :: mkl (k + 1) (fun i => if i = k then a else ka i) (fun U => []), ?_, fun g3 S3 U => ⟨g3, _, _, _, rfl, S.trans S3⟩⟩
    have e1 : (List.range k).map (fun j => Value.ref (if j = k then a else ka j)) = (List.range k).map fun j => Value.ref (ka j) := List.map_congr_left fun j hj => by rw [if_neg (by have := List.mem_range.mp hj; omega)]
    have e2 : (List.range k).map (fun j => ((if j = k then a else ka j : Addr), IsLs [])) = (List.range k).map fun j => (ka j, IsLs []) := List.map_congr_left fun j hj => by rw [if_neg (by have := List.mem_range.mp hj; omega)]
    unfold mkl
    rw [List.range_succ, List.map_append, List.map_append, e1, e2]
    simp only [List.map_cons, List.map_nil, if_pos]
    refine (List.Perm.swap _ _ _).trans (.cons _ ?_)
    exact (List.perm_append_singleton _ _).symm
  · rintro _ S' ⟨g1, b, ka, z, rfl, S1⟩
    rw [hA.1]
    repeat walk_at "w"
    refine BlksG.len (hB.sub S1) (by omega) fun U => ?_
    repeat walk_at "w"
    rename Addr => r
    refine ⟨[(r, IsRg 0 (bs.length : Nat))], (acc, IsLs ((List.range bs.length).map fun j => .ref (ka j))) :: mkl bs.length ka (fun U => []), bs.length, _, _, _, .refl _, Iter_Rg (n := bs.length) (a := 0) (b := (bs.length : Nat)) (by omega) (by omega) (by omega) (by omega) (by omega),
      fun h σ => Ex9 fun g' X b3 b4 b5 b6 b7 b8 z => σ = ⟨g', [some bv, some (.int s ts), some (.ref acc), b3, b4, b5, b6, b7, b8, none, none, none, none, none], mkl bs.length ka X, z⟩ ∧ Sub g1 g' ∧ LsG g' (.ref acc) ((List.range bs.length).map fun j => .ref (ka j)) ∧
        ∀ j < bs.length, AllG DueG g' (X j) (preK (lt2 s) (bAt bs) h j),
      ⟨[(acc, _)], _, .refl _, fun g' S hx => ⟨g', _, _, _, _, _, _, _, _, rfl, S, ?_, fun j hj => ?_⟩⟩, ?_, ?_⟩
    · obtain ⟨o, e1, e2⟩ := hx _ (.head _)
      exact ⟨acc, o, rfl, e1, e2⟩
    · unfold preK
      rw [show min 0 (j + 1) = 0 by omega]
      exact AllG.nil
    · rintro h U U hh ⟨tm, rfl⟩ S' ⟨g2, X, b3, b4, b5, b6, b7, b8, z', rfl, S2, hK, hX⟩
      rw [show (0 : Int) + (h : Nat) = (h : Nat) by omega]
      repeat walk_at "w"
      refine L_blk (hB.sub (S1.trans S2)) rfl (by omega) (by omega) fun v hv1 => ?_
      repeat walk_at "w"
      refine L_row hv1 fun rv hrv hrt => ?_
      repeat walk_at "w"
      refine ⟨[], mkl bs.length ka X, _, _, _, _, .refl _, Iter_G hrv,
        fun i σ => Ex8 fun g' X' b4 b5 b6 b7 b8 z => σ = ⟨g', [some bv, some (.int s ts), some (.ref acc), some (.int (h : Nat) tm), b4, b5, b6, b7, b8, none, none, none, none, none], mkl bs.length ka X', z⟩ ∧ Sub g2 g' ∧ ∀ j < bs.length, AllG DueG g' (X' j) (curK (lt2 s) (bAt bs) h i j),
        Frz.now fun g' S => ⟨g', _, _, _, _, _, _, _, rfl, S, fun j hj => ?_⟩, ?_, ?_⟩
      · rw [curK_zero]; exact AllG.sub (R := DueG) (fun U U U U h S => h.sub S) (hX j hj) S
      · rintro i v U hi hv S' ⟨g3, X', b4', b5', b6', b7', b8', z3, rfl, S3, hX'⟩
        rw [List.getElem?_map] at hv
        obtain ⟨t, ht, rfl⟩ : ∃ t, (bAt bs h).row[i]? = some t ∧ t.1 = v := by
          cases e : (bAt bs h).row[i]? with
          | none => rw [e] at hv; cases hv
          | some t => rw [e] at hv; exact ⟨t, rfl, Option.some.inj hv⟩
        have htm : t ∈ (bAt bs h).row := List.mem_of_getElem? ht
        refine k_t hdd huu (by omega) hs hh (hB.sub (S1.trans (S2.trans S3))) (fun b hb => by have := hr b hb; omega) ((hrt t htm).sub S3) (hK.sub S3) (fun j hj => ?_) (vr := [none, none, none, none, none]) fun g4 b5'' b6'' b7'' b8'' z4 l X'' S4 hbr => ?_
        · rw [(hX' j hj).1]
          have := curK_le (lt := lt2 s) (B := bAt bs) (h := h) (i := i) (j := j) (bAt_row hr)
          omega
        · repeat walk_at "w"
          exact ⟨l, _, .refl _, fun g5 S5 U => ⟨g5, X'', _, _, _, _, _, _, rfl, S3.trans (S4.trans S5), fun j hj => AllG.sub (R := DueG) (fun U U U U h S => h.sub S) (hbr.all S4 ht hX' j hj) S5⟩⟩
      · rintro _ S' ⟨g3, X', b4', b5', b6', b7', b8', z3, rfl, S3, hX'⟩
        repeat walk_at "w"
        refine Frz.now fun g4 S4 => ⟨g4, X', _, _, _, _, _, _, _, rfl, S2.trans (S3.trans S4), hK.sub (S3.trans S4), fun j hj => ?_⟩
        have := hX' j hj
        rw [List.length_map, curK_all] at this
        exact AllG.sub (R := DueG) (fun U U U U h S => h.sub S) this S4
    · rintro _ S' ⟨g2, X, b3, b4, b5, b6, b7, b8, z', rfl, S2, hK, hX⟩
      repeat walk_at "w"
      refine ⟨mkl bs.length ka X, [], by rw [List.append_nil], fun U h => h, fun g3 S3 hx => ⟨⟨_, hK.sub S3, by rw [List.length_map, List.length_range], fun j hj => ⟨X j, ?_, ?_⟩⟩, rfl⟩⟩
      · rw [List.getD_eq_getElem?_getD, List.getElem?_map, List.getElem?_range hj]
        obtain ⟨o, e1, e2⟩ := hx (ka j, IsLs (X j)) (List.mem_map.mpr ⟨j, List.mem_range.mpr hj, rfl⟩)
        exact ⟨ka j, o, rfl, e1, e2⟩
      · rw [← preK_kept hj]
        exact AllG.sub (R := DueG) (fun U U U U h S => h.sub S) (hX j hj) S3
end
section
open _root_.PySem _root_.PySem.W _root_.PySem.Calls PyProof.Rows
set_option maxHeartbeats 0
set_option maxRecDepth 100000
section
variable {c : Cx} {f : Fm} {σ : St}
theorem L_last {l : Addr} {xs : List Value} {x : Value} {u : Tok} {Q : Value → St → Prop} (hl : Lst σ l (xs ++ [x])) (q : Q x σ) :
    ∀ value slice, subscripted slice false (.ref l) (.int (-1) u) = operate [.ref l, .int (-1) u] (getItem (.ref l) (.int (-1) u)) → W c f (subscriptTail value slice (.ref l) (.int (-1) u)) σ Q := by
  intro value slice hs A E h tk r a
  have hL := IsLs.isList (hl.at a)
  refine tail_any (s := mk c.s h tk) hL.typeIs slot_list_getitem.lookup (wpAny_getItem_list_neg (s := mk c.s h tk) hL (by decide) (by simp; omega) (by decide) (x := x) ?_ (.here a q)) hs
  have e : (-1 + ((xs ++ [x]).toArray.size : Int)).toNat = xs.length := by simp; omega
  rw [e]; simp
end
theorem Ints.get : ∀ {vs : List Value} {ns : List Int} (i : Nat) {v : Value}, Ints vs ns → vs[i]? = some v → Ex2 fun x t => v = .int x t ∧ ns[i]? = some x
  | v :: vs, n :: ns, 0, _, h, e => by obtain ⟨⟨t, (rfl)⟩, U⟩ := h; cases e; exact ⟨n, t, rfl, rfl⟩
  | v :: vs, n :: ns, i + 1, _, h, e => Ints.get (vs := vs) (ns := ns) i h.2 e
  | [], [], _, _, _, e => by cases e
  | [], _ :: _, _, _, h, _ => h.elim
  | _ :: _, [], _, _, h, _ => h.elim
theorem stE {g : Heap} {vs vs' : List (Option Value)} {led : Ledger} {sz sz' : Option Nat} (h1 : vs = vs') (h2 : sz = sz') : (⟨g, vs, led, sz⟩ : St) = ⟨g, vs', led, sz'⟩ := by rw [h1, h2]
theorem perm4 {α : Type} (a b c d : α) : [a, b, c, d].Perm ([a, d] ++ [c, b]) := .cons _ (((List.Perm.swap _ _ _).trans (.cons _ (.swap _ _ _))).trans (.swap _ _ _))
structure BS where
  done : List (Int × List (Int × Int))
  w : Int
  row : List (Int × Int)
  cnt : Nat
noncomputable def BS.step (b : BS) (x : Int) : BS :=
  if x.fmod 3 = 0 then ⟨b.done ++ [(b.w, b.row)], (x.fdiv 3).fmod 7 - 1, [], b.cnt⟩
  else ⟨b.done, b.w, b.row ++ [(if x.fmod 3 = 1 then x.fdiv 3 else (x.fdiv 3).fmod 4, (b.cnt : Int))], b.cnt + 1⟩
noncomputable def BS.of (ns : List Int) : BS := ns.foldl BS.step ⟨[], 3, [], 0⟩
noncomputable def BS.all (b : BS) : List (Int × List (Int × Int)) := b.done ++ [(b.w, b.row)]
noncomputable def shp (b : Blk Th) : Int × List (Int × Int) := (b.w, b.row.map (·.2))
noncomputable def nObj (x : Int) : Nat := if x.fmod 3 = 0 then 2 else 1
theorem BS.of_snoc (ns : List Int) (x : Int) : BS.of (ns ++ [x]) = (BS.of ns).step x := by unfold BS.of; rw [List.foldl_append]; rfl
noncomputable abbrev JBl (n : Nat) (l0 bA : Addr) (ns : List Int) (g1 : Heap) (k : Nat) (σ : St) : Prop :=
  Ex9 fun g' b3 ct rA vd lv done w row => σ = ⟨g', [some (.ref l0), some (.ref bA), some (.int (BS.of (ns.take k)).cnt ct), b3], [(bA, IsLs (vd ++ [lv])), (rA, IsLs (row.map (·.1)))], some (n + 9 + ((ns.take k).map nObj).sum)⟩ ∧ Sub g1 g' ∧ AllG BlkG g' vd done ∧ done.map shp = (BS.of (ns.take k)).done ∧ (∃ t, LsG g' lv [.int w t, .ref rA]) ∧ w = (BS.of (ns.take k)).w ∧ ThsG g' row ∧ row.map (·.2) = (BS.of (ns.take k)).row ∧ row.length ≤ k ∧ vd.length ≤ k
theorem fs_105 (w : World) : FnSt w 105 (KT w 105) := fnOk_ (ca := 104) (by kernel_rfl)
theorem ck_105 (w : World) : chkB (KT w 105) 40 ir_law_blocks (FD w 105).body = true := by kernel_rfl
theorem c_blocks {c : Cx} (hd : c.d ≤ 370) (hu : c.u ≤ 700) {nv : Value} {vs : List Value} {ns : List Int} {g : Heap} {n : Nat} (hN : LsG g nv vs) (hI : Ints vs ns) (hz : ns.length ≤ 100) :
    Fn c (.ref 105) [nv] g [] (some n) fun v g' m' z' => (∃ bs, BlksG g' v bs ∧ bs.map shp = (BS.of ns).all) ∧ m' = [] ∧ z' = some (n + 11 + (ns.map nObj).sum) := by
  refine fn_loc (fs_105 _) (GTok _) (by have : recursionLimit = 1000 := rfl; omega) (ck_105 _) (binds := [("numbers", nv)]) (is := [0]) (by kernel_rfl) (by kernel_rfl)
    (vs := [some nv, none, none, none]) (by kernel_rfl) rfl fun f Q hQr hQn => ?_
  unfold ir_law_blocks
  repeat walk_at "w"
  refine W_newList (by decide) fun rA U U => ?_
  repeat walk_at "w"
  refine W_newList (by simp; decide) fun lA U U => ?_
  repeat walk_at "w"
  refine W_newList (by simp; decide) fun bA U U => ?_
  repeat walk_at "w"
  refine W_newTuple (by simp; decide) fun g1 T o S1 U eT hT => ?_
  refine ⟨T, _, _, o, rfl, eT, hT, ?_⟩
  repeat walk_at "w"
  have hce : cellN (FD c.w 105).scope.names = 0 := by kernel_rfl
  obtain ⟨l0, o0, (rfl), hl0, hl1⟩ := id hN
  have hlen := hI.length
  refine ⟨[], _, _, _, _, _, .refl _, Iter_G (hN.sub S1),
    JBl n l0 bA ns g1,
    ⟨[(lA, _)], [(bA, IsLs [.ref lA]), (rA, IsLs [])], .swap _ _ _, fun g' S hx => ⟨g', none, _, rA, [], .ref lA, [], 3, [], stE rfl (by simp [szUp, zAdd, hce]), S, AllG.nil, rfl, ?_, rfl, (fun t h => by cases h), rfl, Nat.le_refl _, Nat.le_refl _⟩⟩, ?_, ?_⟩
  · obtain ⟨o, e1, e2⟩ := hx _ (.head _)
    exact ⟨_, lA, o, rfl, e1, e2⟩
  · rintro k v U hk hv S' ⟨g', b3, ct, rA', vd, lv, done, w, row, (rfl), S2, hA, hd1, hlv, hw, hT, hrow, hk1, hk2⟩
    obtain ⟨x, tx, (rfl), hx⟩ := hI.get k hv
    have htk : ns.take (k + 1) = ns.take k ++ [x] := by rw [List.take_add_one, hx]; rfl
    have hob : BS.of (ns.take (k + 1)) = (BS.of (ns.take k)).step x := by rw [htk, BS.of_snoc]
    have hsm : ((ns.take (k + 1)).map nObj).sum = ((ns.take k).map nObj).sum + nObj x := by rw [htk]; simp
    have hk' : k < ns.length := by rw [← hlen]; exact hk
    repeat walk_at "w"
    by_cases h0 : x.fmod 3 = 0
    · simp only [h0, beq_self_eq_true, if_true]
      repeat walk_at "w"
      refine ⟨⟨_, _, rfl, .inr (.head _)⟩, ?_⟩
      repeat walk_at "w"
      refine W_newList (by decide) fun r2 U U => ?_
      repeat walk_at "w"
      refine W_newList (by simp; decide) fun l2 U U => ?_
      repeat walk_at "w"
      refine L_app (.there (.there .here)) (by simp; omega) ?_
      repeat walk_at "w"
      have hst : (BS.of (ns.take k)).step x = ⟨(BS.of (ns.take k)).done ++ [((BS.of (ns.take k)).w, (BS.of (ns.take k)).row)], (x.fdiv 3).fmod 7 - 1, [], (BS.of (ns.take k)).cnt⟩ := by unfold BS.step; rw [if_pos h0]
      have hno : nObj x = 2 := by unfold nObj; rw [if_pos h0]
      refine ⟨[(l2, _), (rA', _)], [(bA, IsLs ((vd ++ [lv]) ++ [.ref l2])), (r2, IsLs [])], perm4 _ _ _ _, fun g3 S3 hx3 => ⟨g3, _, _, r2, vd ++ [lv], .ref l2, done ++ [⟨w, row⟩], (x.fdiv 3).fmod 7 - 1, [], stE (by rw [hob, hst]) (by rw [hsm, hno]; simp [szUp, zAdd]; omega), S2.trans S3, ?_, ?_, ?_, ?_, (fun t h => by cases h), ?_, Nat.zero_le _, ?_⟩⟩
      · refine (AllG.sub (R := BlkG) (fun U U U U h S => h.sub S) hA S3).snoc ?_
        obtain ⟨t, hlv⟩ := hlv
        obtain ⟨o, e1, e2⟩ := hx3 _ (.tail _ (.head _))
        exact ⟨t, _, hlv.sub S3, ⟨_, o, rfl, e1, e2⟩, hT.sub S3⟩
      · rw [hob, hst, List.map_append, hd1, hw]
        simp [shp, hrow]
      · obtain ⟨o, e1, e2⟩ := hx3 _ (.head _)
        exact ⟨_, l2, o, rfl, e1, e2⟩
      · rw [hob, hst]
      · rw [hob, hst]; rfl
      · simp; omega
    · have h0' : (x.fmod 3 == 0) = false := by simpa using h0
      simp only [h0', Bool.false_eq_true, if_false]
      repeat walk_at "w"
      refine L_last (.inr (.head _)) ?_
      repeat walk_at "w"
      obtain ⟨tw, hlv⟩ := hlv
      refine L_itemG hlv (by decide) (by simp) (by simp) ?_
      refine ⟨⟨_, _, rfl, .inr (.tail _ (.head _))⟩, ?_⟩
      repeat walk_at "w"
      have hst : (BS.of (ns.take k)).step x = ⟨(BS.of (ns.take k)).done, (BS.of (ns.take k)).w, (BS.of (ns.take k)).row ++ [(if x.fmod 3 = 1 then x.fdiv 3 else (x.fdiv 3).fmod 4, ((BS.of (ns.take k)).cnt : Int))], (BS.of (ns.take k)).cnt + 1⟩ := by unfold BS.step; rw [if_neg h0]
      have hno : nObj x = 1 := by unfold nObj; rw [if_neg h0]
      have fin : ∀ (a : Addr) (b3 : Option Value) (u1 : Tok) (val : Int) (z : Option Nat), val = (if x.fmod 3 = 1 then x.fdiv 3 else (x.fdiv 3).fmod 4) → z = some (n + 9 + ((ns.take k).map nObj).sum + 1) → ∀ u2, Frz (JBl n l0 bA ns g1 (k + 1)) ⟨g', [some (.ref l0), some (.ref bA), some (.int ((BS.of (ns.take k)).cnt + 1 : Int) u2), b3], [(a, IsLs [.int val u1, .int (BS.of (ns.take k)).cnt ct]), (bA, IsLs (vd ++ [lv])), (rA', IsLs (row.map (·.1) ++ [.ref a]))], z⟩ := by
        rintro a b3 u1 val U rfl rfl u2
        refine ⟨[(a, _)], _, .refl _, fun g3 S3 hx3 => ⟨g3, b3, u2, rA', vd, lv, done, w, row ++ [(.ref a, (if x.fmod 3 = 1 then x.fdiv 3 else (x.fdiv 3).fmod 4), ((BS.of (ns.take k)).cnt : Int))], ?_, S2.trans S3, AllG.sub (R := BlkG) (fun U U U U h S => h.sub S) hA S3, by rw [hob, hst]; exact hd1, ⟨tw, hlv.sub S3⟩, by rw [hob, hst]; exact hw, ?_, ?_, by simp; omega, by omega⟩⟩
        · show (⟨_, _, _, _⟩ : St) = _
          rw [hob, hst, hsm, hno, List.map_append]
          rfl
        · intro t ht
          rcases List.mem_append.mp ht with h | h
          · exact (hT t h).sub S3
          · rw [List.mem_singleton.mp h]
            obtain ⟨o, e1, e2⟩ := hx3 _ (.head _)
            exact ⟨_, _, a, o, rfl, e1, e2⟩
        · rw [hob, hst, List.map_append, hrow]; rfl
      by_cases h1 : x.fmod 3 = 1
      · simp only [h1, beq_self_eq_true, if_true]
        repeat walk_at "w"
        refine W_newList (by simp; decide) fun a U U => ?_
        repeat walk_at "w"
        refine L_app (.there (.there .here)) (by simp; omega) ?_
        repeat walk_at "w"
        exact fin _ _ _ _ _ (by rw [if_pos h1]) rfl _
      · have h1' : (x.fmod 3 == 1) = false := by simpa using h1
        simp only [h1', Bool.false_eq_true, if_false]
        repeat walk_at "w"
        refine W_newList (by simp; decide) fun a U U => ?_
        repeat walk_at "w"
        refine L_app (.there (.there .here)) (by simp; omega) ?_
        repeat walk_at "w"
        exact fin _ _ _ _ _ (by rw [if_neg h1]) rfl _
  · rintro _ S' ⟨g', b3, ct, rA', vd, lv, done, w, row, (rfl), S2, hA, hd1, hlv, hw, hT, hrow, hk1, hk2⟩
    rw [hlen, List.take_length] at hd1 hw hrow
    repeat walk_at "w"
    refine ⟨[(bA, IsLs (vd ++ [lv])), (rA', IsLs (row.map (·.1)))], [], .refl _, fun U h => h, fun g3 S3 hx3 => ⟨⟨done ++ [⟨w, row⟩], ⟨vd ++ [lv], ?_, ?_⟩, ?_⟩, rfl, ?_⟩⟩
    · obtain ⟨o, e1, e2⟩ := hx3 _ (.head _)
      exact ⟨bA, o, rfl, e1, e2⟩
    · refine (AllG.sub (R := BlkG) (fun U U U U h S => h.sub S) hA S3).snoc ?_
      obtain ⟨t, hlv⟩ := hlv
      obtain ⟨o, e1, e2⟩ := hx3 _ (.tail _ (.head _))
      exact ⟨t, _, hlv.sub S3, ⟨_, o, rfl, e1, e2⟩, hT.sub S3⟩
    · rw [List.map_append, hd1, hw]
      unfold BS.all
      rw [← hrow]; rfl
    · rw [hlen, List.take_length]; show some (n + 9 + (ns.map nObj).sum + 2) = some _; congr 1; omega
end
section
open _root_.PySem _root_.PySem.W _root_.PySem.W.X _root_.PySem.Calls PyProof.Rows
set_option maxHeartbeats 0
set_option maxRecDepth 100000
noncomputable abbrev zM := ZFast.zw12456147031677567982
noncomputable abbrev zHold := @ZFast.zw17359229931016689406
noncomputable abbrev zClass := @ZFast.zw1785580099245652887
noncomputable abbrev zLim := ZFast.zw2211186353215096513

noncomputable def RefE (A : Around) {α : Type} (t' t : Sem α) : Prop := ∀ (M : Model) (Γ : Ctx), Γ.In A → ∀ (Q : α → Pos → Shared → Prop) (E : Value → Pos → Shared → Prop) (p : Pos) (s : Shared), Sem.wp M Γ t' Q E p s → Sem.wp M Γ t Q E p s
section
variable {A : Around} {α β : Type}
theorem RefE.refl {t : Sem α} : RefE A t t := fun U U U U U U U h => h
theorem RefE.no {w : String} {t : Sem α} : RefE A (.unsupported w) t := fun U U U U U U U h => False.elim h
theorem z_bind {M : Model} {Γ : Ctx} {m : Sem α} {f : α → Sem β} {Q : β → Pos → Shared → Prop} {E : Value → Pos → Shared → Prop} {p : Pos} {s : Shared} :
    Sem.wp M Γ (@Bind.bind Sem zM.toBind α β m f) Q E p s = Sem.wp M Γ m (fun a p' s' => Sem.wp M Γ (f a) Q E p' s') E p s := by
  show Sem.wp M Γ (@Bind.bind Sem (ZFast.zw12456147031677567982).toBind α β m f) Q E p s = _
  rw [← ZFast.ze12456147031677567982]
  exact Sem.wp_bind' ..
theorem z_hold {M : Model} {Γ : Ctx} {l : List Value} {m : Sem α} {Q : α → Pos → Shared → Prop} {E : Value → Pos → Shared → Prop} {p : Pos} {s : Shared} :
    Sem.wp M Γ (zHold l m) Q E p s = Sem.wp M Γ m Q E p s := by
  show Sem.wp M Γ (@ZFast.zw17359229931016689406 _ l m) Q E p s = _
  rw [← ZFast.ze17359229931016689406]
  exact Sem.wp_holding ..
theorem RefE.bind {m m' : Sem α} {f f' : α → Sem β} (h : RefE A m' m) (k : ∀ x, RefE A (f' x) (f x)) : RefE A (@Bind.bind Sem zM.toBind α β m' f') (@Bind.bind Sem zM.toBind α β m f) := by
  intro M Γ hΓ Q E p s e
  rw [z_bind] at e ⊢
  exact h M Γ hΓ _ _ p s (Sem.wp_mono M Γ m' (fun x p' s' => k x M Γ hΓ Q E p' s') (fun U U U z => z) p s e)
theorem RefE.then {m : Sem α} {f f' : α → Sem β} (k : ∀ x, RefE A (f' x) (f x)) : RefE A (@Bind.bind Sem zM.toBind α β m f') (@Bind.bind Sem zM.toBind α β m f) := RefE.bind RefE.refl k
theorem RefE.hold {l : List Value} {m m' : Sem α} (h : RefE A m' m) : RefE A (zHold l m') (zHold l m) := by
  intro M Γ hΓ Q E p s e
  rw [z_hold] at e ⊢
  exact h M Γ hΓ Q E p s e
theorem RefE.condT {b : Bool} {x x' y : Sem α} (h : RefE A x' x) : RefE A (X.condFn (Sem α) b x' (.unsupported "")) (X.condFn (Sem α) b x y) := by
  cases b with
  | true => exact h
  | false => exact RefE.no
theorem RefE.condF {b : Bool} {x y' y : Sem α} (h : RefE A y' y) : RefE A (X.condFn (Sem α) b (.unsupported "") y') (X.condFn (Sem α) b x y) := by
  cases b with
  | true => exact RefE.no
  | false => exact h
theorem RefE.ref {m : Sem Value} {g : Addr → Sem β} {f : Value → Sem β} (k : ∀ a, RefE A (g a) (f (.ref a))) : RefE A (@Bind.bind Sem zM.toBind _ β m fun x => match x with | .ref a => g a | _ => .unsupported "") (@Bind.bind Sem zM.toBind _ β m f) :=
  RefE.then fun x => by cases x <;> first | exact k _ | exact RefE.no
theorem RefE.isSome {γ : Type} {m : Sem (Option γ)} {g : γ → Sem β} {f : Option γ → Sem β} (k : ∀ a, RefE A (g a) (f (Option.some a))) : RefE A (@Bind.bind Sem zM.toBind _ β m fun x => match x with | some a => g a | none => .unsupported "") (@Bind.bind Sem zM.toBind _ β m f) :=
  RefE.then fun x => by cases x <;> first | exact k _ | exact RefE.no
theorem RefE.isNone {γ : Type} {m : Sem (Option γ)} {g : Sem β} {f : Option γ → Sem β} (k : RefE A g (f Option.none)) : RefE A (@Bind.bind Sem zM.toBind _ β m fun x => match x with | some _ => .unsupported "" | none => g) (@Bind.bind Sem zM.toBind _ β m f) :=
  RefE.then fun x => by cases x <;> first | exact k | exact RefE.no
theorem RefE.one {m : Sem (List Value × Bool)} {g : Value → Sem β} {f : List Value × Bool → Sem β} (k : ∀ a, RefE A (g a) (f ([a], false))) : RefE A (@Bind.bind Sem zM.toBind _ β m fun x => match x with | ([a], false) => g a | _ => .unsupported "") (@Bind.bind Sem zM.toBind _ β m f) :=
  RefE.then fun x => by
    obtain ⟨l, b⟩ := x
    cases b <;> rcases l with _ | ⟨a, _ | _⟩ <;> first | exact k _ | exact RefE.no
noncomputable def enterY : Sem Unit := @Bind.bind Sem zM.toBind Nat Unit zLim fun l => X.condFn (Sem Unit) (Nat.beq l recursionLimit) (.pure ()) (.unsupported "")
theorem RefE.enter (hd : A.depth < recursionLimit) : RefE A enterY (ZFast.enterX 0) := by
  intro M Γ hΓ Q E p s e
  rw [← ZFast.enterX_eq]
  unfold enterY at e
  rw [z_bind] at e
  have hz : zLim = currentRecursionLimit := ZFast.ze2211186353215096513.symm
  rw [hz] at e
  have hsum : ((((Γ.code, p) :: Γ.below).map (·.1)).map (·.frames)).sum + ((((Γ.code, p) :: Γ.below).map (·.1)).filter Code.isCreation).length < recursionLimit := by
    have hge := frameCount_ge ((Γ.code, p) :: Γ.below)
    rw [frameCount_cons] at hge
    have := hΓ.2.1
    omega
  have hlt : ¬ ((((Γ.code, p) :: Γ.below).map (·.1)).map (·.frames)).sum ≥ recursionLimit := by omega
  have hlt' : ¬ ((((Γ.code, p) :: Γ.below).map (·.1)).map (·.frames)).sum + ((((Γ.code, p) :: Γ.below).map (·.1)).filter Code.isCreation).length ≥ recursionLimit := by omega
  unfold enterFrame
  rw [Sem.wp_bind']
  show Sem.wp M Γ (currentRecursionLimit >>= _) _ _ p s
  rw [Sem.wp_bind']
  show Sem.wp M Γ currentRecursionLimit _ _ p s
  refine Sem.wp_mono M Γ _ (fun l p' s' x => ?_) (fun U U U z => z) p s e
  cases q : Nat.beq l recursionLimit with
  | false => rw [q] at x; exact False.elim x
  | true =>
    have := Nat.eq_of_beq_eq_true q
    subst this
    rw [q] at x
    show Sem.wp M Γ (if nearTheLimitUnderAClaim (((Γ.code, p) :: Γ.below).map (·.1)) (((((Γ.code, p) :: Γ.below).map (·.1)).map (·.frames)).sum + ((((Γ.code, p) :: Γ.below).map (·.1)).filter Code.isCreation).length) recursionLimit = true then _ else _) _ _ p' s'
    rw [if_neg (by rw [not_nearTheLimit hΓ hd]; exact Bool.false_ne_true)]
    show Sem.wp M Γ (if ((((Γ.code, p) :: Γ.below).map (·.1)).map (·.frames)).sum ≥ recursionLimit then _ else _) _ _ p' s'
    rw [if_neg hlt]
    show Sem.wp M Γ (if ((((Γ.code, p) :: Γ.below).map (·.1)).map (·.frames)).sum + ((((Γ.code, p) :: Γ.below).map (·.1)).filter Code.isCreation).length ≥ recursionLimit then _ else _) _ _ p' s'
    rw [if_neg hlt']
    exact x
end

noncomputable def classY (A : Around) (hd : A.depth < recursionLimit) (name qual : Str) (b : Value) (body : List Stmt) (scope : Scope) (statics : List Str) (line : Nat) (env : Env) (pos : Pos) :
    { t : Sem Value // RefE A t (zClass name qual [b] [] body scope statics line env pos none) } :=
  ⟨_, RefE.then fun givenT => RefE.one fun b => RefE.then fun mcls => RefE.then fun ist => RefE.condT <| RefE.then fun mcls => RefE.then fun nameV => RefE.condF <| RefE.then fun basesT => RefE.hold <|
    RefE.isSome fun prep => RefE.ref fun nsA => RefE.then fun U => RefE.then fun item => RefE.condF <| RefE.hold <| RefE.condF <| RefE.isNone <| RefE.condF <| RefE.isNone <|
    RefE.then fun code => RefE.then fun builtins => RefE.then fun frame => RefE.then fun clo => RefE.hold <| RefE.bind (RefE.enter hd) fun U => RefE.refl⟩
noncomputable def factsL (n : Nat) (h : Heap) (T : BT) : List Nat → Prop
  | [] => True
  | i :: l => (match T.get i with | some o => h.get? (n + i) = some o | none => True) ∧ factsL n h T l
noncomputable def factC (h : Heap) (ch : Ch) : List Nat → Prop
  | [] => True
  | a :: l => (match chLook ch a with | some vs => h.get? a = some (tableObj vs) | none => True) ∧ factC h ch l
noncomputable def endP (V : XV) (idx tix : List Nat) (f : Flow) : Rest := fun T m i ch gl => ∀ h, h.objs.size = V.n₁ + m → factsL V.n₁ h T idx → factC h ch tix →
  (∀ b o, V.h₀.get? b = some o → chLook ch b = none → h.get? b = some o) → V.R₀ (.ok f) ⟨h, ⟨gl⟩, V.d, V.t₀ + i, V.os⟩
noncomputable def endS (V : XV) (idx tix : List Nat) : SimTy := fun c md κ t => match md, κ, t with
  | none, .base, .pure (.done f) => endP V idx tix f
  | _, _, _ => fun _ _ _ _ _ => False
noncomputable abbrev stepT := ZFast.zw5333898031498750240
noncomputable def simK (V : XV) (idx tix : List Nat) : Nat → SimTy
  | 0 => endS V idx tix
  | n + 1 => stepT V (simK V idx tix n)
theorem factsL_of {V : XV} {h : Heap} {T : BT} {m : Nat} {ch : Ch} (D : Rep V h T m ch) : ∀ l, factsL V.n₁ h T l
  | [] => trivial
  | i :: l => by
    refine ⟨?_, factsL_of D l⟩
    cases e : T.get i with
    | none => trivial
    | some o => exact (D.own i o e).2
theorem factC_of {V : XV} {h : Heap} {T : BT} {m : Nat} {ch : Ch} (D : Rep V h T m ch) : ∀ l, factC h ch l
  | [] => trivial
  | a :: l => by
    refine ⟨?_, factC_of D l⟩
    cases e : chLook ch a with
    | none => trivial
    | some o => exact (D.ch a o e).1
theorem simK_sound {V : XV} (O : V.Ok) (idx tix : List Nat) : ∀ n c md κ t T m i ch gl h, simK V idx tix n c md κ t T m i ch gl → Rep V h T m ch → Means V c md κ t ⟨h, ⟨gl⟩, V.d, V.t₀ + i, V.os⟩
  | 0 => fun c md κ t T m i ch gl h H D => by
    unfold simK endS at H
    split at H
    · rename_i f
      exact y_pure _ _ _ _ _ _ _ _ _ (y_done _ _ _ _ _ _ (H h D.size (factsL_of D idx) (factC_of D tix) D.keep))
    · exact H.elim
  | n + 1 => fun c md κ t T m i ch gl h H D => by
    have H' : ZFast.zw5333898031498750240 V (simK V idx tix n) c md κ t T m i ch gl := H
    rw [← ZFast.ze5333898031498750240] at H'
    exact step_sound O _ (simK_sound O idx tix n) c md κ t T m i ch gl h H' D
noncomputable def asFin (t : Sem Value) : Sem Fin := @Bind.bind Sem zM.toBind _ _ t fun v => .pure (.done (.ret v))
theorem run_any {V : XV} (O : V.Ok) {A : Around} {t t₀ : Sem Value} {Q : Value → Shared → Prop} {E : Value → Shared → Prop} (n : Nat) (idx tix : List Nat)
    (hh : A.handled = none) (hA : V.A₀ = { handled := none, depth := A.depth, frames := none, guards := none, units := A.units })
    (hR : V.R₀ = fun r s' => match r with | .ok (.ret v) => Q v s' | _ => False)
    (ref : RefE A t t₀)
    (H : ∀ c, simK V idx tix n c none .base (asFin t) .nil 0 0 [] []) :
    wpAny (model V.prog V.w) A t₀ Q E ⟨V.h₀, #[], V.d, V.t₀, V.os⟩ := by
  intro Γ p hΓ
  refine ref _ Γ hΓ _ _ p _ ?_
  have m := simK_sound O idx tix n Γ.code none .base (asFin t) .nil 0 0 [] [] V.h₀ (H Γ.code) (Rep.start O)
  have hb : Γ.Below V.A₀ := by
    rw [hA]
    refine ⟨hΓ.1.trans hh, Nat.le_trans (Nat.le_add_right _ _) hΓ.2.1, fun _ q => (nomatch q), fun _ q => (nomatch q), ?_⟩
    have := hΓ.2.2.2.2
    have e : Γ.units = Γ.code.cUnits + unitsOf Γ.below := rfl
    show unitsOf Γ.below ≤ A.units
    omega
  have z := m Γ p rfl hb
  unfold asFin at z
  rw [z_bind] at z
  refine Sem.wp_mono _ Γ t (fun v p' s' q => ?_) (fun e p' s' q => ?_) p _ z
  · have q' : V.R₀ (.ok (.ret v)) s' := q
    rw [hR] at q'
    exact q'
  · have q' : V.R₀ (.error e) s' := q
    rw [hR] at q'
    exact q'.elim
end
section
open Lean Meta Elab
open _root_.PySem _root_.PySem.W _root_.PySem.W.X PyProof.Rows _root_.PySem.W.ZRun
set_option maxHeartbeats 0
set_option maxRecDepth 100000
set_option pp.deepTerms true
set_option pp.maxSteps 200000
noncomputable def fieldsOf (o : Option Obj) : Array Value := match o with
  | some o => match o.data with | .fields vs => vs | _ => #[]
  | _ => #[]
noncomputable def fdOf (o : Option Obj) : Option FuncData := match o with
  | some o => match o.data with | .func fd => some fd | _ => none
  | _ => none
structure ClsS where
  name : Str
  body : List Stmt
  scope : Scope
  statics : List Str
  pos : Pos
noncomputable def clsIn (fd : Option FuncData) : ClsS := match fd with
  | some fd => match fd.body with
    | .stmts (.ClassDef name _ _ body _ _ scope _ _ statics pos :: _) => ⟨name, body, scope, statics, pos⟩
    | _ => ⟨Str.empty, [], default, [], default⟩
  | none => ⟨Str.empty, [], default, [], default⟩
noncomputable def scopeOf (fd : Option FuncData) : Scope := match fd with
  | some fd => fd.scope
  | none => default
noncomputable def fd89 (w : World) : Option FuncData := fdOf ((hd.ktop_241 w.params).get 89)
noncomputable def cEnv (w : World) (L : Nat) : Env := { scope := scopeOf (fd89 w), locals := L, globals := 3, cells := [(⟨⟨[109, 121, 99, 109, 112]⟩⟩, L + 1)], qual := ⟨⟨[99,109,112,95,116,111,95,107,101,121,46,60,108,111,99,97,108,115,62,46]⟩⟩, func := some 89, code := .ref 88, frame := some L, builtins := 0 }
noncomputable def kdel : Nat → PySem.W.X.KT → Nat → PySem.W.X.KT
  | 0, t, _ => t
  | _ + 1, .nil, _ => .nil
  | n + 1, .node v l r, i => match Nat.beq i 0 with
    | true => match l, r with
      | .nil, .nil => .nil
      | l, r => .node none l r
    | false => match Nat.beq (i % 2) 1 with
      | true => .node v (kdel n l (i / 2)) r
      | false => .node v l (kdel n r (i / 2 - 1))
noncomputable def kK (w : World) : PySem.W.X.KT := kdel 40 (hd.ktop_241 w.params) 117
noncomputable def frK (w : World) : Frag := (hd.heap_121 w.params).filter fun p => !(Nat.beq p.1 117)
theorem kt_eq (w : World) : PySem.W.X.KT.of (frK w) = kK w := by kernel_rfl
noncomputable def VV (prog : Program) (w : World) (h : Heap) (n d u : Nat) (R : Result → Shared → Prop) (dr : Drawn) (t : Nat) (os : OsState) : XV :=
  { prog, w, h₀ := h, n₁ := n, kt := kK w, tabs := [(84, fieldsOf ((hd.ktop_241 w.params).get 84))], A₀ := { handled := none, depth := d, frames := none, guards := none, units := u }, R₀ := R, d := dr, t₀ := t, os }
noncomputable def treeC (w : World) (A : Around) (hd : A.depth < recursionLimit) (L : Nat) : Sem Fin :=
  asFin (classY A hd (clsIn (fd89 w)).name ⟨⟨[99,109,112,95,116,111,95,107,101,121,46,60,108,111,99,97,108,115,62,46,75]⟩⟩ (.type "object") (clsIn (fd89 w)).body (clsIn (fd89 w)).scope (clsIn (fd89 w)).statics (clsIn (fd89 w)).pos.line (cEnv w L) (clsIn (fd89 w)).pos).1

noncomputable def oCls (n t : Nat) : Obj := ⟨.type "type", none, .cls { name := ⟨⟨[75]⟩⟩, bases := [.type "object"], mro := [.ref (n + 58), .type "object"], ns := n + 57, qualname := ⟨⟨[99,109,112,95,116,111,95,107,101,121,46,60,108,111,99,97,108,115,62,46,75]⟩⟩, hasDict := false, slotNames := [⟨⟨[111,98,106]⟩⟩] },
  #[some (.ref n), none, some (.str ⟨⟨[75]⟩⟩ t), some (.str ⟨⟨[99,109,112,95,116,111,95,107,101,121,46,60,108,111,99,97,108,115,62,46,75]⟩⟩ (t + 9)), some (.builtin "object.__new__"), some (.bool false)]⟩
noncomputable def oMem (n t : Nat) : Obj := { cls := .type "member_descriptor", data := .fields #[.str ⟨⟨[111,98,106]⟩⟩ (t + 73), .ref (n + 58), .builtin "proto.slot", .builtin "proto.slot#set", .int 0 0] }
structure MetS where
  name : Str
  params : Arguments
  body : List Stmt
  scope : Scope
noncomputable def metAt (l : List Stmt) (k : Nat) : MetS := match l[k]? with
  | some (.FunctionDef name args body _ _ _ scope _ _ _) => ⟨name, args, body, scope⟩
  | _ => ⟨Str.empty, ⟨[], [], none, [], [], none, []⟩, [], default⟩
noncomputable def metK (w : World) (k : Nat) : MetS := metAt (clsIn (fd89 w)).body k
noncomputable def oMet (w : World) (n k c : Nat) (q : Str) (clo : List (Str × Addr)) (ct : Value) : Obj :=
  ⟨.type "function", none, .func { name := (metK w k).name, qualname := q, params := (metK w k).params, body := .stmts (metK w k).body, «scope» := (metK w k).scope, «globals» := 3, closure := clo, defaults := .none, kwdefaults := .none, pyModule := .str ⟨⟨[108,97,119,95,109,103,48,48,52,57,95,48,49]⟩⟩ 311, code := .ref (n + c), closureTuple := ct }, #[]⟩
noncomputable def cloM (n : Nat) : List (Str × Addr) := [(⟨⟨[109,121,99,109,112]⟩⟩, n - 1)]
noncomputable def oIni (w : World) (n : Nat) : Obj := oMet w n 2 13 ⟨⟨[99,109,112,95,116,111,95,107,101,121,46,60,108,111,99,97,108,115,62,46,75,46,95,95,105,110,105,116,95,95]⟩⟩ [] .none
noncomputable def oLt (w : World) (n : Nat) : Obj := oMet w n 3 21 ⟨⟨[99,109,112,95,116,111,95,107,101,121,46,60,108,111,99,97,108,115,62,46,75,46,95,95,108,116,95,95]⟩⟩ (cloM n) (.ref (n + 15))
noncomputable def oGt (w : World) (n : Nat) : Obj := oMet w n 4 29 ⟨⟨[99,109,112,95,116,111,95,107,101,121,46,60,108,111,99,97,108,115,62,46,75,46,95,95,103,116,95,95]⟩⟩ (cloM n) (.ref (n + 23))
noncomputable def oEq (w : World) (n : Nat) : Obj := oMet w n 5 37 ⟨⟨[99,109,112,95,116,111,95,107,101,121,46,60,108,111,99,97,108,115,62,46,75,46,95,95,101,113,95,95]⟩⟩ (cloM n) (.ref (n + 31))
noncomputable def sFile : Str := ⟨⟨[47,99,108,97,105,109,47,99,117,116,46,112,121]⟩⟩
noncomputable def oCode (n t : Nat) (name q : Str) (line : Int) (a i l : Nat) : Obj :=
  ⟨.type "code", none, .fields #[.str name (t + i), .str q (t + (i + 1)), .str sFile (t + (i + 2)), rawInt line, rawInt 2, rawInt 0, rawInt 0, rawInt 19, .ref (n + a), .bool true, rawInt 181, .ref (n + (a + 1)), .none, .ref (n + (a + 2)), .ref (n + (a + 3)), .ref (n + (a + 4)), rawInt ((t + l : Nat) : Int), rawInt line, .str sFile (t + (l + 1))], #[]⟩
noncomputable def oCIni (n t : Nat) : Obj := oCode n t ⟨⟨[95,95,105,110,105,116,95,95]⟩⟩ ⟨⟨[99,109,112,95,116,111,95,107,101,121,46,60,108,111,99,97,108,115,62,46,75,46,95,95,105,110,105,116,95,95]⟩⟩ 167 8 17 22
noncomputable def oCLt (n t : Nat) : Obj := oCode n t ⟨⟨[95,95,108,116,95,95]⟩⟩ ⟨⟨[99,109,112,95,116,111,95,107,101,121,46,60,108,111,99,97,108,115,62,46,75,46,95,95,108,116,95,95]⟩⟩ 170 16 25 31
noncomputable def oCGt (n t : Nat) : Obj := oCode n t ⟨⟨[95,95,103,116,95,95]⟩⟩ ⟨⟨[99,109,112,95,116,111,95,107,101,121,46,60,108,111,99,97,108,115,62,46,75,46,95,95,103,116,95,95]⟩⟩ 173 24 34 40
noncomputable def oCEq (n t : Nat) : Obj := oCode n t ⟨⟨[95,95,101,113,95,95]⟩⟩ ⟨⟨[99,109,112,95,116,111,95,107,101,121,46,60,108,111,99,97,108,115,62,46,75,46,95,95,101,113,95,95]⟩⟩ 176 32 43 49
noncomputable def enK (w : World) (name : Str) (tok : Nat) (v : Value) : DictEntry := ⟨ZFast.zw12210062019545310541 (w.params.strHash name.cps), .str name tok, v⟩
noncomputable def oNs (w : World) (n t : Nat) : Obj := ⟨.type "dict", none, .dict #[enK w ⟨⟨[95,95,109,111,100,117,108,101,95,95]⟩⟩ (t + 8) (.str ⟨⟨[99,112,121,51,49,51,46,102,117,110,99,116,111,111,108,115]⟩⟩ (t + 13)), enK w ⟨⟨[95,95,102,105,114,115,116,108,105,110,101,110,111,95,95]⟩⟩ (t + 12) (.int 163 (t + 11)), enK w ⟨⟨[95,95,115,108,111,116,115,95,95]⟩⟩ (t + 16) (.ref (n + 7)), enK w ⟨⟨[95,95,105,110,105,116,95,95]⟩⟩ (t + 24) (.ref (n + 14)), enK w ⟨⟨[95,95,108,116,95,95]⟩⟩ (t + 33) (.ref (n + 22)), enK w ⟨⟨[95,95,103,116,95,95]⟩⟩ (t + 42) (.ref (n + 30)), enK w ⟨⟨[95,95,101,113,95,95]⟩⟩ (t + 51) (.ref (n + 38)), enK w ⟨⟨[95,95,108,101,95,95]⟩⟩ (t + 60) (.ref (n + 46)), enK w ⟨⟨[95,95,103,101,95,95]⟩⟩ (t + 69) (.ref (n + 54)), enK w ⟨⟨[95,95,104,97,115,104,95,95]⟩⟩ (t + 70) (.none), enK w ⟨⟨[95,95,115,116,97,116,105,99,95,97,116,116,114,105,98,117,116,101,115,95,95]⟩⟩ (t + 72) (.ref (n + 55)), enK w ⟨⟨[111,98,106]⟩⟩ (t + 74) (.ref (n + 59)), enK w ⟨⟨[95,95,100,111,99,95,95]⟩⟩ (t + 75) (.none)] 3, #[]⟩
noncomputable def endC (prog : Program) (w : World) (h : Heap) (n d u : Nat) (R : Result → Shared → Prop) (dr : Drawn) (t : Nat) (os : OsState) : Prop :=
  ∀ h' : Heap, h'.objs.size = n + 62 → (h'.get? (n + 13) = some (oCIni n t) ∧ h'.get? (n + 21) = some (oCLt n t) ∧ h'.get? (n + 29) = some (oCGt n t) ∧ h'.get? (n + 37) = some (oCEq n t) ∧ h'.get? (n + 14) = some (oIni w n) ∧ h'.get? (n + 22) = some (oLt w n) ∧ h'.get? (n + 30) = some (oGt w n) ∧ h'.get? (n + 38) = some (oEq w n) ∧ h'.get? (n + 57) = some (oNs w n t) ∧ h'.get? (n + 58) = some (oCls n t) ∧ h'.get? (n + 59) = some (oMem n t) ∧ True) → factC h' [(84, #[rawInt 163, rawInt 4, .ref (n + 5)])] [84] →
    (∀ b o, h.get? b = some o → chLook [(84, #[rawInt 163, rawInt 4, .ref (n + 5)])] b = none → h'.get? b = some o) → R (.ok (.ret (.ref (n + 58)))) ⟨h', ⟨[]⟩, dr, t + 77, os⟩
noncomputable def RunC (n : Nat) : Prop := ∀ (prog : Program) (w : World) (h : Heap) (d u : Nat) (R : Result → Shared → Prop) (dr : Drawn) (t : Nat) (os : OsState) (A : Around) (hd : A.depth < recursionLimit) (c : PySem.Code),
  simK (VV prog w h n d u R dr t os) [13, 21, 29, 37, 14, 22, 30, 38, 57, 58, 59] [84] 422 c none .base (treeC w A hd (n - 2)) .nil 0 0 [] [] = endC prog w h n d u R dr t os
end
section
open _root_.PySem _root_.PySem.W _root_.PySem.W.X _root_.PySem.Calls PyProof.Rows
set_option maxHeartbeats 0
set_option maxRecDepth 100000
noncomputable abbrev AA (d u : Nat) : Around := { handled := none, depth := d, frames := none, guards := none, units := u }
noncomputable def lamAt (l : List Stmt) : Option (Arguments × Expr × Scope × Pos) := match l with
  | _ :: .Assign _ (.Call _ [.Lambda a e s p] _ _) _ :: _ => some (a, e, s, p)
  | _ => none
structure LamS where
  a : Arguments
  e : Expr
  s : Scope
  p : Pos
noncomputable def lamS (o : Option (Arguments × Expr × Scope × Pos)) : LamS := match o with
  | some (a, e, s, p) => ⟨a, e, s, p⟩
  | none => ⟨⟨[], [], none, [], [], none, []⟩, .Constant .none 0 default, default, default⟩
noncomputable def bodyOf (fd : Option FuncData) : List Stmt := match fd with
  | some fd => match fd.body with | .stmts l => l | _ => []
  | none => []
noncomputable def lamK (w : World) : LamS := lamS (lamAt (bodyOf (fdOf ((hd.ktop_241 w.params).get 120))))
structure CdT where
  (a0 a2 a3 a4 a5 a6 a7 a8 a9 a10 a11 a12 a13 a14 a15 a16 a17 a18 : Value) (t : Tok)
noncomputable def xCode (q : Str) (c : CdT) : Obj :=
  ⟨.type "code", none, .fields #[c.a0, .str q c.t, c.a2, c.a3, c.a4, c.a5, c.a6, c.a7, c.a8, c.a9, c.a10, c.a11, c.a12, c.a13, c.a14, c.a15, c.a16, c.a17, c.a18], #[]⟩
noncomputable def xCls (cls ns : Addr) (cont : Value) (t1 t2 : Tok) : Obj := ⟨.type "type", none, .cls { name := ⟨⟨[75]⟩⟩, bases := [.type "object"], mro := [.ref cls, .type "object"], ns := ns, qualname := ⟨⟨[99,109,112,95,116,111,95,107,101,121,46,60,108,111,99,97,108,115,62,46,75]⟩⟩, hasDict := false, slotNames := [⟨⟨[111,98,106]⟩⟩] },
  #[some cont, none, some (.str ⟨⟨[75]⟩⟩ t1), some (.str ⟨⟨[99,109,112,95,116,111,95,107,101,121,46,60,108,111,99,97,108,115,62,46,75]⟩⟩ t2), some (.builtin "object.__new__"), some (.bool false)]⟩
noncomputable def xMem (cls : Addr) (t : Tok) : Obj := { cls := .type "member_descriptor", data := .fields #[.str ⟨⟨[111,98,106]⟩⟩ t, .ref cls, .builtin "proto.slot", .builtin "proto.slot#set", .int 0 0] }
noncomputable def xMet (w : World) (k : Nat) (q : Str) (c : Addr) (clo : List (Str × Addr)) (ct : Value) (tm : Tok) : Obj :=
  ⟨.type "function", none, .func { name := (metK w k).name, qualname := q, params := (metK w k).params, body := .stmts (metK w k).body, «scope» := (metK w k).scope, «globals» := 3, closure := clo, defaults := .none, kwdefaults := .none, pyModule := .str ⟨⟨[108,97,119,95,109,103,48,48,52,57,95,48,49]⟩⟩ tm, code := .ref c, closureTuple := ct }, #[]⟩
noncomputable def xLam (w : World) (q : Str) (c : Addr) (pm : Value) : Obj :=
  ⟨.type "function", none, .func { name := ⟨⟨[60, 108, 97, 109, 98, 100, 97, 62]⟩⟩, qualname := q, params := (lamK w).a, body := .expr (lamK w).e, «scope» := (lamK w).s, «globals» := 3, closure := [], defaults := .none, kwdefaults := .none, pyModule := pm, code := .ref c, closureTuple := .none }, #[]⟩
noncomputable abbrev qIni : Str := ⟨⟨[99,109,112,95,116,111,95,107,101,121,46,60,108,111,99,97,108,115,62,46,75,46,95,95,105,110,105,116,95,95]⟩⟩
noncomputable abbrev qLt : Str := ⟨⟨[99,109,112,95,116,111,95,107,101,121,46,60,108,111,99,97,108,115,62,46,75,46,95,95,108,116,95,95]⟩⟩
noncomputable abbrev qGt : Str := ⟨⟨[99,109,112,95,116,111,95,107,101,121,46,60,108,111,99,97,108,115,62,46,75,46,95,95,103,116,95,95]⟩⟩
noncomputable abbrev qEq : Str := ⟨⟨[99,109,112,95,116,111,95,107,101,121,46,60,108,111,99,97,108,115,62,46,75,46,95,95,101,113,95,95]⟩⟩
noncomputable abbrev sMycmp : Str := ⟨⟨[109,121,99,109,112]⟩⟩
structure NsT where
  (m m' f f' s i l g e le ge h st o d : Tok) (sl le' ge' st' : Value)
noncomputable def xNs (w : World) (q : NsT) (ini lt gt eq mem : Addr) : Obj := ⟨.type "dict", none, .dict #[enK w ⟨⟨[95,95,109,111,100,117,108,101,95,95]⟩⟩ q.m (.str ⟨⟨[99,112,121,51,49,51,46,102,117,110,99,116,111,111,108,115]⟩⟩ q.m'), enK w ⟨⟨[95,95,102,105,114,115,116,108,105,110,101,110,111,95,95]⟩⟩ q.f (.int 163 q.f'), enK w ⟨⟨[95,95,115,108,111,116,115,95,95]⟩⟩ q.s q.sl, enK w ⟨⟨[95,95,105,110,105,116,95,95]⟩⟩ q.i (.ref ini), enK w ⟨⟨[95,95,108,116,95,95]⟩⟩ q.l (.ref lt), enK w ⟨⟨[95,95,103,116,95,95]⟩⟩ q.g (.ref gt), enK w ⟨⟨[95,95,101,113,95,95]⟩⟩ q.e (.ref eq), enK w ⟨⟨[95,95,108,101,95,95]⟩⟩ q.le q.le', enK w ⟨⟨[95,95,103,101,95,95]⟩⟩ q.ge q.ge', enK w ⟨⟨[95,95,104,97,115,104,95,95]⟩⟩ q.h (.none), enK w ⟨⟨[95,95,115,116,97,116,105,99,95,97,116,116,114,105,98,117,116,101,115,95,95]⟩⟩ q.st q.st', enK w ⟨⟨[111,98,106]⟩⟩ q.o (.ref mem), enK w ⟨⟨[95,95,100,111,99,95,95]⟩⟩ q.d (.none)] 3, #[]⟩
noncomputable def frX : Params → Frag := fun p => (hd.heap_121 p).filter fun q => !(Nat.beq q.1 117 || Nat.beq q.1 84)
structure KA where
  (cls ns mem ini lt gt eq ci cl cg ce cel lam lamc : Addr)
structure KW (w : World) (h : Heap) (k : KA) : Prop where
  cls : Ex3 fun cont t1 t2 => h.get? k.cls = some (xCls k.cls k.ns cont t1 t2)
  ns : ∃ q, h.get? k.ns = some (xNs w q k.ini k.lt k.gt k.eq k.mem)
  mem : ∃ t, h.get? k.mem = some (xMem k.cls t)
  ini : ∃ tm, h.get? k.ini = some (xMet w 2 qIni k.ci [] .none tm)
  lt : Ex2 fun ct tm => h.get? k.lt = some (xMet w 3 qLt k.cl [(sMycmp, k.cel)] ct tm)
  gt : Ex2 fun ct tm => h.get? k.gt = some (xMet w 4 qGt k.cg [(sMycmp, k.cel)] ct tm)
  eq : Ex2 fun ct tm => h.get? k.eq = some (xMet w 5 qEq k.ce [(sMycmp, k.cel)] ct tm)
  ci : ∃ c, h.get? k.ci = some (xCode qIni c)
  cl : ∃ c, h.get? k.cl = some (xCode qLt c)
  cg : ∃ c, h.get? k.cg = some (xCode qGt c)
  ce : ∃ c, h.get? k.ce = some (xCode qEq c)
  cel : h.IsCell k.cel (some (.ref k.lam))
  lam : Ex2 fun q pm => h.get? k.lam = some (xLam w q k.lamc pm) ∧ ∃ c, h.get? k.lamc = some (xCode q c)
theorem KW.sub {w : World} {h h' : Heap} {k : KA} (x : KW w h k) (S : Sub h h') : KW w h' k := by
  obtain ⟨⟨a1, a2, a3, a⟩, ⟨b1, b⟩, ⟨c1, c⟩, ⟨d1, d⟩, ⟨e1, e2, e⟩, ⟨f1, f2, f⟩, ⟨g1, g2, g⟩, ⟨i1, i⟩, ⟨j1, j⟩, ⟨k1, k⟩, ⟨l1, l⟩, ⟨m1, m, m'⟩, ⟨n1, n2, n, n3, n'⟩⟩ := x
  exact ⟨⟨a1, a2, a3, S _ _ a⟩, ⟨b1, S _ _ b⟩, ⟨c1, S _ _ c⟩, ⟨d1, S _ _ d⟩, ⟨e1, e2, S _ _ e⟩, ⟨f1, f2, S _ _ f⟩, ⟨g1, g2, S _ _ g⟩, ⟨i1, S _ _ i⟩, ⟨j1, S _ _ j⟩, ⟨k1, S _ _ k⟩, ⟨l1, S _ _ l⟩, ⟨m1, S _ _ m, m'⟩, ⟨n1, n2, S _ _ n, n3, S _ _ n'⟩⟩
noncomputable def KP (P : Value → Heap → Prop) (h : Heap) (dr : Drawn) (os : OsState) (v : Value) (s' : Shared) : Prop := Ex2 fun h' tk' => s' = ⟨h', #[], dr, tk', os⟩ ∧ Sub h h' ∧ P v h'
theorem kp_end {P : Value → Heap → Prop} {h h' : Heap} {dr : Drawn} {os : OsState} {v : Value} {tk : Nat} {news : List (Addr × Obj)} (D : Mem h h' [] news) (p : P v h') : KP P h dr os v ⟨h', #[], dr, tk, os⟩ :=
  ⟨h', tk, rfl, fun b o e => D.keep b o e (by rw [Bool.or_eq_true]; exact .inr rfl), p⟩
noncomputable def KI (h : Heap) (cls : Addr) (th : Value) (a : Addr) : Prop := ∃ d, h.get? a = some ⟨.ref cls, some d, .plain, #[some th]⟩ ∧ h.get? d = some emptyDict
theorem mem_fresh {h₀ h : Heap} {chg news : List (Addr × Obj)} (D : Mem h₀ h chg news) (i : Nat) (a : Addr) (o : Obj) (hi : news[i]? = some (a, o)) : h₀.get? a = none := by
  cases q : h₀.get? a with
  | none => rfl
  | some ob => exact absurd rfl (D.ne_old i a o hi a ob q)
noncomputable def isIni (l : List Stmt) : Bool := (l1 l).any fun s => (uAssign s).any fun p => (l1 p.1).any fun t => (vAttribute t).any fun q => (q.2.1 == ("obj" : Str)) && (vName q.1).any fun y => (y.1 == ("self" : Str)) && (vName p.2.1).any fun z => z.1 == ("obj" : Str)
theorem isIni_ {l : List Stmt} (h : isIni l = true) : ∃ p1 p2 p3 p4, l = [.Assign [.Attribute (.Name "self" p1) "obj" p2] (.Name "obj" p3) p4] := by
  obtain ⟨s, e1, h⟩ := any_some h
  obtain ⟨p, e2, h⟩ := any_some h
  obtain ⟨t, e3, h⟩ := any_some h
  obtain ⟨q, e4, h⟩ := any_some h
  obtain ⟨e5, h⟩ := Bool.and_eq_true_iff.mp h
  obtain ⟨y, e6, h⟩ := any_some h
  obtain ⟨e7, h⟩ := Bool.and_eq_true_iff.mp h
  obtain ⟨z, e8, h⟩ := any_some h
  exact ⟨y.2, q.2.2, z.2, p.2.2, by rw [l1_ e1, uAssign_ e2, l1_ e3, vAttribute_ e4, vName_ e6, vName_ e8, beq_iff_eq.mp e5, beq_iff_eq.mp e7, beq_iff_eq.mp h]⟩
structure KF (K : Frag) (cls ns mem ini : Addr) : Prop where
  mks : makesIn K cls = true
  iniF : findIn K (.ref cls) "__init__" = some (some (.ref ini))
  inT : typeIn K (.ref ini) = some (.type "function")
  stA : findIn K (.ref cls) "__setattr__" = some (some (.builtin "object.__setattr__"))
  plO : plainOver K cls = true
  tak : takerIn K cls "obj" = some (some (.ref mem))
  mmT : typeIn K (.ref mem) = some (.type "member_descriptor")
  slo : slotIn K mem cls = some 0
  plG : plainGet K cls "obj" = true
  isC : isClsIn K cls = true
  get : specialIn K (.ref mem) "__get__" = some (some (.builtin "member_descriptor.__get__"))
  tkS : takesIn K (.ref mem) = some true
  tak' : findIn K (.ref cls) "obj" = some (some (.ref mem))
theorem kf_of {K : Frag} {w : World} {cls ns mem ini lt gt eq ci : Addr} {cont : Value} {t1 t2 t3 tm : Tok} {q : NsT} (e1 : K.lookup cls = some (xCls cls ns cont t1 t2)) (e2 : K.lookup ns = some (xNs w q ini lt gt eq mem)) (e3 : K.lookup mem = some (xMem cls t3)) (e4 : K.lookup ini = some (xMet w 2 qIni ci [] .none tm)) : KF K cls ns mem ini := by
  have z : (Value.ref cls == Value.ref cls) = true := beq_self_eq_true _
  have A : ∀ x r, alongIn K x [.ref cls, .type "object"] = r → findIn K (.ref cls) x = r := fun x r e => by
    unfold findIn; dsimp only; rw [e1]; exact e
  have O : ∀ x, ownIn K x (.ref cls) = nsIn K ns x := fun x => by unfold ownIn; dsimp only; rw [e1]; rfl
  have N : ∀ x r, (match (xNs w q ini lt gt eq mem).data with
      | .dict es _ => (match es.toList.find? (·.key.isStr x) with
        | some e => some (some e.val)
        | none => if es.toList.any (·.refKey) then none else some none)
      | _ => none) = r → nsIn K ns x = r := fun x r e => by unfold nsIn; rw [e2]; exact e
  have T : ∀ a o, K.lookup a = some o → typeIn K (.ref a) = some o.cls := fun a o e => by unfold typeIn; dsimp only; rw [e]; rfl
  have FO : findIn K (.ref cls) "obj" = some (some (.ref mem)) := A _ _ (by unfold alongIn; rw [O, N _ _ rfl]; rfl)
  have C : PySem.W.clsIn K cls = (match (xCls cls ns cont t1 t2).data with | .cls cd => some cd | _ => none) := by unfold PySem.W.clsIn; rw [e1]; rfl
  refine ⟨?_, A _ _ (by unfold alongIn; rw [O, N _ _ rfl]; rfl), T _ _ e4, A _ _ (by unfold alongIn; rw [O, N _ _ rfl]; rfl), ?_, ?_, T _ _ e3, ?_, ?_, ?_, ?_, ?_, FO⟩
  · unfold makesIn; rw [e1]; unfold specialIn instIn; rw [T _ _ e1]; unfold xCls; dsimp only; simp only [List.contains_cons, z]; rfl
  · unfold plainOver; rw [C]; rfl
  · unfold takerIn; rw [FO]; unfold takesIn specialIn; dsimp only [Option.bind]; rw [T _ _ e3]; rfl
  · unfold slotIn recIn; rw [e3, C]; show (if ((true && true && true && List.contains [Value.ref cls, .type "object"] (.ref cls)) && true) = true then some (0 : Nat) else none) = some 0; rw [List.contains_cons, z]; rfl
  · unfold plainGet; rw [A "__getattribute__" _ (by unfold alongIn; rw [O, N _ _ rfl]), A "__getattr__" _ (by unfold alongIn; rw [O, N _ _ rfl])]; rfl
  · unfold isClsIn; rw [C]; rfl
  · unfold specialIn; rw [T _ _ e3]; rfl
  · unfold takesIn specialIn; rw [T _ _ e3]; rfl
theorem lk4 {a b c d : Addr} {x y z u : Obj} (ab : a ≠ b) (ac : a ≠ c) (ad : a ≠ d) (bc : b ≠ c) (bd : b ≠ d) (cd : c ≠ d) :
    List.lookup a [(a, x), (b, y), (c, z), (d, u)] = some x ∧ List.lookup b [(a, x), (b, y), (c, z), (d, u)] = some y ∧ List.lookup c [(a, x), (b, y), (c, z), (d, u)] = some z ∧ List.lookup d [(a, x), (b, y), (c, z), (d, u)] = some u := by
  refine ⟨?_, ?_, ?_, ?_⟩ <;> simp [List.lookup, beq_eq_false_iff_ne.mpr, *, ab.symm, ac.symm, ad.symm, bc.symm, bd.symm, cd.symm]
theorem in4 {h : Heap} {a b c d : Addr} {x y z u : Obj} (h1 : h.get? a = some x) (h2 : h.get? b = some y) (h3 : h.get? c = some z) (h4 : h.get? d = some u) : Frag.In [(a, x), (b, y), (c, z), (d, u)] h := by
  have : ∀ l : Frag, (∀ p ∈ l, h.get? p.1 = some p.2) → Frag.In l h := fun l => by
    induction l with
    | nil => exact fun k a o e => by cases e
    | cons p r ih =>
      intro k a o e
      simp only [List.lookup] at e
      split at e
      · rename_i q; rw [beq_iff_eq.mp q]; cases e; exact k p (.head _)
      · exact ih (fun p m => k p (.tail _ m)) a o e
  exact this _ fun p m => by
    simp only [List.mem_cons, List.not_mem_nil, or_false] at m
    rcases m with rfl | rfl | rfl | rfl <;> assumption
theorem kw_frag {w : World} {h : Heap} {k : KA} (W : KW w h k) : ∃ K : Frag, K.In h ∧ KF K k.cls k.ns k.mem k.ini := by
  obtain ⟨cont, t1, t2, h1⟩ := W.cls
  obtain ⟨q, h2⟩ := W.ns
  obtain ⟨t3, h3⟩ := W.mem
  obtain ⟨tm, h4⟩ := W.ini
  have ne : ∀ {a b : Addr} {x y : Obj}, h.get? a = some x → h.get? b = some y → x.cls ≠ y.cls → a ≠ b := fun {a b x y} e e' k z => by
    rw [z, e'] at e; exact k (congrArg Obj.cls (Option.some.inj e)).symm
  have ty : ∀ {a b : String}, decide (a = b) = false → Value.type a ≠ Value.type b := fun k z => of_decide_eq_false k (Value.type.inj z)
  obtain ⟨l1, l2, l3, l4⟩ := lk4 (x := xCls k.cls k.ns cont t1 t2) (y := xNs w q k.ini k.lt k.gt k.eq k.mem) (z := xMem k.cls t3) (u := xMet w 2 qIni k.ci [] .none tm) (ne h1 h2 (ty (by decide))) (ne h1 h3 (ty (by decide))) (ne h1 h4 (ty (by decide))) (ne h2 h3 (ty (by decide))) (ne h2 h4 (ty (by decide))) (ne h3 h4 (ty (by decide)))
  exact ⟨_, in4 h1 h2 h3 h4, kf_of l1 l2 l3 l4⟩
theorem runK {prog : Program} {w : World} {h : Heap} {dr : Drawn} {t0 : Nat} {os : OsState} {A : Around} (hA : A.depth ≤ 600) (hN : h.NoLimit) {k : KA} (W : KW w h k) (th : Addr) :
   wpAny (model prog w) A (call (.ref k.cls) [.ref th]) (KP (fun v h' => Ex2 fun a d => v = .ref a ∧ h'.get? a = some ⟨.ref k.cls, some d, .plain, #[some (.ref th)]⟩ ∧ h'.get? d = some emptyDict ∧ h.get? a = none ∧ h.get? d = none) h dr os) (fun U U => False) ⟨h, #[], dr, t0, os⟩ := by
  obtain ⟨K, KI, F⟩ := kw_frag W
  obtain ⟨tm, h4⟩ := W.ini
  obtain ⟨c, h5⟩ := W.ci
  have S1 : ∀ b o, h.get? b = some o → ((h.push emptyDict).push (instObj k.cls h.objs.size)).get? b = some o := fun b o e => Heap.get?_push_of_some _ (Heap.get?_push_of_some _ e)
  refine wpAny_call (make_core (makes_of KI F.mks) (looks_findIn KI F.iniF) (fun self => bind_fn KI self F.inT) (.inl rfl) ?_)
  have hx : ((h.push emptyDict).push (instObj k.cls h.objs.size)).get? (h.objs.size + 1) = some (instObj k.cls h.objs.size) := by heap_get
  have hd : ((h.push emptyDict).push (instObj k.cls h.objs.size)).get? h.objs.size = some emptyDict := by heap_get
  have hf : ∀ n, h.objs.size ≤ n → h.get? n = none := fun n z => by
    cases q : h.get? n with
    | none => rfl
    | some o => exact absurd (Heap.lt_size q) (Nat.not_lt.mpr z)
  have hz : h.objs.size ≤ ((h.push emptyDict).push (instObj k.cls h.objs.size)).objs.size := Nat.le_of_lt (Heap.lt_size hd)
  have fa : h.get? (h.objs.size + 1) = none := hf _ (Nat.le_succ _)
  have fd := hf _ (Nat.le_refl _)
  have da : h.objs.size ≠ h.objs.size + 1 := (Nat.succ_ne_self _).symm
  generalize (h.push emptyDict).push (instObj k.cls h.objs.size) = h2 at *
  generalize h.objs.size + 1 = a at *
  have NL : h2.NoLimit := hN.keeps S1
  obtain ⟨p1, p2, p3, p4, hb⟩ := isIni_ (l := (metK w 2).body) (by kernel_rfl)
  refine codeAny_call_function (fd := _) (body := (metK w 2).body) (Nat.lt_of_le_of_lt (Nat.succ_le_succ hA) (Nat.le_of_ble_eq_true rfl)) (S1 _ _ h4) rfl (by kernel_rfl) (by kernel_rfl) rfl ⟨_, _, _, _, rfl, S1 _ _ h5, rfl, rfl⟩ ?_
  rw [hb]
  have tq : ∀ {t t' : Sem (List (Str × Value))} {A Q E s}, t = t' → wpAny (model prog w) A t' Q E s → wpAny (model prog w) A t Q E s := fun e z => e ▸ z
  refine tq (t' := pure [("self", .ref a), ("obj", .ref th)]) (by kernel_rfl) ?_
  have nn : (metK w 2).scope.names = [(("self" : Str), NameKind.local), (("obj" : Str), NameKind.local)] := by kernel_rfl
  refine wpAny_pure (wpAny_newFunctionEnv (fun x m => ?_) (fun x m => ?_) (fun h3 hns hsb => ⟨NL.fresh _ hsb, codeAny_func ?_⟩) (by kernel_rfl))
  · change x ∈ (metK w 2).scope.names at m
    rw [nn] at m; revert m; revert x; decide
  · change (metK w 2).scope.names.lookup x.1 = _
    rw [nn]
    simp only [List.mem_cons, List.not_mem_nil, or_false] at m
    rcases m with rfl | rfl <;> rfl
  have kp : ∀ b o, h2.get? b = some o → h3.get? b = some o := fun b o e => hsb.extBut b o (Nat.ne_of_lt (Heap.lt_size e)) (Heap.get?_push_of_some _ e)
  have Fr3 : Fr h h2.objs.size h3 (fun x => ([("self", .ref a), ("obj", .ref th)] : List (Str × Value)).reverse.lookup x) := ⟨hns, fun b o e => kp b o (S1 b o e), hz⟩
  have N3 : News h h2.objs.size h3 [(a, instObj k.cls h.objs.size), (h.objs.size, emptyDict)] := fun p m => by
    simp only [List.mem_cons, List.not_mem_nil, or_false] at m
    rcases m with rfl | rfl
    · exact ⟨kp _ _ hx, Nat.ne_of_lt (Heap.lt_size hx), fa⟩
    · exact ⟨kp _ _ hd, Nat.ne_of_lt (Heap.lt_size hd), fd⟩
  have I3 : PySem.W.InstAt h3 a (instObj k.cls h.objs.size) k.cls (some emptyDict) := ⟨kp _ _ hx, rfl, rfl, kp _ _ hd⟩
  refine wpAny_execs_cons (plainObj_wpAny_Assign_Attribute (wpAny_Name (wpAny_loadName_local (by kernel_rfl) (by kernel_rfl) hns (v := .ref th) rfl (wpAny_Name (wpAny_loadName_local (by kernel_rfl) (by kernel_rfl) hns (v := .ref a) rfl ?_)))))
  refine PySem.W.set_slot Fr3 KI N3 I3 F.stA F.plO F.tak F.mmT F.slo (Nat.le_of_ble_eq_true rfl) rfl rfl (.head fun p m => by rw [List.mem_singleton.mp m]; exact da) fun h4 Fr4 N4 => ?_
  exact wpAny_execs_nil ⟨rfl, h4, _, rfl, fun b o e => Fr4.keep b o e, a, _, rfl, (N4 _ (.head _)).1, (N4 _ (.tail _ (.head _))).1, fa, fd⟩
theorem runAtt {prog : Program} {w : World} {s : Shared} {k : KA} {th : Value} {a : Addr} {A : Around} {Q : Value → Shared → Prop} {E : Value → Shared → Prop} (W : KW w s.heap k) (hh : handedIn th = true) (I : KI s.heap k.cls th a) (q : Q th { s with toks := s.toks + 1 }) :
   wpAny (model prog w) A (getAttr (.ref a) "obj" true) Q E s := by
  obtain ⟨K, X, F⟩ := kw_frag W
  obtain ⟨d, i1, i2⟩ := I
  have I : PySem.W.InstAt s.heap a ⟨.ref k.cls, some d, .plain, #[some th]⟩ k.cls (some emptyDict) := ⟨i1, rfl, rfl, i2⟩
  exact get_bind X I (plainGet_of F.plG).1 (findObj_data F.isC F.tak' F.get F.tkS) (plainGet_of F.plG).2 (wpAny_call (slot_get (s := { s with toks := s.toks + 1 }) X I F.slo rfl (handed_on hh q)))
end
section

section
variable {T : Type} {lt : T → T → Bool}
theorem sorted_eq (g : Good lt) : ∀ {a b : List T}, a.Perm b → a.Pairwise (fun x y => lt x y = true) → b.Pairwise (fun x y => lt x y = true) → a = b
  | [], b, h, _, _ => (List.nil_perm.mp h).symm
  | x :: a, [], h, _, _ => absurd h.length_eq (by simp)
  | x :: a, y :: b, h, ha, hb => by
    have ha' := List.pairwise_cons.mp ha
    have hb' := List.pairwise_cons.mp hb
    have : x = y := by
      rcases List.mem_cons.mp (h.mem_iff.mp (.head _)) with h1 | h1
      · exact h1
      · rcases List.mem_cons.mp (h.mem_iff.mpr (.head _)) with h2 | h2
        · exact h2.symm
        · have := g.tr _ _ _ (ha'.1 y h2) (hb'.1 x h1)
          rw [g.irr] at this; cases this
    subst this
    rw [sorted_eq g h.cons_inv ha'.2 hb'.2]
theorem TopN.best (g : Good lt) {n : Nat} {P hs ys : List T} (t : TopN lt n P hs) (hp : ys.Perm hs) (hy : ys.Pairwise (fun x y => lt x y = true)) : Best lt n P ys := by
  obtain ⟨L, h1, h2, h3⟩ := t.ex
  refine ⟨L, h1, h2, ?_⟩
  rw [Int.toNat_natCast]
  exact sorted_eq g (hp.trans h3) hy (h2.sublist (List.take_sublist _ _))
theorem TopN.start {n : Nat} {P hs L : List T} (hL : L.Perm P) (hs' : L.Pairwise (fun x y => lt x y = true)) (hn : P.length ≤ n) (h : hs.Perm P) : TopN lt n P hs :=
  ⟨L, hL, hs', by rw [List.take_of_length_le (by rw [hL.length_eq]; exact hn)]; exact h.trans hL.symm⟩
noncomputable def isort (lt : T → T → Bool) : List T → List T
  | [] => []
  | a :: l => ins lt a (isort lt l)
theorem isort_perm : ∀ {l : List T}, (isort lt l).Perm l
  | [] => .refl _
  | _ :: _ => ins_perm.trans (isort_perm.cons _)
theorem isort_sorted (g : Good lt) : ∀ {l : List T}, l.Nodup → (∀ a ∈ l, ∀ b ∈ l, a ≠ b → lt a b = false → lt b a = true) → (isort lt l).Pairwise (fun x y => lt x y = true)
  | [], _, _ => .nil
  | a :: l, hn, h => by
    have hn' := List.nodup_cons.mp hn
    refine ins_sorted g (isort_sorted g hn'.2 fun x hx y hy => h x (.tail _ hx) y (.tail _ hy)) fun b hb => ?_
    have hb' := isort_perm.mem_iff.mp hb
    exact h a (.head _) b (.tail _ hb') fun z => hn'.1 (z ▸ hb')
theorem best_nil (g : Good lt) {n : Int} {P : List T} (hn : n ≤ 0) (hd : P.Nodup) (tot : ∀ a ∈ P, ∀ b ∈ P, a ≠ b → lt a b = false → lt b a = true) : Best lt n P [] :=
  ⟨isort lt P, isort_perm, isort_sorted g hd tot, by rw [show n.toNat = 0 from by omega]; simp⟩
theorem best_all {n : Int} {P ys : List T} (hn : (P.length : Int) ≤ n) (hp : ys.Perm P) (hy : ys.Pairwise (fun x y => lt x y = true)) : Best lt n P ys :=
  ⟨ys, hp, hy, by rw [List.take_of_length_le]; have := hp.length_eq; omega⟩
theorem best_one (g : Good lt) {P : List T} {x : T} (hd : P.Nodup) (tot : ∀ a ∈ P, ∀ b ∈ P, a ≠ b → lt a b = false → lt b a = true) (hx : x ∈ P) (hm : ∀ b ∈ P, b ≠ x → lt x b = true) : Best lt 1 P [x] := by
  refine ⟨isort lt P, isort_perm, isort_sorted g hd tot, ?_⟩
  have hs := isort_sorted g hd tot
  have hp := isort_perm (lt := lt) (l := P)
  cases h : isort lt P with
  | nil => rw [h] at hp; rw [List.nil_perm.mp hp] at hx; cases hx
  | cons a l =>
    rw [h] at hp hs
    have ha : a ∈ P := hp.mem_iff.mp (.head _)
    have : a = x := by
      by_cases q : a = x
      · exact q
      · rcases List.mem_cons.mp (hp.mem_iff.mpr hx) with h1 | h1
        · exact h1.symm
        · have := g.tr _ _ _ (hm a ha q) ((List.pairwise_cons.mp hs).1 x h1)
          rw [g.irr] at this; cases this
    simp [this]
end
end
section
open _root_.PySem _root_.PySem.W
set_option maxRecDepth 100000
theorem getD_eq {xs : List Value} {i : Nat} (h : i < xs.length) : xs.getD i .none = xs[i] := by simp [h]
theorem swap_perm {xs : List Value} {i j : Nat} {v : Value} (hi : i < xs.length) (hj : j < xs.length) (hij : i ≠ j) : ((xs.set i (xs.getD j .none)).set j v).Perm (xs.set i v) := by
  have h1 : i < (xs.set i v).length := by simpa using hi
  have h2 : j < (xs.set i v).length := by simpa using hj
  have := List.set_set_perm (as := xs.set i v) h1 h2
  have e1 : (xs.set i v)[i] = v := by simp
  have e2 : (xs.set i v)[j] = xs.getD j .none := by rw [getD_eq hj]; simp [List.getElem_set, hij]
  rw [e1, e2, List.set_set] at this
  exact this
theorem sdGo_perm {up : Value → Value → Bool} {new : Value} {start : Nat} : ∀ {f : Nat} {xs : List Value} {pos : Nat}, pos < xs.length →
    ((sdGo up new start f xs pos).1.set (sdGo up new start f xs pos).2 new).Perm (xs.set pos new)
  | 0, _, _, _ => .refl _
  | f + 1, xs, pos, hp => by
    unfold sdGo
    split
    · rename_i h
      split
      · exact (sdGo_perm (by rw [List.length_set]; omega)).trans (swap_perm hp (by omega) (by omega))
      · exact .refl _
    · exact .refl _
theorem set_getD {xs : List Value} {i : Nat} (h : i < xs.length) : xs.set i (xs.getD i .none) = xs := by rw [getD_eq h]; simp
theorem sd_perm {up : Value → Value → Bool} {xs : List Value} {a b : Nat} (hb : b < xs.length) : (sd up xs a b).Perm xs := by
  unfold sd
  have := sdGo_perm (up := up) (new := xs.getD b .none) (start := a) (f := b) hb
  rwa [set_getD hb] at this
theorem suGo_perm {pick : Value → Value → Bool} {v : Value} : ∀ {f : Nat} {xs : List Value} {pos : Nat}, pos < xs.length → ((suGo pick f xs pos).1.set (suGo pick f xs pos).2 v).Perm (xs.set pos v)
  | 0, _, _, _ => .refl _
  | f + 1, xs, pos, hp => by
    unfold suGo
    split
    · rename_i h
      have h1 := suPick_lt (pick := pick) (xs := xs) (c := 2 * pos + 1) h
      have h2 := suPick_le (pick := pick) (xs := xs) (c := 2 * pos + 1)
      exact (suGo_perm (by rw [List.length_set]; exact h1)).trans (swap_perm hp h1 (by omega))
    · exact .refl _
theorem su_perm {up pick : Value → Value → Bool} {xs : List Value} {a : Nat} (ha : a < xs.length) : (su up pick xs a).Perm xs := by
  unfold su
  refine (sd_perm ?_).trans ?_
  · rw [List.length_set, suGo_len]; exact suGo_pos ha
  · have := suGo_perm (pick := pick) (v := xs.getD a .none) (f := xs.length - a) ha
    rwa [set_getD ha] at this
theorem hfyGo_perm {up pick : Value → Value → Bool} : ∀ {k : Nat} {xs : List Value}, k ≤ xs.length → (hfyGo up pick k xs).Perm xs
  | 0, _, _ => .refl _
  | k + 1, xs, h => by
    unfold hfyGo
    exact (hfyGo_perm (by rw [su_len]; omega)).trans (su_perm (by omega))
theorem hfy_perm {up pick : Value → Value → Bool} {xs : List Value} : (hfy up pick xs).Perm xs := hfyGo_perm (by omega)
section
variable {key : Value → Int} {lt : Value → Value → Bool}
noncomputable def HeapMax (key : Value → Int) (xs : List Value) : Prop := ∀ i, 0 < i → i < xs.length → key (xs.getD i .none) ≤ key (xs.getD ((i - 1) / 2) .none)
noncomputable abbrev upM (lt : Value → Value → Bool) : Value → Value → Bool := fun n p => lt p n
noncomputable abbrev pkM (lt : Value → Value → Bool) : Value → Value → Bool := fun r c => !lt r c
noncomputable def Ch (q i : Nat) : Prop := i = 2 * q + 1 ∨ i = 2 * q + 1 + 1
theorem Ch.up {q i : Nat} (h : Ch q i) : q < i := by rcases h with rfl | rfl <;> omega
theorem Ch.inj {q q' i : Nat} (h : Ch q i) (h' : Ch q' i) : q = q' := by unfold Ch at h h'; omega
theorem Ch.of {i : Nat} (h : 0 < i) : Ch ((i - 1) / 2) i := by unfold Ch; omega
theorem Ch.eq {q i : Nat} (h : Ch q i) : (i - 1) / 2 = q := Ch.inj (Ch.of (Nat.zero_lt_of_lt h.up)) h
theorem HeapMax.root {xs : List Value} (h : HeapMax key xs) : ∀ i, i < xs.length → key (xs.getD i .none) ≤ key (xs.getD 0 .none) := by
  intro i
  induction i using Nat.strongRecOn with
  | ind i ih =>
    intro hi
    by_cases h0 : i = 0
    · subst h0; exact Int.le_refl _
    · have i0 := Nat.pos_of_ne_zero h0
      have e := (Ch.of i0).up
      exact Int.le_trans (h i i0 hi) (ih _ e (Nat.lt_trans e hi))
inductive Dn (p : Nat) : Nat → Prop
  | self : Dn p p
  | step {c q : Nat} : Ch q c → Dn p q → Dn p c
theorem Dn.le {p c : Nat} (D : Dn p c) : p ≤ c := by
  induction D with
  | self => exact Nat.le_refl _
  | step h _ ih => exact Nat.le_of_lt (Nat.lt_of_le_of_lt ih h.up)
structure Hole (key : Value → Int) (p a : Nat) (xs : List Value) : Prop where
  off : ∀ i q, i < xs.length → Ch q i → p ≤ q → i ≠ a → q ≠ a → key (xs.getD i .none) ≤ key (xs.getD q .none)
  kid : ∀ i q, i < xs.length → Ch a i → Ch q a → p ≤ q → key (xs.getD i .none) ≤ key (xs.getD q .none)
noncomputable def HF (key : Value → Int) (p : Nat) (xs : List Value) : Prop := ∀ i q, i < xs.length → Ch q i → p ≤ q → key (xs.getD i .none) ≤ key (xs.getD q .none)
theorem setSame {xs : List Value} {a : Nat} {v : Value} (h : a < xs.length) : (xs.set a v).getD a .none = v := by simp [h]
theorem setNe {xs : List Value} {a i : Nat} {v : Value} (h : i ≠ a) : (xs.set a v).getD i .none = xs.getD i .none := by
  simp [h.symm]
theorem fillH {p a : Nat} {xs : List Value} {v : Value} (ha : a < xs.length) (H : Hole key p a xs) (hk : ∀ i, i < xs.length → Ch a i → key (xs.getD i .none) ≤ key v)
    (hu : ∀ q, Ch q a → p ≤ q → key v ≤ key (xs.getD q .none)) : HF key p (xs.set a v) := fun i q hi e hp => by
  rw [List.length_set] at hi
  by_cases h1 : i = a
  · subst h1
    rw [setSame hi, setNe (Nat.ne_of_lt e.up)]
    exact hu q e hp
  · rw [setNe h1]
    by_cases h2 : q = a
    · subst h2; rw [setSame ha]; exact hk i hi e
    · rw [setNe h2]; exact H.off i q hi e hp h1 h2
theorem sdH (hlt : ∀ x y, lt x y = decide (key x < key y)) {p a : Nat} (D : Dn p a) : ∀ {f : Nat} {xs : List Value} {v : Value}, a ≤ f → a < xs.length → Hole key p a xs → (∀ i, i < xs.length → Ch a i → key (xs.getD i .none) ≤ key v) →
    HF key p ((sdGo (upM lt) v p f xs a).1.set (sdGo (upM lt) v p f xs a).2 v) := by
  induction D with
  | self =>
    intro f xs v hf ha H hk
    have e : sdGo (upM lt) v p f xs p = (xs, p) := by
      cases f with
      | zero => rfl
      | succ f => unfold sdGo; rw [if_neg (Nat.lt_irrefl _)]
    rw [e]
    exact fillH ha H hk fun q e hp => absurd hp (Nat.not_le.mpr e.up)
  | @step c q e D ih =>
    intro f xs v hf ha H hk
    have pq := D.le
    have cq := e.up
    cases f with
    | zero => exact absurd (Nat.lt_of_lt_of_le cq hf) (Nat.not_lt_zero _)
    | succ f =>
      unfold sdGo
      rw [if_pos (Nat.lt_of_le_of_lt pq cq), e.eq]
      split
      · rename_i hu
        have hv := Int.le_of_lt (of_decide_eq_true ((hlt _ _).symm.trans hu))
        have nq := Nat.ne_of_lt cq
        refine ih (Nat.le_of_lt_succ (Nat.lt_of_lt_of_le cq hf)) (by rw [List.length_set]; exact Nat.lt_trans cq ha) ⟨fun i q' hi e' hp h1 h2 => ?_, fun i q' hi e1 e2 hp' => ?_⟩ fun i hi e' => ?_ <;> rw [List.length_set] at hi
        · have h3 : i ≠ c := fun z => h2 (Ch.inj e' (z ▸ e))
          rw [setNe h3]
          by_cases h4 : q' = c
          · subst h4; rw [setSame ha]; exact H.kid i q hi e' e pq
          · rw [setNe h4]; exact H.off i q' hi e' hp h3 h4
        · have n2 := Nat.ne_of_lt (Nat.lt_trans e2.up cq)
          have h5 := H.off q q' (Nat.lt_trans cq ha) e2 hp' nq n2
          rw [setNe n2]
          by_cases h3 : i = c
          · subst h3; rw [setSame ha]; exact h5
          · rw [setNe h3]; exact Int.le_trans (H.off i q hi e1 pq h3 nq) h5
        · by_cases h3 : i = c
          · subst h3; rw [setSame ha]; exact hv
          · rw [setNe h3]; exact Int.le_trans (H.off i q hi e' pq h3 nq) hv
      · rename_i hu
        refine fillH ha H hk fun q' e' _ => ?_
        rw [Ch.inj e' e]
        exact Int.not_lt.mp fun z => hu ((hlt _ _).trans (decide_eq_true z))
theorem suH (hlt : ∀ x y, lt x y = decide (key x < key y)) {p : Nat} : ∀ {f : Nat} {xs : List Value} {a : Nat}, xs.length ≤ a + f → a < xs.length → Dn p a → Hole key p a xs →
    (suGo (pkM lt) f xs a).2 < xs.length ∧ Dn p (suGo (pkM lt) f xs a).2 ∧ Hole key p (suGo (pkM lt) f xs a).2 (suGo (pkM lt) f xs a).1 ∧ xs.length ≤ 2 * (suGo (pkM lt) f xs a).2 + 1
  | 0, _, _, hf, ha, _, _ => absurd ha (Nat.not_lt.mpr hf)
  | f + 1, xs, a, hf, ha, D, H => by
    unfold suGo
    split
    · rename_i hc
      have pa := D.le
      have h1 := suPick_lt (pick := pkM lt) (xs := xs) (c := 2 * a + 1) hc
      have hp : Ch a (suPick (pkM lt) xs (2 * a + 1)) ∧ ∀ i, i < xs.length → Ch a i → key (xs.getD i .none) ≤ key (xs.getD (suPick (pkM lt) xs (2 * a + 1)) .none) := by
        unfold suPick
        split
        · rename_i z
          refine ⟨.inr rfl, fun i hi e => ?_⟩
          rcases e with rfl | rfl
          · exact Int.not_lt.mp fun y => by
              have z := z.2
              simp only [pkM, hlt, decide_eq_true y] at z
              cases z
          · exact Int.le_refl _
        · rename_i z
          refine ⟨.inl rfl, fun i hi e => ?_⟩
          rcases e with rfl | rfl
          · exact Int.le_refl _
          · exact Int.not_lt.mp fun y => z ⟨hi, by simp only [pkM, hlt, decide_eq_false (Int.not_lt.mpr (Int.le_of_lt y))]; rfl⟩
      generalize suPick (pkM lt) xs (2 * a + 1) = c at *
      obtain ⟨ce, hp⟩ := hp
      have ac := ce.up
      have an := Nat.ne_of_lt ac
      have := suH hlt (p := p) (f := f) (xs := xs.set a (xs.getD c .none)) (a := c) (by rw [List.length_set]; exact Nat.le_trans hf (by omega)) (by rw [List.length_set]; exact h1) (.step ce D) ⟨fun i q hi e hpq h3 h4 => ?_, fun i q hi e1 e2 hpq => ?_⟩ <;> rw [List.length_set] at *
      · exact this
      · by_cases h5 : i = a
        · subst h5
          rw [setSame ha, setNe (Nat.ne_of_lt e.up)]
          exact H.kid c q h1 ce e hpq
        · rw [setNe h5]
          by_cases h6 : q = a
          · subst h6; rw [setSame ha]; exact hp i hi e
          · rw [setNe h6]; exact H.off i q hi e hpq h5 h6
      · cases Ch.inj e2 ce
        have ia := Nat.lt_trans ac e1.up
        rw [setSame ha, setNe (Nat.ne_of_gt ia)]
        exact H.off i c hi e1 (Nat.le_trans pa (Nat.le_of_lt ac)) (Nat.ne_of_gt ia) an.symm
    · rename_i hc
      exact ⟨ha, D, H, Nat.not_lt.mp hc⟩
theorem suF (hlt : ∀ x y, lt x y = decide (key x < key y)) {p : Nat} {xs : List Value} (hp : p < xs.length) (H : HF key (p + 1) xs) : HF key p (su (upM lt) (pkM lt) xs p) := by
  obtain ⟨h1, D, h2, h3⟩ := suH hlt (p := p) (f := xs.length - p) (xs := xs) (a := p) (Nat.le_of_eq (Nat.add_sub_cancel' (Nat.le_of_lt hp)).symm) hp .self ⟨fun i q hi e hpq _ h4 => H i q hi e (Nat.lt_of_le_of_ne hpq h4.symm), fun _ _ _ _ e z => absurd e.up (Nat.not_lt.mpr z)⟩
  have hl := suGo_len (pick := pkM lt) (f := xs.length - p) (xs := xs) (pos := p)
  unfold su sd
  generalize suGo (pkM lt) (xs.length - p) xs p = r at *
  have h1' : r.2 < r.1.length := by rw [hl]; exact h1
  have no : ∀ i, i < (r.1.set r.2 (xs.getD p .none)).length → Ch r.2 i → False := fun i hi e => by
    rw [List.length_set, hl] at hi
    rcases e with rfl | rfl <;> omega
  rw [setSame h1']
  exact sdH hlt D (f := r.2) (xs := r.1.set r.2 (xs.getD p .none)) (v := xs.getD p .none) (Nat.le_refl _) (by rw [List.length_set]; exact h1') ⟨fun i q hi e hpq h4 h5 => by rw [setNe h4, setNe h5]; rw [List.length_set] at hi; exact h2.off i q hi e hpq h4 h5, fun i q hi e _ _ => (no i hi e).elim⟩ (fun i hi e => (no i hi e).elim)
theorem hfyF (hlt : ∀ x y, lt x y = decide (key x < key y)) : ∀ {k : Nat} {xs : List Value}, k ≤ xs.length → HF key k xs → HF key 0 (hfyGo (upM lt) (pkM lt) k xs)
  | 0, _, _, H => H
  | k + 1, xs, h, H => by unfold hfyGo; exact hfyF hlt (by rw [su_len]; exact Nat.le_of_succ_le h) (suF hlt h H)
theorem HF.max {xs : List Value} (H : HF key 0 xs) : HeapMax key xs := fun i i0 hi => H i _ hi (.of i0) (Nat.zero_le _)
theorem hfyM (hlt : ∀ x y, lt x y = decide (key x < key y)) {xs : List Value} : HeapMax key (hfy (upM lt) (pkM lt) xs) :=
  (hfyF hlt (Nat.div_le_self _ _) fun i q hi e hp => by rcases e with rfl | rfl <;> omega).max
theorem replM (hlt : ∀ x y, lt x y = decide (key x < key y)) {xs : List Value} {v : Value} (h0 : 0 < xs.length) (hm : HeapMax key xs) : HeapMax key (su (upM lt) (pkM lt) (xs.set 0 v) 0) :=
  (suF hlt (by rw [List.length_set]; exact h0) fun i q hi e hp => by
    rw [List.length_set] at hi
    have i0 := Nat.lt_trans hp e.up
    rw [setNe (Nat.ne_of_gt i0), setNe (Nat.ne_of_gt hp), ← e.eq]
    exact hm i i0 hi).max
end
end
section
open _root_.PySem _root_.PySem.W _root_.PySem.Calls PyProof.Rows
set_option maxRecDepth 100000
noncomputable def ir_lam : PS := .ret (.bin .Mult (.bin .Sub (.bin .FloorDiv (.sub (.v 0) (.int 0)) (.int 2)) (.bin .FloorDiv (.sub (.v 1) (.int 0)) (.int 2))) (.int 3))
noncomputable def ir_met (op : CmpOp) : PS := .seq (.ret (.cmp op (.call (.v 2) (.cons (.att (.v 0)) (.cons (.att (.v 1)) .nil))) (.int 0))) .skip
structure KC (c : Cx) (g : Heap) (k : KA) : Prop where
  gen : c.s.gens = #[]
  kw : KW c.w g k
theorem KC.sub {c : Cx} {g g' : Heap} {k : KA} (x : KC c g k) (S : Sub g g') : KC c g' k := ⟨x.gen, x.kw.sub S⟩
theorem code_x {h : Heap} {a : Addr} {q : Str} {c : CdT} (e : h.get? a = some (xCode q c)) : h.CodeRec (.ref a) q := ⟨a, _, _, c.t, rfl, e, rfl, rfl⟩
theorem ck_lam (w : World) : chkB ⟨(lamK w).s.names, [], true⟩ 40 ir_lam (.expr (lamK w).e) = true := by kernel_rfl
theorem c_lam {c : Cx} (hd : c.d ≤ 900) {g : Heap} {k : KA} {va vb : Value} {p q : Int × Int} {sz : Option Nat} (K : KW c.w g k) (hp : ThG g va p) (hq : ThG g vb q) :
    Fn c (.ref k.lam) [va, vb] g [] sz fun v g' m' z' => ∃ t, v = .int ((half p - half q) * 3) t ∧ m' = [] := by
  obtain ⟨ql, pm, e1, cc, e2⟩ := K.lam
  refine fn_run (fd := _) (K := ⟨(lamK c.w).s.names, [], true⟩) (ps := ir_lam) (n := 40) (fvs := [none, none]) (is := [0, 1]) (binds := [("a", va), ("b", vb)])
    (fun G => ⟨⟨_, e1, rfl⟩, by kernel_rfl, by kernel_rfl, by kernel_rfl, rfl, rfl, code_x e2⟩) (tabOk_nil _) rfl (by have : recursionLimit = 1000 := rfl; omega) rfl (of_decide_eq_true (by kernel_rfl)) (.inl ⟨by kernel_rfl, rfl⟩)
    (fun i x e => absurd rfl (noK_ (k := .free) (names := (lamK c.w).s.names) (by kernel_rfl) _ (List.mem_of_getElem? e))) (fun i x k e _ => ?_) (by kernel_rfl) (fun _ _ _ => BindsTo.of_eq (by kernel_rfl)) (by kernel_rfl) (ck_lam _) fun f => ?_
  · have hl : (lamK c.w).s.names.length = 2 := by kernel_rfl
    have := (List.getElem?_eq_some_iff.mp e).1
    rw [hl] at this
    match i, this with
    | 0, _ => rfl
    | 1, _ => rfl
  unfold ir_lam
  show wpS _ _ _ ⟨g, [some va, some vb], [], _⟩ _
  repeat walk_at "w"
  refine L_th0 hp fun _ => ?_
  repeat walk_at "w"
  refine L_th0 hq fun _ => ?_
  repeat walk_at "w"
  refine W_mulI (IntMulOk.of_right (by decide)) fun _ => ?_
  repeat walk_at "w"
  exact RetOk.now rfl fun g' S => ⟨_, rfl, rfl⟩

theorem wpAny_lift {α : Type} {M : Model} {A A' : Around} {t : Sem α} {Q : α → Shared → Prop} {E : Value → Shared → Prop} {s : Shared} (x : wpAny M A t Q E s) (k : ∀ Γ : Ctx, Γ.In A' → Γ.In A) : wpAny M A' t Q E s := fun Γ p h => x Γ p (k Γ h)
theorem aa_in {d u : Nat} {A : Around} (r : Rm d u A) : ∀ Γ : Ctx, Γ.In A → Γ.In (AA d u) := fun Γ h =>
  ⟨h.1.trans r.none, Nat.le_trans h.2.1 r.dep, (fun _ q => by cases q), (fun _ q => by cases q), Nat.le_trans h.2.2.2.2 r.uni⟩
theorem lookup_filter {l : Frag} {p : Addr → Bool} {a : Addr} {o : Obj} (h : (l.filter fun q => p q.1).lookup a = some o) : l.lookup a = some o ∧ p a = true := by
  induction l with
  | nil => cases h
  | cons x r ih =>
    obtain ⟨b, ob⟩ := x
    by_cases hb : p b = true
    · rw [List.filter_cons_of_pos (by simpa using hb)] at h
      simp only [List.lookup] at h ⊢
      split at h
      · rename_i e; rw [beq_iff_eq.mp e]; exact ⟨h, hb⟩
      · exact ih h
    · rw [List.filter_cons_of_neg (by simpa using hb)] at h
      obtain ⟨h1, h2⟩ := ih h
      simp only [List.lookup]
      split
      · rename_i e; rw [beq_iff_eq.mp e] at h2; exact absurd h2 hb
      · exact ⟨h1, h2⟩
theorem fr_in {w : World} {g h : Heap} (G : Gr w g) (S : Sub g h) : Frag.In (frX w.params) h := fun a o e => by
  have q := lookup_filter (p := fun a => !(Nat.beq a 117 || Nat.beq a 84)) e
  refine S _ _ (G a o q.1 ?_)
  have z := q.2
  rw [Bool.not_eq_true', Bool.or_eq_false_iff] at z
  rw [Bool.or_eq_false_iff]
  exact ⟨beq_false_of_ne (Nat.ne_of_beq_eq_false z.2), beq_false_of_ne (Nat.ne_of_beq_eq_false z.1)⟩
theorem kns {w : World} {h : Heap} {k : KA} (K : KW w h k) : ∃ mN : Str → Option Value, h.Ns k.ns mN ∧ mN ("__lt__" : Str) = some (.ref k.lt) ∧ mN ("__gt__" : Str) = some (.ref k.gt) ∧ mN ("__eq__" : Str) = some (.ref k.eq) ∧ mN ("__getattribute__" : Str) = none := by
  obtain ⟨q, e⟩ := K.ns
  refine ⟨_, ⟨_, _, _, e, rfl, strKeys_of (by rfl), fun x => rfl⟩, by kernel_rfl, by kernel_rfl, by kernel_rfl, by kernel_rfl⟩
theorem KI.sub {g g' : Heap} {cls a : Addr} {th : Value} (x : KI g cls th a) (S : Sub g g') : KI g' cls th a := x.imp fun _ e => ⟨S _ _ e.1, S _ _ e.2⟩
theorem own_x {w : World} {h : Heap} {k : KA} {x fa : Addr} {th : Value} {name : Str} {of : Obj} (K : KW w h k) (I : KI h k.cls th x) (hn : ∀ mN : Str → Option Value, mN ("__lt__" : Str) = some (.ref k.lt) → mN ("__gt__" : Str) = some (.ref k.gt) → mN ("__eq__" : Str) = some (.ref k.eq) → mN name = some (.ref fa))
    (hf : h.get? fa = some of) (hc : of.cls = .type "function") {y : Option Value} (hy : typeLookup (.type "object") name = pure y) : h.OwnSpecial x k.cls fa "object" name := by
  obtain ⟨mN, a, b, c, d, _⟩ := kns K
  obtain ⟨d1, i, _⟩ := I
  obtain ⟨cont, t1, t2, e⟩ := K.cls
  exact ⟨_, _, _, _, _, _, _, _, _, _, _, _, _, _, _, _, _, _, _, mN, y, i, rfl, e, a, hn mN b c d, hf, hc, by rfl, hy⟩
section
variable {c : Cx} {f : Fm} {σ : St}
theorem L_att {k : KA} {a t : Addr} {Q : Value → St → Prop} (K : KC c σ.g k) (I : KI σ.g k.cls (.ref t) a) (q : Q (.ref t) σ) : W c f (getAttr (.ref a) ("obj" : Str) true) σ Q := fun _ _ h tk _ at0 =>
  runAtt (s := mk c.s h tk) (K.kw.sub at0.hp.sub) rfl (I.sub at0.hp.sub) ⟨σ, h, tk + 1, rfl, at0, .refl, q⟩
end
noncomputable abbrev nmM : List (Str × NameKind) := [("self", .local), ("other", .local), ("mycmp", .free)]
noncomputable abbrev bdM (a b : Value) : List (Str × Value) := [("self", a), ("other", b)]
structure MetOk (w : World) (j : Nat) (op : CmpOp) : Prop where
  nm : (metK w j).scope.names = nmM
  knd : (metK w j).scope.kind = .function
  gen : (metK w j).scope.isGenerator = false
  co : (metK w j).scope.isCoroutine = false
  ck : chkB ⟨nmM, [], true⟩ 40 (ir_met op) (.stmts (metK w j).body) = true
  ba : ∀ q va vb c clo ct tm, bindArgs { name := (metK w j).name, qualname := q, params := (metK w j).params, body := .stmts (metK w j).body, «scope» := (metK w j).scope, «globals» := 3, closure := clo, defaults := .none, kwdefaults := .none, pyModule := .str ⟨⟨[108,97,119,95,109,103,48,48,52,57,95,48,49]⟩⟩ tm, code := .ref c, closureTuple := ct } ⟨[va, vb], []⟩ = pure (bdM va vb)
theorem mok_lt (w : World) : MetOk w 3 .Lt := ⟨by kernel_rfl, by kernel_rfl, by kernel_rfl, by kernel_rfl, by kernel_rfl, fun _ _ _ _ _ _ _ => by kernel_rfl⟩
theorem mok_gt (w : World) : MetOk w 4 .Gt := ⟨by kernel_rfl, by kernel_rfl, by kernel_rfl, by kernel_rfl, by kernel_rfl, fun _ _ _ _ _ _ _ => by kernel_rfl⟩
theorem mok_eq (w : World) : MetOk w 5 .Eq := ⟨by kernel_rfl, by kernel_rfl, by kernel_rfl, by kernel_rfl, by kernel_rfl, fun _ _ _ _ _ _ _ => by kernel_rfl⟩
noncomputable def IsK (g : Heap) (k : KA) (v : Value) (p : Int × Int) : Prop := Ex2 fun a t => v = .ref a ∧ KI g k.cls (.ref t) a ∧ ThG g (.ref t) p
theorem IsK.sub {g g' : Heap} {k : KA} {v : Value} {p : Int × Int} (x : IsK g k v p) (S : Sub g g') : IsK g' k v p := let ⟨a, t, e, i, h⟩ := x; ⟨a, t, e, i.sub S, h.sub S⟩
theorem cel1 (a : Addr) : ((frNs 0 [(sMycmp, a)] nmM).filterMap (·.2)).Nodup := by
  have : (frNs 0 [(sMycmp, a)] nmM).filterMap (·.2) = [a] := by kernel_rfl
  rw [this]; simp
theorem c_met {c : Cx} (hd : c.d ≤ 590) (hu : c.u ≤ 1400) {j : Nat} {op : CmpOp} (M : MetOk c.w j op) {z : Int → Bool} (hz : ∀ {c f σ Q i t u}, Q (.bool (z i)) σ → W c f (compareOp op (.int i t) (.int 0 u)) σ Q)
    {g : Heap} {k : KA} {fa ca : Addr} {qn : Str} {va vb : Value} {p q : Int × Int} {sz : Option Nat} (K : KC c g k) (e1 : Ex2 fun ct tm => g.get? fa = some (xMet c.w j qn ca [(sMycmp, k.cel)] ct tm)) (e2 : ∃ cc, g.get? ca = some (xCode qn cc)) (hp : IsK g k va p) (hq : IsK g k vb q) :
    Fn c (.ref fa) [va, vb] g [] sz fun v g' m' z' => v = .bool (z ((half p - half q) * 3)) ∧ m' = [] := by
  obtain ⟨ct, tm, e1⟩ := e1
  obtain ⟨cc, e2⟩ := e2
  obtain ⟨a, ta, rfl, ia, hp⟩ := hp
  obtain ⟨b, tb, rfl, ib, hq⟩ := hq
  refine fn_run (fd := _) (K := ⟨nmM, [], true⟩) (ps := ir_met op) (n := 40) (fvs := [none, none, some (.ref k.lam)]) (is := [0, 1]) (binds := bdM (.ref a) (.ref b))
    (fun G => ⟨⟨_, e1, rfl⟩, M.knd, M.gen, M.co, rfl, rfl, code_x e2⟩) (tabOk_nil _) rfl (by have : recursionLimit = 1000 := rfl; omega) M.nm (by decide) (.inr ⟨by decide, cel1 _⟩) (fun i x e => ?_) (fun i x kd e hk => ?_) rfl (fun _ _ _ => BindsTo.of_eq (M.ba ..)) (by kernel_rfl) M.ck fun f => ?_
  · match i, e with
    | 2, e => cases e; exact ⟨k.cel, some (.ref k.lam), by kernel_rfl, K.kw.cel, rfl⟩
  · match i, e with
    | 0, _ => rfl
    | 1, _ => rfl
    | 2, e => cases e; exact absurd rfl hk
  unfold ir_met
  show wpS _ _ _ ⟨g, [some (.ref a), some (.ref b), some (.ref k.lam)], [], _⟩ _
  repeat walk_at "w"
  obtain ⟨ql, pm, e3, _⟩ := K.kw.lam
  refine ⟨fun _ => Plain.fn e3 rfl, ?_⟩
  repeat walk_at "w"
  refine L_att (k := k) ⟨K.gen, K.kw⟩ ia ?_
  repeat walk_at "w"
  refine L_att (k := k) ⟨K.gen, K.kw⟩ ib ?_
  repeat walk_at "w"
  refine W_fn [] [] _ (.refl _) (c_lam (by show c.d + 1 ≤ _; omega) K.kw hp hq) fun v g' m' z' S _ ⟨t, e, em⟩ => ?_
  subst e em
  repeat walk_at "w"
  refine hz ?_
  repeat walk_at "w"
  exact RetOk.now rfl fun g' S => ⟨rfl, rfl⟩
theorem mv_sub {g g' h h' : Heap} {m' : Ledger} (M : Mv [] [] g [] h g' m' h') : Sub h h' := fun b o e => (M.exs b o e (fun q => nomatch q) (fun q => nomatch q)).resolve_right fun q => nomatch q.1
noncomputable def Ans (c : Cx) (d u : Nat) (g : Heap) {α : Type} (t : Sem α) (b : α) : Prop :=
  ∀ (A : Around) (Q : α → Shared → Prop) (E : Value → Shared → Prop) (h : Heap) (tk : Nat), Rm d u A → Sub g h → (∀ h' tk', Sub h h' → Q b (mk c.s h' tk')) → wpAny (model c.prog c.w) A t Q E (mk c.s h tk)
theorem Ans.pure {c : Cx} {d u : Nat} {g : Heap} {α : Type} {b : α} : Ans c d u g (pure b) b := fun _ _ _ h tk _ _ k => wpAny_pure (k h tk fun _ _ e => e)
theorem Ans.hold {c : Cx} {d u : Nat} {g : Heap} {α : Type} {vs : List Value} {t : Sem α} {b : α} (x : Ans c d u g t b) : Ans c d u g (holding vs t) b := fun A Q E h tk r S k => wpAny_holding (x A Q E h tk r S k)
theorem Ans.look {c : Cx} {d u : Nat} {g : Heap} {α : Type} {t : Sem α} {b : α} (x : ∀ (A : Around) (Q : α → Shared → Prop) (E : Value → Shared → Prop) (h : Heap) (tk : Nat), Rm d u A → Sub g h → Q b (mk c.s h tk) → wpAny (model c.prog c.w) A t Q E (mk c.s h tk)) : Ans c d u g t b :=
  fun A Q E h tk r S k => x A Q E h tk r S (k h tk fun _ _ e => e)
theorem Ans.sub {c : Cx} {d u : Nat} {g g' : Heap} {α : Type} {t : Sem α} {b : α} (x : Ans c d u g t b) (S : Sub g g') : Ans c d u g' t b := fun A Q E h tk r S' k => x A Q E h tk r (S.trans S') k
theorem Ans.mono {c : Cx} {d u d' u' : Nat} {g : Heap} {α : Type} {t : Sem α} {b : α} (x : Ans c d u g t b) (h1 : d' ≤ d) (h2 : u' ≤ u) : Ans c d' u' g t b := fun A Q E h tk r S k => x A Q E h tk (r.mono h1 h2) S k
section
variable {c : Cx} {g : Heap} {k : KA} {va vb : Value} {p q : Int × Int} {j : Nat} {op : CmpOp} {z : Int → Bool} {fa ca : Addr} {qn : Str}
theorem key_call (M : MetOk c.w j op) (hz : ∀ {c f σ Q i t u}, Q (.bool (z i)) σ → W c f (compareOp op (.int i t) (.int 0 u)) σ Q) (G : Gr c.w g) (K : KC c g k) (e1 : Ex2 fun ct tm => g.get? fa = some (xMet c.w j qn ca [(sMycmp, k.cel)] ct tm)) (e2 : ∃ cc, g.get? ca = some (xCode qn cc))
    (hp : IsK g k va p) (hq : IsK g k vb q) : Ans c 590 1400 g (call (.ref fa) [va, vb]) (.bool (z ((half p - half q) * 3))) := by
  intro A Q E h tk rm S kk
  refine wpAny_call (c_met (c := { c with d := 590, u := 1400, fs := [], kf := false }) (Nat.le_refl _) (Nat.le_refl _) M hz (sz := none) ⟨K.gen, K.kw⟩ e1 e2 hp hq A _ h tk ⟨rm.none, rm.dep, rm.uni, fun q => nomatch q⟩ ?_ fun v g' m' z' h' tk' _ MV _ e => ?_)
  · exact ⟨G, S, (fun _ q => nomatch q), (fun _ q => nomatch q), (fun _ q => nomatch q), (fun _ q => nomatch q), .nil, (fun _ q => nomatch q), (fun _ q => nomatch q), (fun _ q => nomatch q), fun _ q => nomatch q⟩
  · rw [e.1]
    exact kk h' tk' (mv_sub MV)
theorem key_op {sym : String} {f r : Str} (hop : cmpInfo op = (sym, f, r)) (hplain : op ≠ .Is ∧ op ≠ .IsNot ∧ op ≠ .In ∧ op ≠ .NotIn) (M : MetOk c.w j op) (hz : ∀ {c f σ Q i t u}, Q (.bool (z i)) σ → W c f (compareOp op (.int i t) (.int 0 u)) σ Q)
    (G : Gr c.w g) (K : KC c g k) (e1 : Ex2 fun ct tm => g.get? fa = some (xMet c.w j qn ca [(sMycmp, k.cel)] ct tm)) (e2 : ∃ cc, g.get? ca = some (xCode qn cc))
    (hn : ∀ mN : Str → Option Value, mN ("__lt__" : Str) = some (.ref k.lt) → mN ("__gt__" : Str) = some (.ref k.gt) → mN ("__eq__" : Str) = some (.ref k.eq) → mN f = some (.ref fa)) {y : Option Value} (hy : typeLookup (.type "object") f = pure y)
    (hp : IsK g k va p) (hq : IsK g k vb q) : OpIs op c.prog c.w c.s 590 1400 g va vb (z ((half p - half q) * 3)) := by
  intro A Q E h tk rm S kk
  have F := key_call M hz G K e1 e2 hp hq
  obtain ⟨ct, tm, e1⟩ := e1
  obtain ⟨a, ta, rfl, ia, hp⟩ := hp
  obtain ⟨b, tb, rfl, ib, hq⟩ := hq
  obtain ⟨d2, ib'⟩ := ib.sub S
  exact compareOp_own_same hop hplain (own_x (K.kw.sub S) (ia.sub S) hn (S _ _ e1) rfl hy) ib'.1 rfl (Nat.lt_of_le_of_lt rm.uni (by decide)) (F A _ E h tk rm S fun h' tk' S' => ⟨_, rfl, kk h' tk' S'⟩)
end
theorem mul3 {a b : Int} : ((a - b) * 3 < 0 ↔ a < b) ∧ ((a - b) * 3 > 0 ↔ b < a) ∧ ((a - b) * 3 = 0 ↔ a = b) := by omega
section
variable {c : Cx} {g : Heap} {k : KA} {va vb : Value} {p q : Int × Int} (G : Gr c.w g) (K : KC c g k) (hp : IsK g k va p) (hq : IsK g k vb q)
include G K hp hq
theorem key_lt : OpIs .Lt c.prog c.w c.s 590 1400 g va vb (decide (half p < half q)) := by
  have := key_op (op := .Lt) rfl (by decide) (mok_lt c.w) (z := fun i => decide (i < 0)) (fun q => W_ltI q) G K K.kw.lt K.kw.cl (fun _ a b c => a) (by rfl) hp hq
  simpa only [mul3.1] using this
theorem key_gt : OpIs .Gt c.prog c.w c.s 590 1400 g va vb (decide (half q < half p)) := by
  have := key_op (op := .Gt) rfl (by decide) (mok_gt c.w) (z := fun i => decide (i > 0)) (fun q => W_gtI q) G K K.kw.gt K.kw.cg (fun _ a b c => b) (by rfl) hp hq
  simpa only [mul3.2.1] using this
theorem key_eq : OpIs .Eq c.prog c.w c.s 590 1400 g va vb (half p == half q) := by
  have := key_op (op := .Eq) rfl (by decide) (mok_eq c.w) (z := fun i => i == 0) (fun q => W_eqI q) G K K.kw.eq K.kw.ce (fun _ a b c => c) (by rfl) hp hq
  have e : (((half p - half q) * 3) == 0) = (half p == half q) := Bool.eq_iff_iff.mpr (by rw [beq_iff_eq, beq_iff_eq]; exact mul3.2.2)
  simpa only [e] using this
end
theorem L_callK {c : Cx} {f : Fm} {σ : St} {k : KA} {t : Addr} {Q : Value → St → Prop} (hd : c.d ≤ 600) (K : KC c σ.g k) (q : ∀ a g', Sub σ.g g' → KI g' k.cls (.ref t) a → Q (.ref a) { σ with g := g', sz := none }) :
    W c f (call (.ref k.cls) [.ref t]) σ Q := by
  intro A E h tk r at0
  have e0 : ∀ h tk, mk c.s h tk = ⟨h, #[], c.s.drawn, tk, c.s.os⟩ := fun h tk => by unfold mk; rw [K.gen]
  rw [e0]
  refine wpAny_mono (runK (Nat.le_trans r.rm.dep hd) (at0.hp.gr.nolimit.keeps at0.hp.sub) (K.kw.sub at0.hp.sub) t) (fun v s' p => ?_) fun _ _ p => p.elim
  obtain ⟨h', tk', rfl, S, a, d, rfl, i, j, hn, hm⟩ := p
  have n2 : ∀ b ∈ [a, d], h.get? b = none := fun b m => by
    rcases List.mem_cons.mp m with rfl | m
    · exact hn
    · exact (List.mem_singleton.mp m).symm ▸ hm
  exact ⟨{ σ with g := more σ.g h' [a, d], sz := none }, h', tk', (e0 _ _).symm, ⟨at0.hp.newG S n2 (fun _ e => nomatch e), at0.fr.keep fun b _ o e => S b o e⟩, Mv.newG at0.hp S n2, q a _ (more_sub (at0.hp.sub.trans S)) ⟨d, more_at i (.head _), more_at j (.tail _ (.head _))⟩⟩
end
section
open _root_.PySem _root_.PySem.W
set_option maxRecDepth 100000
noncomputable def runB {α : Type} (n : Nat) (lt : Nat → Nat → Bool) : KasT α → Option α
  | .ret a => some a
  | .ask i j k => bif Nat.blt i n && Nat.blt j n then runB n lt (k (lt i j)) else none
noncomputable def ordB (r : List Nat) : List Nat → Bool
  | [] => true
  | i :: l => l.all (fun j => Nat.blt (r.getD i 0) (r.getD j 0) || Nat.beq (r.getD i 0) (r.getD j 0) && Nat.blt i j) && ordB r l
noncomputable def chkR (n : Nat) (r : List Nat) : Bool := match runB n (fun i j => Nat.blt (r.getD i 0) (r.getD j 0)) (kas_sort n) with
  | some p => p.toList.isPerm (List.range n) && ordB r p.toList
  | none => false
noncomputable def canon (n : Nat) (r : List Nat) : Bool := (List.range n).all fun i => Nat.beq (r.getD i 0) ((List.range n).countP fun j => Nat.blt (r.getD j 0) (r.getD i 0))
noncomputable def allV (m : Nat) : Nat → (List Nat → Bool) → Bool
  | 0, f => f []
  | k + 1, f => (List.range m).all fun x => allV m k fun l => f (x :: l)
noncomputable def chkN (n : Nat) : Bool := allV n n fun r => bif canon n r then chkR n r else true
theorem chk2 : chkN 2 = true := by decide +kernel
theorem chk3 : chkN 3 = true := by decide +kernel
theorem chk4 : chkN 4 = true := by decide +kernel
theorem chk5 : chkN 5 = true := by decide +kernel
theorem runB_congr {α : Type} {n : Nat} {f g : Nat → Nat → Bool} (h : ∀ i j, i < n → j < n → f i j = g i j) : ∀ t : KasT α, runB n f t = runB n g t
  | .ret _ => rfl
  | .ask i j k => by
    show (bif Nat.blt i n && Nat.blt j n then runB n f (k (f i j)) else none) = (bif Nat.blt i n && Nat.blt j n then runB n g (k (g i j)) else none)
    cases e : Nat.blt i n && Nat.blt j n with
    | false => rfl
    | true =>
      rw [Bool.and_eq_true, Nat.blt_eq, Nat.blt_eq] at e
      rw [h i j e.1 e.2]
      exact runB_congr h _
theorem allV_ {m : Nat} : ∀ {k : Nat} {f : List Nat → Bool}, allV m k f = true → ∀ r : List Nat, r.length = k → (∀ x ∈ r, x < m) → f r = true
  | 0, f, h, r, hl, _ => by rw [List.eq_nil_of_length_eq_zero hl]; exact h
  | k + 1, f, h, r, hl, hr => by
    match r, hl with
    | x :: r, hl =>
      have := List.all_eq_true.mp h x (List.mem_range.mpr (hr x (.head _)))
      exact allV_ this r (by simpa using hl) fun y hy => hr y (.tail _ hy)
theorem ordB_ {r : List Nat} : ∀ {l : List Nat}, ordB r l = true → l.Pairwise fun i j => r.getD i 0 < r.getD j 0 ∨ r.getD i 0 = r.getD j 0 ∧ i < j
  | [], _ => .nil
  | i :: l, h => by
    obtain ⟨h1, h2⟩ := Bool.and_eq_true_iff.mp h
    refine .cons (fun j hj => ?_) (ordB_ h2)
    have := List.all_eq_true.mp h1 j hj
    rw [Bool.or_eq_true, Bool.and_eq_true, Nat.blt_eq, Nat.blt_eq, Nat.beq_eq] at this
    exact this
theorem sortP {n : Nat} (h2 : 2 ≤ n) (h5 : n ≤ 5) (key : Nat → Int) : ∃ p : Array Nat, runB n (fun i j => decide (key i < key j)) (kas_sort n) = some p ∧ p.toList.Perm (List.range n) ∧ p.toList.Pairwise fun i j => key i < key j ∨ key i = key j ∧ i < j := by
  have hc : chkN n = true := by
    match n, h2, h5 with
    | 2, _, _ => exact chk2
    | 3, _, _ => exact chk3
    | 4, _, _ => exact chk4
    | 5, _, _ => exact chk5
  let rk : Nat → Nat := fun i => (List.range n).countP fun j => decide (key j < key i)
  have mono : ∀ i j, key i ≤ key j → rk i ≤ rk j := fun i j h => List.countP_mono_left fun x _ hx => by
    have := of_decide_eq_true hx; exact decide_eq_true (by omega)
  have smono : ∀ i j, i < n → key i < key j → rk i < rk j := fun i j hi h => by
    have e := List.countP_mono_left (l := List.range n) (p := fun x => decide (key x < key i) || Nat.beq x i) (q := fun x => decide (key x < key j)) fun x _ hx => by
      rw [Bool.or_eq_true, decide_eq_true_eq, Nat.beq_eq] at hx
      rcases hx with hx | rfl
      · exact decide_eq_true (by omega)
      · exact decide_eq_true h
    refine Nat.lt_of_lt_of_le ?_ e
    have s : ∀ l : List Nat, i ∈ l → l.countP (fun x => decide (key x < key i)) < l.countP (fun x => decide (key x < key i) || Nat.beq x i) := by
      intro l hl
      induction l with
      | nil => cases hl
      | cons x l ih =>
        rw [List.countP_cons, List.countP_cons]
        have le : l.countP (fun x => decide (key x < key i)) ≤ l.countP (fun x => decide (key x < key i) || Nat.beq x i) := List.countP_mono_left fun y _ hy => by simp only [hy, Bool.true_or]
        by_cases q : x = i
        · subst q
          have e1 : decide (key x < key x) = false := decide_eq_false (Int.lt_irrefl _)
          simp only [e1, Nat.beq_refl, Bool.or_true, Bool.false_eq_true, if_false, if_true]
          omega
        · have hm : i ∈ l := (List.mem_cons.mp hl).resolve_left fun z => q z.symm
          have e1 : Nat.beq x i = false := by cases z : Nat.beq x i with
            | false => rfl
            | true => exact absurd (Nat.eq_of_beq_eq_true z) q
          simp only [e1, Bool.or_false]
          have := ih hm
          omega
    exact s _ (List.mem_range.mpr hi)
  have lt_iff : ∀ i j, i < n → j < n → (rk i < rk j ↔ key i < key j) := fun i j hi hj => ⟨fun h => by
    by_cases q : key i < key j
    · exact q
    · have := mono j i (by omega); omega, smono i j hi⟩
  have rk_lt : ∀ i, i < n → rk i < n := fun i hi => by
    have h1 : rk i ≤ (List.range n).length := List.countP_le_length
    rw [List.length_range] at h1
    rcases Nat.lt_or_eq_of_le h1 with h | h
    · exact h
    · have := List.countP_eq_length.mp (h.trans List.length_range.symm) i (List.mem_range.mpr hi)
      exact absurd (of_decide_eq_true this) (Int.lt_irrefl _)
  have gr : ∀ i, i < n → ((List.range n).map rk).getD i 0 = rk i := fun i hi => by simp [List.getD, hi]
  have hv := allV_ hc ((List.range n).map rk) (by simp) fun x hx => by
    obtain ⟨i, hi, rfl⟩ := List.mem_map.mp hx
    exact rk_lt i (List.mem_range.mp hi)
  have hcan : canon n ((List.range n).map rk) = true := by
    refine List.all_eq_true.mpr fun i hi => ?_
    have hi := List.mem_range.mp hi
    rw [Nat.beq_eq, gr i hi]
    refine List.countP_congr fun j hj => ?_
    have hj := List.mem_range.mp hj
    rw [gr j hj, decide_eq_true_eq, Nat.blt_eq]
    exact (lt_iff j i hj hi).symm
  have hk : chkR n ((List.range n).map rk) = true := by
    have : (bif canon n ((List.range n).map rk) then chkR n ((List.range n).map rk) else true) = true := hv
    rw [hcan] at this; exact this
  unfold chkR at hk
  rw [runB_congr (g := fun i j => decide (key i < key j)) fun i j hi hj => by
    rw [gr i hi, gr j hj]; exact Bool.eq_iff_iff.mpr (by rw [Nat.blt_eq, decide_eq_true_eq]; exact lt_iff i j hi hj)] at hk
  split at hk
  · rename_i p hp
    rw [Bool.and_eq_true, List.isPerm_iff] at hk
    obtain ⟨perm, k3⟩ := hk
    refine ⟨p, hp, perm, ?_⟩
    refine (List.pairwise_iff_forall_sublist.mpr fun {i j} hs => ?_)
    have hi : i < n := List.mem_range.mp (perm.mem_iff.mp (hs.subset (.head _)))
    have hj : j < n := List.mem_range.mp (perm.mem_iff.mp (hs.subset (.tail _ (.head _))))
    have := List.pairwise_iff_forall_sublist.mp (ordB_ k3) hs
    rw [gr i hi, gr j hj] at this
    rcases this with q | ⟨q, q'⟩
    · exact .inl ((lt_iff i j hi hj).mp q)
    · refine .inr ⟨?_, q'⟩
      have a := lt_iff i j hi hj
      have b := lt_iff j i hj hi
      omega
  · cases hk
end
section
open _root_.PySem _root_.PySem.W _root_.PySem.Calls PyProof.Rows
set_option maxRecDepth 100000
theorem LsG.fn {g : Heap} {v : Value} {xs ys : List Value} (x : LsG g v xs) (y : LsG g v ys) : xs = ys := by
  obtain ⟨l, o, rfl, e1, U, U, n, d1⟩ := x
  obtain ⟨l', o', q, e2, U, U, n', d2⟩ := y
  cases q
  rw [e1] at e2; cases e2
  rw [d1] at d2
  injection d2 with d2
  exact congrArg Array.toList d2
theorem ThG.fn {g : Heap} {v : Value} {p q : Int × Int} (x : ThG g v p) (y : ThG g v q) : p = q := by
  obtain ⟨t, u, x⟩ := x
  obtain ⟨t', u', y⟩ := y
  have := x.fn y
  simp only [List.cons.injEq, Value.int.injEq, and_true] at this
  exact Prod.ext this.1.1 this.2.1
theorem IsK.fn {g : Heap} {k : KA} {v : Value} {p q : Int × Int} (x : IsK g k v p) (y : IsK g k v q) : p = q := by
  obtain ⟨a, t, rfl, ⟨d, e, _⟩, h⟩ := x
  obtain ⟨a', t', q, ⟨d', e', _⟩, h'⟩ := y
  cases q
  rw [e] at e'
  have z : (.ref t : Value) = .ref t' := by
    have := congrArg (fun o => (o.getD default).slots[0]?) e'
    simpa using this
  cases z
  exact h.fn h'
section
variable {c : Cx} {g : Heap} {k : KA} {va vb : Value} {p q : Int × Int}
theorem key_ask (G : Gr c.w g) (K : KC c g k) (hp : IsK g k va p) (hq : IsK g k vb q) : Ans c 590 1400 g (oneLt' true va vb) (decide (half p < half q)) := by
  have F := key_call (op := .Lt) (mok_lt c.w) (z := fun i => decide (i < 0)) (fun q => W_ltI q) G K K.kw.lt K.kw.cl hp hq
  simp only [mul3.1] at F
  intro A Q E h tk rm S kk
  obtain ⟨ct, tm, e1⟩ := K.kw.lt
  obtain ⟨a, ta, rfl, ia, hp⟩ := hp
  obtain ⟨b, tb, rfl, ib, hq⟩ := hq
  rw [oneLt'_eq]
  simp only [if_true]
  refine wpAny_bind (wpAny_cRoomFor (Nat.lt_of_le_of_lt rm.uni (by decide)) ?_)
  refine wpAny_bind (wpAny_callSpecialIfBound?_own (own_x (K.kw.sub S) (ia.sub S) (fun U a U U => a) (S _ _ e1) rfl (by rfl)) (F A _ E h tk rm S fun h' tk' S' => ?_))
  exact wpAny_truthy_bool (kk h' tk' S')
theorem eqB_op {x y : Value} {b : Bool} {d u : Nat} (hne : (x == y) = false) (hf : ∀ i t, x ≠ .float i t) (H : OpIs .Eq c.prog c.w c.s d u g x y b) : Ans c d u g (eqBool x y) b := by
  intro A Q E h tk rm S kk
  unfold eqBool
  refine wpAny_holding ?_
  rw [hne]
  simp only [Bool.false_eq_true, if_false]
  have fin : wpAny (model c.prog c.w) A (richCompare .Eq x y >>= fun v => truthOfDropped v) Q E (mk c.s h tk) := wpAny_bind (H A _ E h tk rm S fun h' tk' S' => wpAny_truthy_bool (kk h' tk' S'))
  cases x <;> first | exact fin | exact absurd rfl (hf _ _)
theorem eqB_same {x : Value} {d u : Nat} : Ans c d u g (eqBool x x) true := by
  unfold eqBool
  refine Ans.hold ?_
  rw [beq_self_eq_true, if_pos rfl]
  exact Ans.look fun A Q E h tk r S k => wpAny_bind (wpAny_rule (wpAny_pure k))
theorem key_eqB (G : Gr c.w g) (K : KC c g k) (hp : IsK g k va p) (hq : IsK g k vb q) : Ans c 590 1400 g (eqBool va vb) (half p == half q) := by
  by_cases e : va = vb
  · subst e
    rw [hp.fn hq, beq_self_eq_true]
    exact eqB_same
  · refine eqB_op (beq_false_of_ne e) (fun i t => ?_) (key_eq G K hp hq)
    obtain ⟨a, ta, rfl, U⟩ := hp
    exact fun h => nomatch h
theorem int_eqB {x y : Int} {t u : Tok} {d u' : Nat} : Ans c d u' g (eqBool (.int x t) (.int y u)) (x == y) := by
  by_cases e : (.int x t : Value) = .int y u
  · cases e
    rw [beq_self_eq_true]
    exact eqB_same
  · exact eqB_op (beq_false_of_ne e) (fun U U h => nomatch h) fun A Q E h tk r S kk => PyProof.Rows.eq_int (kk h tk fun U U e => e)
end
noncomputable def TupK (g : Heap) (k : KA) (v : Value) (p : Int × Int) (o : Int) (th : Value) : Prop :=
  Ex3 fun a kv t => v = .ref a ∧ (∃ ob, g.get? a = some ob ∧ IsT [kv, .int o t, th] ob) ∧ IsK g k kv p ∧ ThG g th p
theorem TupK.sub {g g' : Heap} {k : KA} {v : Value} {p : Int × Int} {o : Int} {th : Value} (x : TupK g k v p o th) (S : Sub g g') : TupK g' k v p o th :=
  let ⟨a, kv, t, e, ⟨ob, e1, e2⟩, h1, h2⟩ := x; ⟨a, kv, t, e, ⟨ob, S _ _ e1, e2⟩, h1.sub S, h2.sub S⟩
theorem tup_body (x y : Addr) : Builtin.«tuple.__lt__» ⟨[.ref x, .ref y], []⟩ = (do
    if !(← isInstance (.ref y) (.type "tuple")) then return ← ret .notImplemented
    let xs ← Builtin.Tuple.tupleItemsOf (.ref x)
    let ys ← Builtin.Tuple.tupleItemsOf (.ref y)
    for (x, y) in xs.toList.zip ys.toList do
      if !(← eqBool x y) then
        rule "tuple.compare.by-the-first-pair-that-differs"
        return ← ret (← richCompare .Lt x y)
    ret (Builtin.Tuple.tupleCompareSizes .Lt xs.size ys.size)) := rfl
section
variable {c : Cx} {g : Heap} {k : KA} {vx vy : Value} {p q : Int × Int} {o1 o2 : Int} {t1 t2 : Value}
theorem tup_lt (G : Gr c.w g) (K : KC c g k) (hx : TupK g k vx p o1 t1) (hy : TupK g k vy q o2 t2) (ht : half p = half q → o1 = o2 → t1 = t2) :
    OpIs .Lt c.prog c.w c.s 580 1390 g vx vy (decide (half p < half q ∨ half p = half q ∧ o1 < o2)) := by
  obtain ⟨a, ka, u1, rfl, ⟨ob1, e1, r1⟩, k1, h1⟩ := hx
  obtain ⟨b, kb, u2, rfl, ⟨ob2, e2, r2⟩, k2, h2⟩ := hy
  intro A Q E h tk rm S kk
  unfold IsT at r1 r2
  subst r1 r2
  have X : IsTup h a (List.toArray [ka, .int o1 u1, t1]) := ⟨_, S _ _ e1, rfl, _, rfl⟩
  have Y : IsTup h b (List.toArray [kb, .int o2 u2, t2]) := ⟨_, S _ _ e2, rfl, _, rfl⟩
  have rm1 := rm.in1
  have m1 : (580 : Nat) ≤ 590 := by decide
  have m2 : (1391 : Nat) ≤ 1400 := by decide
  have A1 := (key_eqB G K k1 k2).mono m1 m2
  have A2 : Ans c 580 1391 g (richCompare .Lt ka kb) (.bool (decide (half p < half q))) := (key_lt G K k1 k2).mono m1 m2
  have body : wpAny (model c.prog c.w) A (callSpecialIfBound? (.ref a) (cmpInfo .Lt).2.1 [.ref b]) (fun r s' => Ex2 fun h' tk' => s' = mk c.s h' tk' ∧ Sub h h' ∧ r = some (.bool (decide (half p < half q ∨ half p = half q ∧ o1 < o2)))) E (mk c.s h tk) := by
    refine wpAny_callSpecialIfBound?_slot (s := mk c.s h tk) X.typeIs F.slot_tuple_lt (wpAny_call_entry (s := mk c.s h tk) F.slot_tuple_lt X.typeIs F.entry_tuple_lt ?_ (F.args_tuple_lt_2 _ _))
    have fin : ∀ {b : Bool} {h' : Heap} {tk' : Nat}, Sub h h' → b = decide (half p < half q ∨ half p = half q ∧ o1 < o2) →
      ∃ v, (.done (.ret (.bool b)) : PySem.Fin) = .done (.ret v) ∧ Ex2 fun h'' tk'' => mk c.s h' tk' = mk c.s h'' tk'' ∧ Sub h h'' ∧ some v = some (.bool (decide (half p < half q ∨ half p = half q ∧ o1 < o2))) :=
      fun S' e => ⟨_, rfl, _, _, rfl, S', by rw [e]⟩
    rw [tup_body]
    refine wpAny_bind (wpAny_isInstance (T := "tuple") (s := mk c.s h tk) (b := true) Y.typeIs (by rfl) ?_)
    simp only [Bool.not_true, Bool.false_eq_true, if_false]
    refine wpAny_bind (tupleItemsOf_ (s := mk c.s h tk) X (wpAny_bind (tupleItemsOf_ (s := mk c.s h tk) Y ?_)))
    show wpAny _ _ (forIn [(ka, kb), (.int o1 u1, .int o2 u2), (t1, t2)] _ _ >>= _) _ _ _
    rw [List.forIn_cons]
    refine wpAny_bind (wpAny_bind (wpAny_bind (A1 _ _ _ h tk rm1 S fun h1 tk1 S1 => ?_)))
    by_cases c1 : half p = half q
    · rw [show (half p == half q) = true from beq_iff_eq.mpr c1]
      simp only [Bool.not_true, Bool.false_eq_true, if_false]
      refine wpAny_pure ?_
      dsimp only
      rw [List.forIn_cons]
      refine wpAny_bind (wpAny_bind (int_eqB (c := c) (g := g) (d := 580) (u' := 1391) _ _ _ h1 tk1 rm1 (S.trans S1) fun h2 tk2 S2 => ?_))
      by_cases c2 : o1 = o2
      · rw [show (o1 == o2) = true from beq_iff_eq.mpr c2, ht c1 c2]
        simp only [Bool.not_true, Bool.false_eq_true, if_false]
        refine wpAny_pure ?_
        dsimp only
        rw [List.forIn_cons]
        refine wpAny_bind (wpAny_bind (eqB_same (c := c) (g := g) (d := 580) (u := 1391) _ _ _ h2 tk2 rm1 ((S.trans S1).trans S2) fun h3 tk3 S3 => ?_))
        simp only [Bool.not_true, Bool.false_eq_true, if_false]
        refine wpAny_pure ?_
        dsimp only
        rw [List.forIn_nil]
        exact wpAny_pure (wpAny_pure (fin ((S1.trans S2).trans S3) (by simp [Builtin.Tuple.tupleCompareSizes, c1, c2])))
      · rw [beq_false_of_ne c2]
        simp only [Bool.not_false, if_true]
        refine wpAny_bind (wpAny_rule (wpAny_bind (PyProof.Rows.lt_int (wpAny_bind (wpAny_pure (wpAny_pure (wpAny_pure ?_)))))))
        exact wpAny_pure (fin (b := decide (o1 < o2)) (S1.trans S2) (by simp [c1]))
    · rw [beq_false_of_ne c1]
      simp only [Bool.not_false, if_true]
      refine wpAny_bind (wpAny_rule (wpAny_bind (A2 _ _ _ h1 tk1 rm1 (S.trans S1) fun h2 tk2 S2 => wpAny_bind (wpAny_pure (wpAny_pure (wpAny_pure ?_))))))
      exact wpAny_pure (fin (b := decide (half p < half q)) (S1.trans S2) (by simp [c1]))
  show wpAny _ _ (richCompare .Lt (.ref a) (.ref b)) _ _ _
  unfold richCompare
  simp only [oneThing_ref]
  refine wpAny_holding (wpAny_bind (wpAny_cRoomFor (Nat.lt_of_le_of_lt rm.uni (by decide)) ?_))
  refine wpAny_bind (wpAny_typeOf (T := "tuple") (s := mk c.s h tk) X.typeIs (wpAny_bind (wpAny_typeOf (T := "tuple") (s := mk c.s h tk) Y.typeIs ?_)))
  rw [show (Value.type "tuple" != Value.type "tuple") = false from rfl]
  simp only [Bool.false_eq_true, if_false]
  refine wpAny_bind (wpAny_pure ?_)
  simp only [Bool.false_eq_true, if_false]
  unfold tryCompare
  refine wpAny_bind (wpAny_bind (wpAny_mono body (fun r s' x => ?_) fun U U e => e))
  obtain ⟨h', tk', rfl, S', rfl⟩ := x
  exact wpAny_pure (wpAny_pure (kk h' tk' S'))
end
noncomputable def AnsP (c : Cx) (d u : Nat) (g : Heap) {α : Type} (t : Sem α) (P : α → Prop) : Prop :=
  ∀ (A : Around) (Q : α → Shared → Prop) (E : Value → Shared → Prop) (h : Heap) (tk : Nat), Rm d u A → Sub g h → (∀ v h' tk', Sub h h' → P v → Q v (mk c.s h' tk')) → wpAny (model c.prog c.w) A t Q E (mk c.s h tk)
theorem kas_all {c : Cx} {d u n : Nat} {g : Heap} {lt : Nat → Nat → Bool} {κ : SortKind} {vs : List Value} {α : Type} (hc : ∀ i j, i < n → j < n → Ans c d u g (keyLt' κ (vs.getD i .none) (vs.getD j .none)) (lt i j)) {A : Around} (r : Rm d u A) {G : α → Shared → Prop} {a : α} :
    ∀ (t : KasT α) (h : Heap) (tk : Nat), Sub g h → runB n lt t = some a → (∀ h' tk', Sub h h' → G a (mk c.s h' tk')) → t.kasWp (kas_ask c.prog c.w A κ vs) G (mk c.s h tk)
  | .ret b, h, tk, S, e, k => by cases e; exact k h tk fun U U e => e
  | .ask i j f, h, tk, S, e, k => by
    have e' : (bif Nat.blt i n && Nat.blt j n then runB n lt (f (lt i j)) else none) = some a := e
    cases q : Nat.blt i n && Nat.blt j n with
    | false => rw [q] at e'; cases e'
    | true =>
      rw [q] at e'
      rw [Bool.and_eq_true, Nat.blt_eq, Nat.blt_eq] at q
      exact hc i j q.1 q.2 A _ _ h tk r S fun h' tk' S' => kas_all hc r (f (lt i j)) h' tk' (S.trans S') e' fun h2 tk2 S2 => k h2 tk2 (S'.trans S2)
noncomputable def idxR (rev : Bool) (n i : Nat) : Nat := if rev = true then n - 1 - i else i
theorem idxR_lt {rev : Bool} {n i : Nat} (h : i < n) : idxR rev n i < n := by unfold idxR; split <;> omega
theorem getR {rev : Bool} {xs : List Value} {i : Nat} (h : i < xs.length) : (katRev rev xs).getD i .none = xs.getD (idxR rev xs.length i) .none := by
  unfold katRev idxR
  split
  · have h1 : i < xs.reverse.length := by rw [List.length_reverse]; exact h
    have h2 : xs.length - 1 - i < xs.length := by omega
    unfold List.getD
    rw [List.getElem?_eq_getElem h1, List.getElem?_eq_getElem h2, List.getElem_reverse]
  · rfl
noncomputable def SortIs (rev : Bool) (n : Nat) (key : Nat → Int) (is : List Nat) : Prop :=
  is.Perm (List.range n) ∧ is.Pairwise fun i j => (if rev = true then key j < key i else key i < key j) ∨ key i = key j ∧ i < j
theorem sortR {rev : Bool} {n : Nat} (h2 : 2 ≤ n) (h5 : n ≤ 5) (key : Nat → Int) : Ex2 fun (p : Array Nat) (is : List Nat) => runB n (fun i j => decide (key (idxR rev n i) < key (idxR rev n j))) (kas_sort n) = some p ∧ SortIs rev n key is ∧
    ∀ xs : List Value, xs.length = n → katRev rev (p.toList.map fun i => (katRev rev xs).getD i .none) = is.map fun i => xs.getD i .none := by
  obtain ⟨p, hp, h3, h4⟩ := sortP h2 h5 fun i => key (idxR rev n i)
  refine ⟨p, katRev rev (p.toList.map (idxR rev n)), hp, ⟨?_, ?_⟩, fun xs hx => ?_⟩
  · cases rev with
    | false =>
      show (p.toList.map fun i => i).Perm _
      rw [List.map_id']; exact h3
    | true =>
      refine (List.reverse_perm _).trans ((h3.map _).trans ?_)
      have e : (List.range n).map (idxR true n) = (List.range n).reverse := by
        refine List.ext_getElem (by simp) fun i a b => ?_
        simp [idxR]
      rw [e]; exact List.reverse_perm _
  · cases rev with
    | false =>
      show (p.toList.map fun i => i).Pairwise _
      rw [List.map_id']; exact h4
    | true =>
      show ((p.toList.map (idxR true n)).reverse).Pairwise _
      rw [List.pairwise_reverse, List.pairwise_map]
      refine (List.pairwise_iff_forall_sublist.mpr fun {i j} hs => ?_)
      have hi : i < n := List.mem_range.mp (h3.mem_iff.mp (hs.subset (.head _)))
      have hj : j < n := List.mem_range.mp (h3.mem_iff.mp (hs.subset (.tail _ (.head _))))
      rcases List.pairwise_iff_forall_sublist.mp h4 hs with q | ⟨q, q'⟩
      · exact .inl q
      · refine .inr ⟨q.symm, ?_⟩
        show n - 1 - j < n - 1 - i
        omega
  · subst hx
    have e : (p.toList.map fun i => (katRev rev xs).getD i .none) = (p.toList.map (idxR rev xs.length)).map fun i => xs.getD i .none := by
      rw [List.map_map]
      exact List.map_congr_left fun i hi => getR (List.mem_range.mp (h3.mem_iff.mp hi))
    rw [e]
    cases rev with
    | false => rfl
    | true => exact List.map_reverse.symm
theorem ans_runs {c : Cx} {d u : Nat} {g : Heap} {rev : Bool} {κ : SortKind} {ks vs : List Value} (hl : ks.length = vs.length) (h2 : 2 ≤ vs.length) (h5 : vs.length ≤ 5) {key : Nat → Int}
    (hc : ∀ i j, i < vs.length → j < vs.length → Ans c d u g (keyLt' κ (ks.getD i .none) (ks.getD j .none)) (decide (key i < key j))) :
    AnsP c d u g ((sortRuns').run (SortSt.mk' κ (if rev = true then ((List.toArray ks).zip (List.toArray vs)).reverse else (List.toArray ks).zip (List.toArray vs)) #[] 7 none)) fun r =>
      failedOf r.2 = none ∧ ∃ is, SortIs rev vs.length key is ∧ katRev rev ((arrOf r.2).map (·.2)).toList = is.map fun i => vs.getD i .none := by
  obtain ⟨p, is, hp, hs, hm⟩ := sortR (rev := rev) h2 h5 key
  intro A Q E h tk r S k
  have hlr : (katRev rev ks).length = (katRev rev vs).length := by rw [kat_len, kat_len, hl]
  have hz : (katRev rev vs).length = vs.length := kat_len _ _
  rw [kat_pairs rev hl]
  have run := kat_run (prog := c.prog) (w := c.w) (A := A) (E := E) (κ := κ) (s := mk c.s h tk) (Q := fun st s' => Q ((), st) s') (G := fun p' s' => p' = p ∧ Ex2 fun h' tk' => s' = mk c.s h' tk' ∧ Sub h h') hlr (by rw [hz]; exact h2) (by rw [hz]; omega)
    (fun p' st' s' a1 a2 a3 a4 => by
      obtain ⟨(rfl), h', tk', (rfl), S'⟩ := a4
      refine k _ h' tk' S' ⟨a3, is, hs, ?_⟩
      rw [kat_snds hlr a2, ← hm vs rfl]) (by
      rw [hz]
      refine kas_all (n := vs.length) (lt := fun i j => decide (key (idxR rev vs.length i) < key (idxR rev vs.length j))) (fun i j hi hj => ?_) r (kas_sort vs.length) h tk S hp fun h' tk' S' => ⟨rfl, h', tk', rfl, S'⟩
      rw [← hl] at hi hj
      rw [getR hi, getR hj, hl]
      exact hc _ _ (idxR_lt (hl ▸ hi)) (idxR_lt (hl ▸ hj)))
  exact wpAny_mono run (fun v s' q => q) fun U U e => e
noncomputable def IsLe (xs : List Value) (e : Nat) (o : Obj) : Prop := o.cls = .type "list" ∧ o.dict = none ∧ o.data = .seq xs.toArray e
section
variable {c : Cx} {f : Fm} {σ : St} {α : Type}
theorem W_rule {tag : String} {Q : Unit → St → Prop} (q : Q () σ) : W c f (rule tag) σ Q := fun U U U U U a => wpAny_rule (.here a q)
theorem W.hold {vs : List Value} {t : Sem α} {Q : α → St → Prop} (x : W c f t σ Q) : W c f (holding vs t) σ Q := fun A E h tk r a => wpAny_holding (x A E h tk r a)
theorem W_letGo {x y : List Value} {Q : Unit → St → Prop} (q : Q () σ) : W c f (letGo x y) σ Q := fun U U U U U a => wpAny_letGo (.here a q)
theorem W_attempt {t : Sem α} {Q : Except Value α → St → Prop} (x : W c f t σ fun v => Q (.ok v)) : W c f t.attempt σ Q := fun A E h tk r a => wpAny_attempt (x A _ h tk r a)
theorem W_ans {t : Sem α} {P : α → Prop} {Q : α → St → Prop} (x : AnsP c c.d c.u σ.g t P) (q : ∀ v, P v → Q v { σ with sz := none }) : W c f t σ Q :=
  fun A E h tk r a => x A _ E h tk r.rm a.hp.sub fun v h' tk' S p => ⟨{ σ with sz := none }, h', tk', rfl, ⟨a.hp.grow S (fun U e => nomatch e), a.fr.keep fun b U o e => S b o e⟩, .grow S, q v p⟩
theorem W_items {l : Addr} {xs : List Value} {Q : Array Value → St → Prop} (hl : Lst σ l xs) (q : Q xs.toArray σ) : W c f (Builtin.List.listItems (.ref l)) σ Q :=
  fun U U U U U a => let ⟨_, ho, _, _, _, hd⟩ := hl.at a; listItems_at ho hd (.here a q)
theorem W_upd {l : Addr} {xs ys : List Value} {fu : Array Value → Array Value} {led' : Ledger} {P : Obj → Prop} {Q : Unit → St → Prop} (hl : LU σ.led l P (IsLs ys) led') (hP : ∀ o, P o → IsLs xs o) (e : fu xs.toArray = ys.toArray) (h1 : xs.length ≤ 1000) (h2 : ys.length ≤ 1000) (q : Q () { σ with led := led' }) :
    W c f (Builtin.List.listUpdate (.ref l) fu) σ Q := by
  intro A E h tk r a
  obtain ⟨o, ho, hp⟩ := a.hp.ld _ hl.mem
  have hp := hP o hp
  have hP' := hp.map fu e
  have hs : (1000 : Nat) ≤ sizeLine := by decide
  obtain ⟨a', m'⟩ := a.chg hl.mem (Heap.SameBut.update h l (Obj.mapSeq fu)) (Heap.get?_update_self _ ho hP'.notFreed) hP'
  rw [hl.chg a.hp.nd] at a' m'
  obtain ⟨U, U, n, hd⟩ := hp
  exact listUpdate_at (s := mk c.s h tk) ho hd ⟨_, _, _, rfl, a', m', q⟩ (by rw [List.size_toArray]; omega) (by rw [e, List.size_toArray]; omega)
theorem W_epoch0 {l : Addr} {xs : List Value} {led' : Nat → Ledger} {Q : Nat → St → Prop} (hl : ∀ e, LU σ.led l (IsLs xs) (IsLe xs e) (led' e)) (q : ∀ e, Q e { σ with led := led' e }) : W c f (seqEpoch l) σ Q := by
  intro A E h tk r a
  obtain ⟨o, ho, h1, h2, n, hd⟩ := a.hp.ld _ (hl 0).mem
  obtain ⟨a', m'⟩ := a.chg (hl 0).mem (Heap.SameBut.refl l h) ho (P' := IsLe xs n) ⟨h1, h2, hd⟩
  rw [(hl n).chg a.hp.nd] at a' m'
  exact seqEpoch_at (s := mk c.s h tk) ho hd ⟨_, _, _, rfl, a', m', q n⟩
theorem W_epoch1 {l : Addr} {xs : List Value} {e : Nat} {Q : Nat → St → Prop} (hl : (l, IsLe xs e) ∈ σ.led) (q : Q e σ) : W c f (seqEpoch l) σ Q := by
  intro A E h tk r a
  obtain ⟨o, ho, U, U, hd⟩ := a.hp.ld _ hl
  exact seqEpoch_at (s := mk c.s h tk) ho hd (.here a q)
end
structure Asks (c : Cx) (g : Heap) (ks : List Value) (key : Nat → Int) : Prop where
  ex : ∃ κ, Ans c c.d c.u g (keyKind' ks.toArray) κ ∧ ∀ i j, i < ks.length → j < ks.length → Ans c c.d c.u g (keyLt' κ (ks.getD i .none) (ks.getD j .none)) (decide (key i < key j))
theorem Ans.toP {c : Cx} {d u : Nat} {g : Heap} {α : Type} {t : Sem α} {b : α} (x : Ans c d u g t b) : AnsP c d u g t fun v => v = b := fun A Q E h tk r S k => x A Q E h tk r S fun h' tk' S' => k b h' tk' S' rfl
theorem Asks.sub {c : Cx} {g g' : Heap} {ks : List Value} {key : Nat → Int} (x : Asks c g ks key) (S : Sub g g') : Asks c g' ks key := let ⟨κ, a, b⟩ := x.ex; ⟨κ, a.sub S, fun i j hi hj => (b i j hi hj).sub S⟩
noncomputable def srtT (rev : Bool) (n : Nat) (keys items : Array Value) (k : SortSt → Sem PySem.Fin) : Sem PySem.Fin := do
  if rev then rule "list.sort.reverse"
  let kind ← if n < 2 then pure general' else keyKind' keys
  let ((), s) ← (if n < 2 then pure () else sortRuns').run (SortSt.mk' kind (if rev then (keys.zip items).reverse else keys.zip items) #[] 7 none)
  k s
theorem W_srtT {c : Cx} {f : Fm} {σ : St} {rev : Bool} {ks vs : List Value} {key : Nat → Int} {k : SortSt → Sem PySem.Fin} {Q : PySem.Fin → St → Prop} (hl : ks.length = vs.length) (h5 : vs.length ≤ 5) (ha : 2 ≤ vs.length → Asks c σ.g ks key)
    (q : ∀ st is, failedOf st = none → SortIs rev vs.length key is → katRev rev ((arrOf st).map (·.2)).toList = (is.map fun i => vs.getD i .none) → W c f (k st) { σ with sz := none } Q) : W c f (srtT rev vs.length ks.toArray vs.toArray k) σ Q := by
  unfold srtT
  have step : ∀ t : Sem PySem.Fin, W c f t σ Q → W c f (if rev = true then (do let _ ← rule "list.sort.reverse"; t) else t) σ Q := by
    intro t ht
    split
    · exact W.bind (W_rule ht)
    · exact ht
  refine step _ ?_
  by_cases h2 : vs.length < 2
  · rw [if_pos h2, if_pos h2]
    refine W.bind (W.pure ?_)
    dsimp only
    rw [StateT.run_pure]
    refine W.bind (W_ans (Ans.toP Ans.pure) fun v e => ?_)
    subst e
    refine q _ (List.range vs.length) rfl ⟨.refl _, ?_⟩ ?_
    · refine (List.pairwise_iff_forall_sublist.mpr fun {i j} hs => ?_)
      have := hs.length_le
      rw [List.length_range] at this
      simp only [List.length_cons, List.length_nil] at this
      omega
    · have hlr : (katRev rev ks).length = (katRev rev vs).length := by rw [kat_len, kat_len, hl]
      show katRev rev ((if rev = true then (ks.toArray.zip vs.toArray).reverse else ks.toArray.zip vs.toArray).map (·.2)).toList = _
      rw [kat_pairs rev hl, Array.toList_map, ksk_zip, List.map_snd_zip (by rw [hlr]; exact Nat.le_refl _)]
      have e2 : katRev rev (katRev rev vs) = vs := by cases rev <;> simp [katRev]
      rw [e2]
      exact List.ext_getElem (by simp) fun i h1 h2 => by simp [List.getD, h1]
  · rw [if_neg h2, if_neg h2]
    obtain ⟨κ, a1, a2⟩ := (ha (by omega)).ex
    refine W.bind (W_ans a1.toP fun v e => ?_)
    subst e
    refine W.bind (W_ans (ans_runs hl (by omega) h5 fun i j hi hj => a2 i j (by omega) (by omega)) fun r p => ?_)
    obtain ⟨p1, is, p2, p3⟩ := p
    exact q r.2 is p1 p2 p3
noncomputable def srtEnd (a : Addr) (rev : Bool) (before : Nat) (s : SortSt) : Sem PySem.Fin := do
  let sorted := (arrOf s).map (·.2)
  let touched := (← seqEpoch a) != before
  Builtin.List.listUpdate (.ref a) fun _ => if rev then sorted.reverse else sorted
  if let some e := failedOf s then rule "list.sort.comparison-raised"; throw e
  if touched then rule "list.sort.modified"; raiseError "ValueError" "list modified during sort"
  ret .none
noncomputable def srtKw (rev : Bool) : List (Str × Value) := if rev = true then [("reverse", .bool true)] else []
theorem srt_eq (rev : Bool) (a : Addr) : Builtin.«list.sort» ⟨[.ref a], srtKw rev⟩ = (do
    let items ← Builtin.List.listItems (.ref a)
    Builtin.List.listUpdate (.ref a) fun _ => #[]
    let before ← seqEpoch a
    let held ← newTuple items.toList
    let keyStore ← newList []
    holding [held, keyStore] (srtT rev items.size items items (srtEnd a rev before))) := by cases rev <;> rfl
theorem srtK_eq (a : Addr) (b : Bool) (items : Array Value) (before : Nat) (keyStore : Value) (keys : Array Value) : ksk_end a b items before keyStore keys = srtT b items.size keys items (ksk_tail a b before keyStore) := rfl
theorem tail_eq (a : Addr) (b : Bool) (before : Nat) (keyStore : Value) (s : SortSt) : ksk_tail a b before keyStore s = (do
    Builtin.List.listUpdate keyStore fun _ => #[]
    letGo ((arrOf s).map (·.1)).toList (failedOf s).toList
    srtEnd a b before s) := rfl
theorem At.u1 {c : Cx} {f : Fm} {σ : St} {h : Heap} (a : At c f σ h) : At c.up1 f σ h := ⟨a.hp, a.fr⟩
theorem At.d1 {c : Cx} {f : Fm} {σ : St} {h : Heap} (a : At c.up1 f σ h) : At c f σ h := ⟨a.hp, a.fr⟩
noncomputable def FinQ (Q : Value → St → Prop) (fin : PySem.Fin) (σ : St) : Prop := ∃ v, fin = .done (.ret v) ∧ Q v σ
section
variable {c : Cx} {f : Fm} {σ : St}
theorem W_in1 {b : Sem PySem.Fin} {Q : Value → St → Prop} (x : W c.up1 f b σ (FinQ Q)) {A : Around} {E : Value → Shared → Prop} {h : Heap} {tk : Nat} (r : Rk c A) (a : At c f σ h) :
    wpAny (model c.prog c.w) A.in1 b (fun fin s' => ∃ v, fin = .done (.ret v) ∧ Pst c f σ h Q v s') E (mk c.s h tk) :=
  wpAny_mono (x A.in1 E h tk r.in1 a.u1) (fun fin s' p => by
    obtain ⟨σ', h', tk', rfl, a', m', v, rfl, q⟩ := p
    exact ⟨v, rfl, σ', h', tk', rfl, a'.d1, m', q⟩) fun _ _ e => e
theorem W_srtEnd {l : Addr} {rev : Bool} {e : Nat} {st : SortSt} {ys : List Value} {led' : Ledger} {Q : PySem.Fin → St → Prop} (hl : LU σ.led l (IsLe [] e) (IsLs ys) led') (hf : failedOf st = none) (hy : katRev rev ((arrOf st).map (·.2)).toList = ys) (hz : ys.length ≤ 1000) (q : Q (.done (.ret .none)) { σ with led := led' }) :
    W c f (srtEnd l rev e st) σ Q := by
  unfold srtEnd
  refine W.bind (W_epoch1 hl.mem (W.bind (W_upd hl (xs := []) (fun o h => ⟨h.1, h.2.1, _, h.2.2⟩) (ys := ys) ?_ (Nat.zero_le _) hz ?_)))
  · show (if rev = true then ((arrOf st).map (·.2)).reverse else (arrOf st).map (·.2)) = _
    rw [← hy]
    apply Array.toList_inj.mp
    cases rev with
    | false => rfl
    | true => exact Array.toList_reverse
  · rw [hf]
    simp only [bne_self_eq_false, Bool.false_eq_true, if_false]
    exact W.pure q
theorem W_lsort {l : Addr} {xs : List Value} {rev : Bool} {key : Nat → Int} {Q : Value → St → Prop} (L : (Obj → Prop) → Ledger) (hL : ∀ P P', LU (L P) l P P' (L P')) (hσ : σ.led = L (IsLs xs)) (h5 : xs.length ≤ 5) (ha : 2 ≤ xs.length → Asks c.up1 σ.g xs key)
    (q : ∀ g' is, Sub σ.g g' → SortIs rev xs.length key is → Q .none { σ with g := g', led := L (IsLs (is.map fun i => xs.getD i .none)), sz := none }) : W c f (call (.builtin "list.sort") [.ref l] (srtKw rev)) σ Q := by
  obtain ⟨g, vs, led, sz⟩ := σ
  dsimp only at hσ ha q
  subst hσ
  intro A E h tk r a
  have hT : (mk c.s h tk).TypeIs (.ref l) "list" := by
    obtain ⟨o, ho, hc, _⟩ := a.hp.ld _ (hL (IsLs xs) (IsLs xs)).mem
    exact ⟨o, ho, hc⟩
  refine wpAny_call_entry_kw (s := mk c.s h tk) slot_list_sort hT entry_list_sort (W_in1 ?_ r a) (by cases rev; exact args_list_sort _; exact args_list_sort_rev _ _)
  rw [srt_eq]
  refine W.bind (W_items (.inr (hL _ (IsLs xs)).mem) (W.bind (W_upd (hL _ (IsLs [])) (fun _ h => h) rfl (by omega) (Nat.zero_le _) (W.bind (W_epoch0 (led' := fun e => L (IsLe [] e)) (fun e => hL _ _) fun e => ?_)))))
  refine W.bind (W_newTuple (vs := xs) (Nat.le_trans h5 (by decide)) fun g1 a1 o1 S1 _ _ _ => W.bind (W_newList (Nat.zero_le _) fun kS _ _ => W.hold ?_))
  refine W_srtT (key := key) (ks := xs) (vs := xs) rfl h5 (fun h2 => (ha h2).sub S1) fun st is hf hs hy => ?_
  refine W.frz [(kS, IsLs [])] _ (.refl _) fun g2 S2 _ => W_srtEnd (hL _ _) hf hy (by rw [List.length_map, hs.1.length_eq, List.length_range]; omega) ⟨_, rfl, q g2 is (S1.trans S2) hs⟩
theorem W_collect {l : Addr} {xs : List Value} {Q : List Value → St → Prop} (hl : Lst σ l xs) (hz : xs.length ≤ 1000) (q : Q xs { σ with sz := none }) : W c f (collect (.ref l)) σ Q := by
  intro A E h tk r a
  refine collect_list (s := mk c.s h tk) (IsLs.isList (hl.at a)) ?_ (Nat.le_trans hz (by decide))
  have S : Sub h ((h.push (seqObj "list" #[] 0)).update h.objs.size (Obj.mapSeq (· ++ xs.toArray))) := fun b o e => by
    have hlt : b < h.objs.size := Heap.lt_size e
    rw [Heap.get?_update_ne _ _ _ _ (Nat.ne_of_lt hlt)]
    exact Heap.get?_push_of_some _ e
  exact ⟨{ σ with sz := none }, _, _, rfl, ⟨a.hp.grow S (fun _ e => nomatch e), a.fr.keep fun b _ o e => S b o e⟩, .grow S, q⟩
theorem W_each {β : Type} {body : β → PUnit → Sem (ForInStep PUnit)} {Q : PUnit → St → Prop} {ys : List β} (I : Nat → St → Prop) (step : ∀ i y σ, ys[i]? = some y → I i σ → W c f (body y ⟨⟩) σ fun r σ' => r = .yield ⟨⟩ ∧ I (i + 1) σ') (done : ∀ σ, I ys.length σ → Q ⟨⟩ σ) :
    ∀ (r : List β) (i : Nat) (σ : St), i ≤ ys.length → ys.drop i = r → I i σ → W c f (forIn r PUnit.unit body) σ Q
  | [], i, σ, hi, e, h => by
    rw [List.forIn_nil]
    obtain rfl := Nat.le_antisymm hi (List.drop_eq_nil_iff.mp e)
    exact W.pure (done σ h)
  | y :: r, i, σ, hi, e, h => by
    rw [List.forIn_cons]
    have hy : ys[i]? = some y := by
      have := congrArg (·[0]?) e
      simpa using this
    refine W.bind ((step i y σ hy h).mono fun q σ' _ z => ?_)
    obtain ⟨rfl, z⟩ := z
    exact W_each I step done r (i + 1) σ' (List.getElem?_eq_some_iff.mp hy).1 (by rw [← List.drop_drop, e]; rfl) z
end
noncomputable def KeysL (g : Heap) (k : KA) (ks : List Value) (ps : List (Int × Int)) : Prop := ks.length = ps.length ∧ ∀ (i : Nat) v, ks[i]? = some v → ∃ p, ps[i]? = some p ∧ IsK g k v p
theorem KeysL.sub {g g' : Heap} {k : KA} {ks : List Value} {ps : List (Int × Int)} (x : KeysL g k ks ps) (S : Sub g g') : KeysL g' k ks ps := ⟨x.1, fun i v h => let ⟨p, a, b⟩ := x.2 i v h; ⟨p, a, b.sub S⟩⟩
theorem KeysL.snoc {g : Heap} {k : KA} {ks : List Value} {ps : List (Int × Int)} {v : Value} {p : Int × Int} (x : KeysL g k ks ps) (y : IsK g k v p) : KeysL g k (ks ++ [v]) (ps ++ [p]) := by
  refine ⟨by simp [x.1], fun i u h => ?_⟩
  rw [List.getElem?_append] at h ⊢
  split at h
  · rename_i q
    rw [if_pos (x.1 ▸ q)]
    exact x.2 i u h
  · rename_i q
    rw [if_neg (x.1 ▸ q), ← x.1]
    have : i - ks.length = 0 := by
      have := (List.getElem?_eq_some_iff.mp h).1
      simp at this
      omega
    rw [this] at h ⊢
    cases h
    exact ⟨p, rfl, y⟩
noncomputable def keyAt (ps : List (Int × Int)) (i : Nat) : Int := half (ps.getD i (0, 0))
theorem KeysL.asks {c : Cx} {g : Heap} {k : KA} {ks : List Value} {ps : List (Int × Int)} (G : Gr c.w g) (K : KC c g k) (hd : c.d ≤ 590) (hu : c.u ≤ 1400) (x : KeysL g k ks ps) (h2 : 2 ≤ ks.length) : Asks c g ks (keyAt ps) := by
  have at_ : ∀ i, i < ks.length → IsK g k (ks.getD i .none) (ps.getD i (0, 0)) := fun i hi => by
    obtain ⟨p, a, b⟩ := x.2 i _ (List.getElem?_eq_getElem hi)
    unfold List.getD
    rw [List.getElem?_eq_getElem hi, a]
    exact b
  refine ⟨oneType', fun A Q E h tk r S q => ?_, fun i j hi hj => (key_ask G K (at_ i hi) (at_ j hj)).mono hd hu⟩
  refine kas_kind (s := mk c.s h tk) (T := .ref k.cls) h2 (fun v hv => ?_) rfl (beq_self_eq_true _) (q h tk fun _ _ e => e)
  obtain ⟨i, hi⟩ := List.getElem?_of_mem hv
  obtain ⟨p, _, a, t, rfl, ⟨d, e, _⟩, _⟩ := x.2 i v hi
  exact Looks.andThen (Looks.ld (S _ _ e)) .now
section
variable {c : Cx} {f : Fm} {σ : St}
theorem W_lsortK {l : Addr} {xs : List Value} {ps : List (Int × Int)} {rev : Bool} {k : KA} {Q : PySem.Fin → St → Prop} (hd : c.d ≤ 590) (hu : c.u ≤ 1400) (L : (Obj → Prop) → Ledger) (hL : ∀ P P', LU (L P) l P P' (L P')) (hσ : σ.led = L (IsLs xs)) (h5 : xs.length ≤ 5) (G : Gr c.w σ.g) (K : KC c σ.g k) (hx : Ths σ.g xs ps)
    (q : ∀ g' is, Sub σ.g g' → SortIs rev xs.length (keyAt ps) is → Q (.done (.ret .none)) { σ with g := g', led := L (IsLs (is.map fun i => xs.getD i .none)), sz := none }) : W c f (ksk_tree l (.ref k.cls) rev) σ Q := by
  obtain ⟨g, vs, led, sz⟩ := σ
  dsimp only at hσ G K hx q
  subst hσ
  unfold ksk_tree
  refine W.bind (W_items (.inr (hL _ (IsLs xs)).mem) (W.bind (W_upd (hL _ (IsLs [])) (fun _ h => h) rfl (by omega) (Nat.zero_le _) (W.bind (W_epoch0 (led' := fun e => L (IsLe [] e)) (fun e => hL _ _) fun e => ?_)))))
  refine W.bind (W_newTuple (vs := xs) (Nat.le_trans h5 (by decide)) fun g1 a1 o1 S1 _ _ _ => W.bind (W_newList (Nat.zero_le _) fun kS _ _ => W.hold ?_))
  unfold ksk_rest
  refine W.bind (W_rule ?_)
  rw [List.forIn_toArray]
  refine W.bind (W_each (ys := xs) (fun i σ => Ex3 fun g' ks z => σ = ⟨g', vs, (kS, IsLs ks) :: L (IsLe [] e), z⟩ ∧ Sub g1 g' ∧ KeysL g' k ks (ps.take i)) (fun i y σ hy hI => ?_) (fun σ hI => ?_) xs 0 _ (Nat.zero_le _) rfl ⟨g1, [], _, rfl, Sub.refl _, rfl, fun i v h => by cases i <;> cases h⟩)
  · obtain ⟨g', ks, z, rfl, S, hk⟩ := hI
    obtain ⟨p, hp, ht⟩ := hx.2 i y hy
    have ht' := ht.sub (S1.trans S)
    obtain ⟨t, rfl⟩ : ∃ t, y = .ref t := let ⟨_, _, a, _, e, _⟩ := ht; ⟨a, e⟩
    have hi := (List.getElem?_eq_some_iff.mp hp).1
    have hks : ks.length ≤ 5 := by
      have h1 := hk.1
      have h2 := hx.1
      rw [List.length_take] at h1
      omega
    refine W.bind (W_attempt (L_callK (k := k) (by omega) (K.sub (S1.trans S)) fun a g2 S2 hI => ?_))
    dsimp only
    refine W.bind (W_upd (.here) (fun _ h => h) (ys := ks ++ [.ref a]) (by simp) (by omega) (by simp; omega) (W.pure ⟨rfl, g2, _, _, rfl, S.trans S2, ?_⟩))
    have e : ps.take (i + 1) = ps.take i ++ [p] := by rw [List.take_add_one, hp]; rfl
    rw [e]
    exact (hk.sub S2).snoc ⟨a, t, rfl, hI, ht'.sub S2⟩
  · obtain ⟨g', ks, z, rfl, S, hk⟩ := hI
    rw [hx.1, List.take_length] at hk
    refine W.bind (W_items (.inr (.head _)) ?_)
    rw [srtK_eq]
    have hl : ks.length = xs.length := hk.1.trans hx.1.symm
    refine W_srtT (ks := ks) (vs := xs) (key := keyAt ps) hl h5 (fun h2 => hk.asks (G.sub (S1.trans S)) (K.sub (S1.trans S)) hd hu (by omega)) fun st is hf hs hy => ?_
    rw [tail_eq]
    refine W.bind (W_upd .here (fun _ h => h) (ys := []) rfl (by omega) (Nat.zero_le _) (W.bind (W_letGo ?_)))
    exact W.frz [(kS, IsLs [])] _ (.refl _) fun g2 S2 _ => W_srtEnd (hL _ _) hf hy (by rw [List.length_map, hs.1.length_eq, List.length_range]; omega) (q g2 is ((S1.trans S).trans S2) hs)
theorem W_lsCall {l : Addr} {xs : List Value} {kw : List (Str × Value)} {Q : Value → St → Prop} (hm : (l, IsLs xs) ∈ σ.led) (ha : argsOk "list.sort" ⟨[.ref l], kw⟩) (x : W c.up1 f (Builtin.«list.sort» ⟨[.ref l], kw⟩) σ (FinQ Q)) : W c f (call (.builtin "list.sort") [.ref l] kw) σ Q :=
  fun A E h tk r a => wpAny_call_entry_kw (s := mk c.s h tk) slot_list_sort (let ⟨o, ho, hc, _⟩ := a.hp.ld _ hm; ⟨o, ho, hc⟩) entry_list_sort (W_in1 x r a) ha
noncomputable def kwS (rev : Bool) (kc : Addr) : List (Str × Value) := if rev = true then [("key", .ref kc), ("reverse", .bool true)] else [("key", .ref kc)]
theorem W_sorted {l : Addr} {xs : List Value} {ps : List (Int × Int)} {rev : Bool} {k : KA} {Q : Value → St → Prop} (hd : c.d ≤ 590) (hu : c.u ≤ 1390) (hl : Lst σ l xs) (h5 : xs.length ≤ 5) (G : Gr c.w σ.g) (K : KC c σ.g k) (hx : Ths σ.g xs ps)
    (q : ∀ g' is D, Sub σ.g g' → SortIs rev xs.length (keyAt ps) is → Q (.ref D) { σ with g := g', led := (D, IsLs (is.map fun i => xs.getD i .none)) :: σ.led, sz := none }) : W c f (call (.builtin "sorted") [.ref l] (kwS rev k.cls)) σ Q := by
  intro A E h tk r a
  refine call_function_entry_kw kind_sorted plain_sorted entry_sorted (by cases rev; exact ksk_s1 _ _; exact ksk_s2 _ _ _) (W_in1 ?_ r a)
  unfold Builtin.«sorted»
  refine W.bind (t := checkCount "sorted" 1 1 _) (W.pure ?_)
  refine W.bind (W_collect hl (by omega) (W.bind (W_newList (Nat.le_trans h5 (by decide)) fun D _ _ => ?_)))
  refine W.bind (W.hold (W_lsCall (.head _) (by cases rev; exact ksk_l1 _ _; exact ksk_l2 _ _ _) ?_))
  have e : Builtin.«list.sort» ⟨[.ref D], kwS rev k.cls⟩ = ksk_tree D (.ref k.cls) rev := by cases rev; exact ksk_t1 _ _; exact ksk_t2 _ _ _
  have e1 : (⟨[Value.ref D], kwS rev k.cls⟩ : Args) = ⟨[.ref D], kwS rev k.cls⟩ := rfl
  rw [e]
  refine W_lsortK (ps := ps) (by exact hd) (by show c.u + 1 + 1 ≤ _; omega) (fun P => (D, P) :: σ.led) (fun _ _ => .here) rfl h5 G ⟨K.gen, K.kw⟩ hx fun g' is S hs => ⟨_, rfl, W.pure ⟨_, rfl, q g' is D S hs⟩⟩
end
section
variable {prog : Program} {w : World} {A : Around} {E : Value → Shared → Prop} {s : Shared}
theorem nextOf_range {it : Addr} {x left step : Int} {Q : Value → Shared → Prop} (hit : IsRangeIter s.heap it x left step) (hleft : 0 < left)
    (hQ : ∀ h' t, IsRangeIter h' it (x + step) (left - 1) step → Heap.SameBut it s.heap h' → Q (.int x t) { s with heap := h', toks := s.toks + 1 }) : wpAny (model prog w) A (Builtin.SmallTypes.nextOf (.ref it)) Q E s := by
  have hT : s.TypeIs (.ref it) "range_iterator" := ⟨_, hit, rfl⟩
  unfold Builtin.SmallTypes.nextOf
  refine wpAny_bind (wpAny_callSpecial?_slot (name := Str.ofString "__next__") hT F.slot_range_iterator_next
    (call_meets F.slot_range_iterator_next hT F.entry_range_iterator_next (F.args_range_iterator_next_1 _) (AutoRange.range_iterator___next___range_iterator_1 it x left step (by omega)) ⟨hit, ?_⟩))
  exact wpAny_pure (hQ _ _ (Heap.get?_update_self _ (Heap.get?_update_self _ hit rfl) rfl) ((Heap.SameBut.update ..).trans (Heap.SameBut.update ..)))
theorem stop_raise {α : Type} {h : Heap} {Q : α → Shared → Prop} (hh : A.handled = none) (hE : ∀ h' e, Sub h h' → (∃ o, h'.get? e = some o ∧ o.cls = .type "StopIteration") → E (.ref e) { s with heap := h' }) (hs : s.heap = h) :
    wpAny (model prog w) A (Builtin.SmallTypes.stopIteration : Sem α) Q E s := by
  subst hs
  unfold Builtin.SmallTypes.stopIteration
  refine wpAny_bind ?_
  simp only [newExc, newTuple]
  refine wpAny_bind (wpAny_newObj_type ?_ (by size_fits))
  refine wpAny_bind (m := firstArgMember _ _) (wpAny_of_eq (a := Value.none) (by first | rfl | (simp only [firstArgMember]; rfl)) ?_)
  refine wpAny_newObj_type ?_ (by size_fits)
  simp only [raiseNew]
  refine wpAny_bind (wpAny_handled ?_)
  rw [hh]
  refine wpAny_bind (wpAny_pure (wpAny_throw ?_))
  exact hE _ _ (fun b o e => Heap.get?_push_of_some _ (Heap.get?_push_of_some _ e)) ⟨_, Heap.get?_push_size _ rfl, rfl⟩
theorem nextOf_range_end {it : Addr} {x left step : Int} {Q : Value → Shared → Prop} (hh : A.handled = none) (hit : IsRangeIter s.heap it x left step) (hleft : left ≤ 0)
    (hE : ∀ h' e, Sub s.heap h' → (∃ o, h'.get? e = some o ∧ o.cls = .type "StopIteration") → E (.ref e) { s with heap := h' }) : wpAny (model prog w) A (Builtin.SmallTypes.nextOf (.ref it)) Q E s := by
  have hT : s.TypeIs (.ref it) "range_iterator" := ⟨_, hit, rfl⟩
  unfold Builtin.SmallTypes.nextOf
  refine wpAny_bind (wpAny_callSpecial?_slot (name := Str.ofString "__next__") hT F.slot_range_iterator_next
    (wpAny_call_entry F.slot_range_iterator_next hT F.entry_range_iterator_next ?_ (F.args_range_iterator_next_1 _)))
  show wpAny _ _ (field (.ref it) 0 >>= _) _ _ s
  refine wpAny_bind (wpAny_field hit rfl (x := rawInt x) rfl ?_)
  show wpAny _ _ (field (.ref it) 1 >>= _) _ _ s
  refine wpAny_bind (wpAny_field hit rfl (x := rawInt left) rfl ?_)
  show wpAny _ _ (field (.ref it) 2 >>= _) _ _ s
  refine wpAny_bind (wpAny_field hit rfl (x := rawInt step) rfl ?_)
  show wpAny _ _ (if left ≤ 0 then _ else _) _ _ s
  rw [if_pos hleft]
  refine wpAny_bind (wpAny_rule (wpAny_bind ?_))
  exact stop_raise (A := A.in1) hh hE rfl
noncomputable def IsGone (o : Obj) : Prop := o.cls = .type "list_iterator" ∧ ∃ x, o.data = .fields #[.none, x]
theorem nextOf_gone {it l : Addr} {i : Nat} {items : Array Value} {Q : Value → Shared → Prop} (hh : A.handled = none) (hit : s.heap.IsListIter it l i) (hl : s.heap.IsList l items) (hx : items[i]? = none)
    (hE : ∀ h' e, Heap.ExtBut it s.heap h' → (∃ o, h'.get? it = some o ∧ IsGone o) → (∃ o, h'.get? e = some o ∧ o.cls = .type "StopIteration") → E (.ref e) { s with heap := h' }) :
    wpAny (model prog w) A (Builtin.SmallTypes.nextOf (.ref it)) Q E s := by
  obtain ⟨o, ho, hc, hd⟩ := id hit
  obtain ⟨ol, hol, U, nl, hdl⟩ := hl
  unfold Builtin.SmallTypes.nextOf
  refine wpAny_bind (wpAny_callSpecial?_slot (name := Str.ofString "__next__") hit.typeIs slot_listiter_next (wpAny_call_entry slot_listiter_next hit.typeIs entry_listiter_next ?_ (args_listiter_next _)))
  show wpAny _ _ (field (.ref it) 0 >>= _) _ _ s
  refine wpAny_bind (wpAny_field ho hd (x := .ref l) rfl ?_)
  show wpAny _ _ (if (Value.ref l == Value.none) = true then _ else _) _ _ s
  rw [if_neg (show ¬ ((Value.ref l == Value.none) = true) from Bool.false_ne_true)]
  show wpAny _ _ (field (.ref it) 1 >>= _) _ _ s
  refine wpAny_bind (wpAny_field ho hd (x := .int i 0) rfl ?_)
  show wpAny _ _ (seqItems? (.ref l) >>= _) _ _ s
  refine wpAny_bind (wpAny_seqItems hol hdl ?_)
  simp only [Int.toNat_natCast, hx]
  refine wpAny_bind (wpAny_rule (wpAny_bind (wpAny_setField ho hd (by simp) ?_)))
  refine stop_raise (prog := prog) (w := w) (A := A.in1) hh (fun h' e S he => hE h' e (fun b ob hb eb => S _ _ ((Heap.SameBut.update ..).extBut b ob hb eb)) ⟨_, S _ _ (Heap.get?_update_self _ ho (Obj.isFreed_of_fields (Obj.data_mapFields hd _))), (Obj.cls_mapFields ..).trans hc, .int (i : Int) 0, by rw [Obj.data_mapFields hd]; rfl⟩ he) rfl
theorem pyNext_gone {it : Addr} {o : Obj} {Q : Option Value → Shared → Prop} (hh : A.handled = none) (ho : s.heap.get? it = some o) (hg : IsGone o) (hQ : ∀ h', Sub s.heap h' → Q none { s with heap := h' }) : wpAny (model prog w) A (pyNext (.ref it)) Q E s := by
  obtain ⟨hc, x, hd⟩ := hg
  have hT : s.TypeIs (.ref it) "list_iterator" := ⟨o, ho, hc⟩
  unfold pyNext
  refine wpAny_bind (wpAny_attempt (wpAny_callSpecial?_slot (name := Str.ofString "__next__") hT slot_listiter_next (wpAny_call_entry slot_listiter_next hT entry_listiter_next ?_ (args_listiter_next _))))
  show wpAny _ _ (field (.ref it) 0 >>= _) _ _ s
  refine wpAny_bind (wpAny_field ho hd (x := .none) rfl ?_)
  show wpAny _ _ (if (Value.none == Value.none) = true then _ else _) _ _ s
  rw [if_pos (by decide)]
  refine wpAny_bind (wpAny_rule (wpAny_bind ?_))
  refine stop_raise (prog := prog) (w := w) (A := A.in1) hh (fun h' e S he => ?_) rfl
  obtain ⟨o', e1, e2⟩ := he
  refine wpAny_bind (wpAny_isInstance (T := "StopIteration") (b := true) ⟨o', e1, e2⟩ isSubtype_stop ?_)
  exact wpAny_pure (hQ _ S)
structure ZipR (z TI TO r i l : Addr) : Prop where
  TIz : TI ≠ z
  TOz : TO ≠ z
  rz : r ≠ z
  iz : i ≠ z
  TITO : TI ≠ TO
  TIr : TI ≠ r
  TIi : TI ≠ i
  TOr : TO ≠ r
  TOi : TO ≠ i
  ri : r ≠ i
  lz : l ≠ z
  lTO : l ≠ TO
  lr : l ≠ r
  li : l ≠ i
structure ZrAt (h : Heap) (z TI TO r i l : Addr) (x left step : Int) (k : Nat) (xs : Array Value) : Prop where
  z : IsZip h z TI TO .none
  TI : IsPair h TI (.ref r) (.ref i)
  TO : Ex2 fun a b => IsPair h TO a b
  r : IsRangeIter h r x left step
  i : h.IsListIter i l k
  l : h.IsList l xs
theorem zr_item {z TI TO r i l : Addr} {x left step : Int} {k : Nat} {xs : Array Value} {y : Value} {Q : Value → Shared → Prop} (D : ZipR z TI TO r i l) (Z : ZrAt s.heap z TI TO r i l x left step k xs) (hl : 0 < left) (hy : xs[k]? = some y)
    (hQ : ∀ h' t, IsZip h' z TI TO (rawInt s.heap.objs.size) → (Ex2 fun a b => IsPair h' TO a b) → IsRangeIter h' r (x + step) (left - 1) step → h'.IsListIter i l (k + 1) → IsPair h' s.heap.objs.size (.int x t) y →
      (∀ c o, c ≠ z → c ≠ TO → c ≠ r → c ≠ i → s.heap.get? c = some o → h'.get? c = some o) → Q (.ref s.heap.objs.size) { s with heap := h', toks := s.toks + 1 }) :
    wpAny (model prog w) A (Builtin.«zip.__next__» ⟨[.ref z], []⟩) (fun fin s' => ∃ v, fin = .done (.ret v) ∧ Q v s') E s := by
  obtain ⟨hz, hTI, ⟨a, b, hTO⟩, hr, hi, hL⟩ := Z
  show wpAny _ _ (field (.ref z) 2 >>= _) _ _ _
  refine wpAny_bind (wpAny_field hz rfl (x := .bool false) rfl ?_)
  show wpAny _ _ (field (.ref z) 3 >>= _) _ _ _
  refine wpAny_bind (wpAny_field hz rfl (x := .ref TI) rfl (wpAny_bind (wpAny_seqItems hTI rfl ?_)))
  show wpAny _ _ (Builtin.SmallTypes.ownedTupleIsFree (.ref z) >>= _) _ _ _
  refine wpAny_bind ?_
  unfold Builtin.SmallTypes.ownedTupleIsFree
  refine wpAny_bind (wpAny_field hz rfl (x := .none) rfl (wpAny_pure ?_))
  simp only [if_true]
  refine wpAny_bind (wpAny_rule (wpAny_bind (wpAny_field hz rfl (x := .ref TO) rfl (wpAny_bind (wpAny_setField_rec hz (by simp) fun h₁ hz₁ hs₁ => ?_)))))
  replace hz₁ : IsZip h₁ z TI TO .ellipsis := hz₁
  refine wpAny_bind ?_
  simp only [List.zipIdx_cons, List.zipIdx_nil, List.forIn_cons, List.forIn_nil]
  refine wpAny_bind (wpAny_bind (wpAny_onRaise ?_))
  show wpAny _ _ (Builtin.SmallTypes.nextOf (.ref r) >>= _) _ _ _
  refine wpAny_bind (nextOf_range (hs₁.extBut _ _ D.rz hr) hl fun h₂ t hr₂ hs₂ => wpAny_pure ?_)
  have hTO₂ : IsPair h₂ TO a b := hs₂.extBut _ _ D.TOr (hs₁.extBut _ _ D.TOz hTO)
  refine wpAny_bind (wpAny_seqItems hTO₂ rfl (wpAny_bind (wpAny_updateSeq_pair hTO₂ fun h₃ hTO₃ hs₃ => ?_)))
  replace hTO₃ : IsPair h₃ TO (.int x t) b := hTO₃
  refine wpAny_bind (wpAny_letGo (wpAny_pure ?_))
  refine wpAny_bind (wpAny_bind (wpAny_onRaise ?_))
  show wpAny _ _ (Builtin.SmallTypes.nextOf (.ref i) >>= _) _ _ _
  refine wpAny_bind (wpAny_nextOf_list_item (((hi.extBut hs₁.extBut D.iz).extBut hs₂.extBut D.ri.symm).extBut hs₃.extBut D.TOi.symm) (((hL.extBut hs₁.extBut D.lz).extBut hs₂.extBut D.lr).extBut hs₃.extBut D.lTO) hy fun h₄ hi₄ hs₄ => wpAny_pure ?_)
  have hTO₄ : IsPair h₄ TO (.int x t) b := hs₄.extBut _ _ D.TOi hTO₃
  refine wpAny_bind (wpAny_seqItems hTO₄ rfl (wpAny_bind (wpAny_updateSeq_pair hTO₄ fun h₅ hTO₅ hs₅ => ?_)))
  replace hTO₅ : IsPair h₅ TO (.int x t) y := hTO₅
  refine wpAny_bind (wpAny_letGo (wpAny_pure (wpAny_pure (wpAny_bind (wpAny_seqItems hTO₅ rfl (wpAny_bind (wpAny_newTuple ?_)))))))
  have hsz : h₅.objs.size = s.heap.objs.size := by rw [hs₅.1, hs₄.1, hs₃.1, hs₂.1, hs₁.1]
  have hz₅ : IsZip h₅ z TI TO .ellipsis := hs₅.extBut _ _ D.TOz.symm (hs₄.extBut _ _ D.iz.symm (hs₃.extBut _ _ D.TOz.symm (hs₂.extBut _ _ D.rz.symm hz₁)))
  have hk₅ : ∀ c o, c ≠ z → c ≠ TO → c ≠ r → c ≠ i → s.heap.get? c = some o → h₅.get? c = some o := fun c o c1 c2 c3 c4 e =>
    hs₅.extBut _ _ c2 (hs₄.extBut _ _ c4 (hs₃.extBut _ _ c2 (hs₂.extBut _ _ c3 (hs₁.extBut _ _ c1 e))))
  have hr₅ : IsRangeIter h₅ r (x + step) (left - 1) step := hs₅.extBut _ _ D.TOr.symm (hs₄.extBut _ _ D.ri (hs₃.extBut _ _ D.TOr.symm hr₂))
  have hi₅ : h₅.IsListIter i l (k + 1) := hi₄.extBut hs₅.extBut D.TOi.symm
  have hzlt : z < h₅.objs.size := Heap.lt_size hz₅
  show wpAny _ _ (Builtin.SmallTypes.ownedTupleHandOut (.ref z) (.ref h₅.objs.size) >>= _) _ _ _
  refine wpAny_bind ?_
  unfold Builtin.SmallTypes.ownedTupleHandOut
  have hz₆ : IsZip (h₅.push { cls := .type "tuple", data := .seq #[.int x t, y] }) z TI TO .ellipsis := Heap.get?_push_of_some _ hz₅
  refine wpAny_bind (wpAny_setField_rec hz₆ (by simp) fun h₇ hz₇ hs₇ => ?_)
  replace hz₇ : IsZip h₇ z TI TO (rawInt h₅.objs.size) := hz₇
  refine wpAny_setField_rec hz₇ (by simp) fun h₈ hz₈ hs₈ => ?_
  replace hz₈ : IsZip h₈ z TI TO (rawInt h₅.objs.size) := hz₈
  have up : ∀ c o, c ≠ z → h₅.get? c = some o → h₈.get? c = some o := fun c o c1 e => hs₈.extBut _ _ c1 (hs₇.extBut _ _ c1 (Heap.get?_push_of_some _ e))
  have hT₈ : IsPair h₈ h₅.objs.size (.int x t) y := hs₈.extBut _ _ (Nat.ne_of_gt hzlt) (hs₇.extBut _ _ (Nat.ne_of_gt hzlt) (Heap.get?_push_size _ rfl))
  rw [hsz] at hz₈ hT₈
  refine wpAny_pure ⟨_, rfl, ?_⟩
  show Q (.ref h₅.objs.size) _
  rw [hsz]
  exact hQ h₈ t hz₈ ⟨_, _, up _ _ D.TOz hTO₅⟩ (up _ _ D.rz hr₅) (hi₅.at fun o e => up _ o D.iz e) hT₈ fun c o c1 c2 c3 c4 e => up c o c1 (hk₅ c o c1 c2 c3 c4 e)
noncomputable def IsLE (l : Addr) (xs : Array Value) (i : Nat) (o : Obj) : Prop := (o.cls = .type "list_iterator" ∧ o.data = .fields #[.ref l, .int (i : Nat) 0]) ∨ (xs.size ≤ i ∧ IsGone o)
theorem zr_end {z TI TO r i l : Addr} {x left step : Int} {k : Nat} {xs : Array Value} {Q : PySem.Fin → Shared → Prop} (hh : A.handled = none) (D : ZipR z TI TO r i l) (Z : ZrAt s.heap z TI TO r i l x left step k xs) (hend : left ≤ 0 ∨ xs[k]? = none)
    (hE : ∀ h' tk e, (∀ c o, c ≠ z → c ≠ TO → c ≠ r → c ≠ i → s.heap.get? c = some o → h'.get? c = some o) → (∃ o, h'.get? i = some o ∧ IsLE l xs k o) → (∃ o, h'.get? e = some o ∧ o.cls = .type "StopIteration") → E (.ref e) { s with heap := h', toks := tk }) :
    wpAny (model prog w) A (Builtin.«zip.__next__» ⟨[.ref z], []⟩) Q E s := by
  obtain ⟨hz, hTI, ⟨a, b, hTO⟩, hr, hi, hL⟩ := Z
  show wpAny _ _ (field (.ref z) 2 >>= _) _ _ _
  refine wpAny_bind (wpAny_field hz rfl (x := .bool false) rfl ?_)
  show wpAny _ _ (field (.ref z) 3 >>= _) _ _ _
  refine wpAny_bind (wpAny_field hz rfl (x := .ref TI) rfl (wpAny_bind (wpAny_seqItems hTI rfl ?_)))
  show wpAny _ _ (Builtin.SmallTypes.ownedTupleIsFree (.ref z) >>= _) _ _ _
  refine wpAny_bind ?_
  unfold Builtin.SmallTypes.ownedTupleIsFree
  refine wpAny_bind (wpAny_field hz rfl (x := .none) rfl (wpAny_pure ?_))
  simp only [if_true]
  refine wpAny_bind (wpAny_rule (wpAny_bind (wpAny_field hz rfl (x := .ref TO) rfl (wpAny_bind (wpAny_setField_rec hz (by simp) fun h₁ hz₁ hs₁ => ?_)))))
  replace hz₁ : IsZip h₁ z TI TO .ellipsis := hz₁
  refine wpAny_bind ?_
  simp only [List.zipIdx_cons, List.zipIdx_nil, List.forIn_cons, List.forIn_nil]
  refine wpAny_bind (wpAny_bind (wpAny_onRaise ?_))
  show wpAny _ _ (Builtin.SmallTypes.nextOf (.ref r) >>= _) _ _ _
  have out : ∀ {h₅ h₆ : Heap} {tk : Nat} {e : Addr}, (∀ c o, c ≠ z → c ≠ TO → c ≠ r → c ≠ i → s.heap.get? c = some o → h₅.get? c = some o) → IsZip h₅ z TI TO .ellipsis → Heap.SameBut z h₅ h₆ → (∃ o, h₅.get? i = some o ∧ IsLE l xs k o) → (∃ o, h₅.get? e = some o ∧ o.cls = .type "StopIteration") →
      E (.ref e) { s with heap := h₆, toks := tk } := fun {h₅ h₆ tk e} hk hz₅ hs₅ ⟨o1, e1, p1⟩ ⟨oe, hoe, hce⟩ => by
    have hez : e ≠ z := fun q => by subst q; rw [hz₅] at hoe; cases hoe; simp at hce
    exact hE h₆ tk e (fun c o c1 c2 c3 c4 q => hs₅.extBut _ _ c1 (hk c o c1 c2 c3 c4 q)) ⟨o1, hs₅.extBut _ _ D.iz e1, p1⟩ ⟨oe, hs₅.extBut _ _ hez hoe, hce⟩
  by_cases hl : left ≤ 0
  · refine wpAny_bind (nextOf_range_end hh (hs₁.extBut _ _ D.rz hr) hl fun h₂ e S₂ he => ?_)
    refine wpAny_setField_rec (S₂ _ _ hz₁) (by simp) fun h₃ U hs₃ => out (fun c o c1 U U U q => S₂ _ _ (hs₁.extBut _ _ c1 q)) (S₂ _ _ hz₁) hs₃ ?_ he
    obtain ⟨oi, e1, e2, e3⟩ := hi
    exact ⟨oi, S₂ _ _ (hs₁.extBut _ _ D.iz e1), .inl ⟨e2, e3⟩⟩
  · have hy : xs[k]? = none := hend.resolve_left hl
    refine wpAny_bind (nextOf_range (hs₁.extBut _ _ D.rz hr) (by omega) fun h₂ t hr₂ hs₂ => wpAny_pure ?_)
    have hTO₂ : IsPair h₂ TO a b := hs₂.extBut _ _ D.TOr (hs₁.extBut _ _ D.TOz hTO)
    refine wpAny_bind (wpAny_seqItems hTO₂ rfl (wpAny_bind (wpAny_updateSeq_pair hTO₂ fun h₃ hTO₃ hs₃ => ?_)))
    refine wpAny_bind (wpAny_letGo (wpAny_pure ?_))
    refine wpAny_bind (wpAny_bind (wpAny_onRaise ?_))
    show wpAny _ _ (Builtin.SmallTypes.nextOf (.ref i) >>= _) _ _ _
    refine wpAny_bind (nextOf_gone hh (((hi.extBut hs₁.extBut D.iz).extBut hs₂.extBut D.ri.symm).extBut hs₃.extBut D.TOi.symm) (((hL.extBut hs₁.extBut D.lz).extBut hs₂.extBut D.lr).extBut hs₃.extBut D.lTO) hy fun h₄ e hs₄ hg he => ?_)
    have hz₄ : IsZip h₄ z TI TO .ellipsis := hs₄ _ _ D.iz.symm (hs₃.extBut _ _ D.TOz.symm (hs₂.extBut _ _ D.rz.symm hz₁))
    refine wpAny_setField_rec hz₄ (by simp) fun h₅ U hs₅ => out (fun c o c1 c2 c3 c4 q => hs₄ _ _ c4 (hs₃.extBut _ _ c2 (hs₂.extBut _ _ c3 (hs₁.extBut _ _ c1 q)))) hz₄ hs₅ ?_ he
    obtain ⟨og, e1, e2⟩ := hg
    exact ⟨og, e1, .inr ⟨Array.getElem?_eq_none_iff.mp hy, e2⟩⟩
theorem ac {P : Addr → Prop} {a : Addr} {l : List Addr} (h : P a) (t : ∀ b ∈ l, P b) : ∀ b ∈ a :: l, P b := List.forall_mem_cons.mpr ⟨h, t⟩
theorem an {P : Addr → Prop} : ∀ b ∈ ([] : List Addr), P b := fun U h => nomatch h
theorem nd_ne {a b : Addr} {l : List Addr} (h : (a :: l).Nodup) (m : b ∈ l) : a ≠ b := fun e => (List.nodup_cons.mp h).1 (e ▸ m)
theorem nd_tl {a : Addr} {l : List Addr} (h : (a :: l).Nodup) : l.Nodup := (List.nodup_cons.mp h).2
theorem M0 {a : Addr} {l : List Addr} : a ∈ a :: l := .head _
theorem M1 {a b : Addr} {l : List Addr} : a ∈ b :: a :: l := .tail _ M0
theorem M2 {a b c : Addr} {l : List Addr} : a ∈ b :: c :: a :: l := .tail _ M1
theorem M3 {a b c d : Addr} {l : List Addr} : a ∈ b :: c :: d :: a :: l := .tail _ M2
theorem M4 {a b c d e : Addr} {l : List Addr} : a ∈ b :: c :: d :: e :: a :: l := .tail _ M3
theorem M5 {a b c d e f : Addr} {l : List Addr} : a ∈ b :: c :: d :: e :: f :: a :: l := .tail _ M4
theorem nm {c a : Addr} {l : List Addr} (hc : c ∉ l) (m : a ∈ l) : c ≠ a := fun x => hc (x ▸ m)
theorem WkT.zr (hh : A.handled = none) {z TI TO r i l : Addr} (D : ZipR z TI TO r i l) (a d n : Int) (j0 : Nat) (xs : Array Value) :
    WkT prog w A z [z, TI, TO, r, i, l] [z, TO, r, i] (min n.toNat (xs.size - j0)) (fun k vals => Ex2 fun t y => xs[j0 + k]? = some y ∧ vals = #[.int (a + k * d) t, y]) (fun k h => ZrAt h z TI TO r i l (a + k * d) (n - k) d (j0 + k) xs)
      (fun k T h => IsZip h z TI TO (rawInt T) ∧ IsPair h TI (.ref r) (.ref i) ∧ (Ex2 fun a b => IsPair h TO a b) ∧ IsRangeIter h r (a + (k + 1 : Nat) * d) (n - (k + 1 : Nat)) d ∧ h.IsListIter i l (j0 + (k + 1)) ∧ h.IsList l xs ∧ T ≠ z ∧ T ≠ TO ∧ T ≠ r ∧ T ≠ i)
      [(i, IsLE l xs (j0 + min n.toNat (xs.size - j0)))] where
  sub := ac M0 (ac M2 (ac M3 (ac M4 an)))
  frame := fun k h h' Z hk => by
    obtain ⟨hz, hTI, ⟨a, b, hTO⟩, h1, h2, hl⟩ := Z
    exact ⟨hk z M0 _ hz, hk TI M1 _ hTI, ⟨a, b, hk TO M2 _ hTO⟩, hk r M3 _ h1, h2.at fun o e => hk i M4 o e, hl.at fun o e => hk l M5 o e⟩
  item := fun k s Q E hk Z hQ => by
    have hy : j0 + k < xs.size := by omega
    have hT : s.TypeIs (.ref z) "zip" := ⟨_, Z.z, rfl⟩
    unfold pyNext
    refine wpAny_bind (wpAny_attempt (wpAny_callSpecial?_slot (name := Str.ofString "__next__") hT F.slot_zip_next (wpAny_call_entry F.slot_zip_next hT F.entry_zip_next
      (zr_item D Z (by omega) (Array.getElem?_eq_getElem hy) fun h' t a1 a2 a3 a4 a5 a6 => wpAny_pure ?_) (F.args_zip_next_1 _))))
    have lt : ∀ {c o}, s.heap.get? c = some o → s.heap.objs.size ≠ c := fun e => Nat.ne_of_gt (Heap.lt_size e)
    have TO' := Z.TO
    obtain ⟨a0, b0, hTO⟩ := TO'
    refine hQ s.heap.objs.size _ h' _ ⟨t, _, Array.getElem?_eq_getElem hy, rfl⟩ ⟨_, a5, rfl, _, rfl⟩
      ⟨a1, a6 _ _ D.TIz D.TITO D.TIr D.TIi Z.TI, a2, ?_, a4, Z.l.at fun o e => a6 _ o D.lz D.lTO D.lr D.li e, lt Z.z, lt hTO, lt Z.r, (by obtain ⟨U, e, U⟩ := Z.i; exact lt e)⟩
      fun c o hc e => a6 c o (nm hc M0) (nm hc M1) (nm hc M2) (nm hc M3) e
    have e1 : a + ((k + 1 : Nat) : Int) * d = a + k * d + d := by rw [Int.natCast_add, Int.add_mul]; omega
    have e2 : n - ((k + 1 : Nat) : Int) = n - k - 1 := by omega
    rw [e1, e2]; exact a3
  go := fun elts k0 pos k T s Q E hm hQ => by
    obtain ⟨hz, hTI, ⟨a, b, hTO⟩, h1, h2, hl, U⟩ := hm
    exact wpAny_letOwnedTupleGo_zip hz fun h' hz' hs' => hQ h' ⟨hz', hs'.extBut _ _ D.TIz hTI, ⟨a, b, hs'.extBut _ _ D.TOz hTO⟩, hs'.extBut _ _ D.rz h1, h2.extBut hs'.extBut D.iz, hl.extBut hs'.extBut D.lz⟩ fun c o hc e => hs'.extBut _ _ (nm hc M0) e
  apart := fun k T h hm hT => by
    obtain ⟨U, U, U, U, U, U, t1, t2, t3, t4⟩ := hm
    exact ac (P := fun b => T = b → False) t1 (ac t2 (ac t3 (ac t4 an))) T hT rfl
  done := fun s Q E Z hQ => by
    have hT : s.TypeIs (.ref z) "zip" := ⟨_, Z.z, rfl⟩
    have hend : n - (min n.toNat (xs.size - j0) : Nat) ≤ 0 ∨ xs[j0 + min n.toNat (xs.size - j0)]? = none := by
      rcases Nat.le_total n.toNat (xs.size - j0) with h | h
      · left; rw [Nat.min_eq_left h]; omega
      · right; rw [Nat.min_eq_right h]; exact Array.getElem?_eq_none (by omega)
    unfold pyNext
    refine wpAny_bind (wpAny_attempt (wpAny_callSpecial?_slot (name := Str.ofString "__next__") hT F.slot_zip_next (wpAny_call_entry F.slot_zip_next hT F.entry_zip_next
      (zr_end (A := A.in1) hh D Z hend fun h' tk e hk hi he => ?_) (F.args_zip_next_1 _))))
    obtain ⟨o, ho, hc⟩ := he
    refine wpAny_bind (wpAny_isInstance (T := "StopIteration") (b := true) ⟨o, ho, hc⟩ isSubtype_stop ?_)
    refine wpAny_pure (hQ h' tk (fun c o hc e => hk c o (nm hc M0) (nm hc M1) (nm hc M2) (nm hc M3) e) fun p hp => ?_)
    rw [List.mem_singleton.mp hp]; exact hi
  self := fun k s Q E Z hQ => wpAny_pyIter_zip Z.z hQ
  dw := ac M3 an
  dn := by simp [adr]
end
end
section
open _root_.PySem _root_.PySem.W _root_.PySem.Calls PyProof.Rows
set_option maxHeartbeats 0
set_option maxRecDepth 100000
noncomputable abbrev zrH (h : Heap) (a n d : Int) (i : Addr) : Heap := (((h.push { cls := .type "range_iterator", data := .fields #[rawInt a, rawInt n, rawInt d] }).push { cls := .type "tuple", data := .seq #[.ref h.objs.size, .ref i] }).push { cls := .type "tuple", data := .seq #[.none, .none] }).push
  { cls := .type "zip", data := .fields #[.none, .bool false, .bool false, .ref (h.objs.size + 1), .ref (h.objs.size + 2)] }
theorem meets_zr (r0 i l : Addr) (a b d : Int) (t u v : Tok) (j : Nat) (hs : Builtin.Range.small a b d = true) :
    Meets (Builtin.«zip.__new__» ⟨[.type "zip", .ref r0, .ref i], []⟩) (fun U R s => IsRange s.heap r0 a b d t u v ∧ s.heap.IsListIter i l j ∧
      R (.ok (.ret (.ref (s.heap.objs.size + 3)))) { s with heap := zrH s.heap a (Builtin.Range.rangeSize a b d) d i }) :=
  .of_wp fun prog w A R s h => by
    obtain ⟨hp, g, d', tk, os⟩ := s; obtain ⟨hr, hi, h⟩ := h
    have hsub := sub_zip
    have hR : IsRange (Shared.heap ⟨hp, g, d', tk, os⟩) r0 a b d t u v := hr
    have hI : (Shared.heap ⟨hp.push { cls := .type "range_iterator", data := .fields #[rawInt a, rawInt (Builtin.Range.rangeSize a b d), rawInt d] }, g, d', tk, os⟩).IsListIter i l j := let ⟨o, e, q⟩ := hi; ⟨o, Heap.get?_push_of_some _ e, q⟩
    wp_walk using wpAny_pyIter_range hR hs, wpAny_pyIter_listiter hI
    refine ⟨_, rfl, ?_⟩
    simp only [Heap.size_push]
    exact h
theorem call_zr {prog : Program} {w : World} {A : Around} {E : Value → Shared → Prop} {s : Shared} {r0 i l : Addr} {a b d : Int} {t u v : Tok} {j : Nat} {Q : Value → Shared → Prop} (hs : Builtin.Range.small a b d = true) (hr : IsRange s.heap r0 a b d t u v) (hi : s.heap.IsListIter i l j)
    (h : Q (.ref (s.heap.objs.size + 3)) { s with heap := zrH s.heap a (Builtin.Range.rangeSize a b d) d i }) : wpAny (model prog w) A (call (.type "zip") [.ref r0, .ref i]) Q E s := by
  refine callType_new F.called_zip (by decide) (F.typeCall_zip_2 _ _) (F.newCall_zip_2 _ _) (fun obj => F.args_object_init_3 obj _ _) F.entry_zip_new (meets_zr r0 i l a b d t u v j hs) ⟨hr, hi, ⟨{ cls := .type "zip", data := .fields #[.none, .bool false, .bool false, .ref (s.heap.objs.size + 1), .ref (s.heap.objs.size + 2)] }, ?_, rfl⟩, h⟩
  have e : s.heap.objs.size + 3 = (((s.heap.push { cls := .type "range_iterator", data := .fields #[rawInt a, rawInt (Builtin.Range.rangeSize a b d), rawInt d] }).push { cls := .type "tuple", data := .seq #[.ref s.heap.objs.size, .ref i] }).push { cls := .type "tuple", data := .seq #[.none, .none] }).objs.size := by
    simp only [Heap.size_push]
  show (zrH _ _ _ _ _).get? _ = _
  rw [e]
  exact Heap.get?_push_size _ rfl
noncomputable def IsR3 (a b d : Int) (o : Obj) : Prop := Ex3 fun t u v => o = { cls := .type "range", data := .fields #[.int a t, .int b u, .int d v] }
noncomputable def IsZp (TI TO : Addr) (o : Obj) : Prop := o = { cls := .type "zip", dict := none, data := .fields #[.none, .bool false, .bool false, .ref TI, .ref TO], slots := #[] }
section
variable {c : Cx} {f : Fm} {σ : St}
theorem L_range3 {a b d : Int} {t u v : Tok} {Q : Value → St → Prop} (hd : d ≠ 0) (hp : Builtin.divisionGoesByPylong (b - a) d = false) (q : ∀ r, Q (.ref r) { σ with led := (r, IsR3 a b d) :: σ.led, sz := none }) : W c f (call (.type "range") [.int a t, .int b u, .int d v]) σ Q :=
  fun A E h tk rr at0 => call_range_3 (s := mk c.s h tk) hd (Pst.newL at0 (Sub.push _ _) (Heap.get?_none_of_le (Nat.le_refl _)) (Heap.get?_push_size _ rfl) ⟨_, _, _, rfl⟩ (q _)) (.inl hp)
theorem L_iter {v : Value} {Q : Value → St → Prop} (h : W c.up1 f (pyIter v) σ Q) : W c f (call (.builtin "iter") [v]) σ Q := by
  intro A E h1 tk r a
  refine call_function_entry (by decide +kernel) (by decide +kernel) kdk_entry_iter (kdk_args_iter _) (W_in1 ?_ r a)
  unfold Builtin.«iter»
  refine W.bind ?_
  rw [show someArgs "iter" 1 2 ⟨[v], []⟩ = pure [v] from rfl]
  exact W.pure (W.bind (h.mono fun v σ' _ q => W.pure ⟨v, rfl, q⟩))
theorem L_zip {r0 I l : Addr} {a b d : Int} {j : Nat} {Q : Value → St → Prop} (hs : Builtin.Range.small a b d = true) (hr : (r0, IsR3 a b d) ∈ σ.led) (hI : (I, IsLI l j) ∈ σ.led)
    (q : ∀ z TI TO r g', Sub σ.g g' → g'.get? TI = some { cls := .type "tuple", data := .seq #[.ref r, .ref I] } →
      Q (.ref z) { σ with g := g', led := (z, IsZp TI TO) :: (TO, fun o => o = { cls := .type "tuple", data := .seq #[.none, .none] }) :: (r, IsRI a (Builtin.Range.rangeSize a b d) d) :: σ.led, sz := none }) : W c f (call (.type "zip") [.ref r0, .ref I]) σ Q := by
  intro A E h tk rr at0
  obtain ⟨o1, e1, t, u, v, rfl⟩ := at0.hp.ld _ hr
  obtain ⟨o2, e2, p1, p2⟩ := at0.hp.ld _ hI
  refine call_zr (s := mk c.s h tk) hs e1 ⟨o2, e2, p1, p2⟩ ?_
  obtain ⟨x1, m1⟩ := at0.newL (o := { cls := .type "range_iterator", data := .fields #[rawInt a, rawInt (Builtin.Range.rangeSize a b d), rawInt d] }) (P := IsRI a (Builtin.Range.rangeSize a b d) d) rfl rfl
  obtain ⟨x2, m2, S2, g2, U⟩ := x1.newG (o := { cls := .type "tuple", data := .seq #[.ref h.objs.size, .ref I] }) rfl
  obtain ⟨x3, m3⟩ := x2.newL (o := { cls := .type "tuple", data := .seq #[.none, .none] }) (P := fun o => o = { cls := .type "tuple", data := .seq #[.none, .none] }) rfl rfl
  obtain ⟨x4, m4⟩ := x3.newL (o := { cls := .type "zip", data := .fields #[.none, .bool false, .bool false, .ref (h.objs.size + 1), .ref (h.objs.size + 2)] }) (P := IsZp (h.objs.size + 1) (h.objs.size + 2)) rfl rfl
  have s1 : (h.push { cls := .type "range_iterator", data := .fields #[rawInt a, rawInt (Builtin.Range.rangeSize a b d), rawInt d] }).objs.size = h.objs.size + 1 := Heap.size_push ..
  have M := ((m1.trans m2).trans m3).trans m4
  simp only [Heap.size_push] at M x4 g2 S2
  exact ⟨_, _, tk, rfl, x4.sz0, M, q _ _ _ _ _ S2 g2⟩
theorem L_iterL {l : Addr} {xs : List Value} {Q : Value → St → Prop} (hl : Lst σ l xs) (q : ∀ I, σ.g.get? I = none → Q (.ref I) { σ with led := (I, IsLI l 0) :: σ.led, sz := none }) : W c f (pyIter (.ref l)) σ Q := by
  intro A E h tk r a
  refine wpAny_pyIter_list (s := mk c.s h tk) (IsLs.isList (hl.at a)) (Pst.newL a (Sub.push _ _) (Heap.get?_none_of_le (Nat.le_refl _)) (Heap.get?_push_size _ rfl) ⟨rfl, rfl⟩ (q _ ?_))
  cases e : σ.g.get? h.objs.size with
  | none => rfl
  | some o => have := a.hp.sub _ _ e; rw [Heap.get?_none_of_le (Nat.le_refl _)] at this; cases this
theorem L_iterI {I l : Addr} {j : Nat} {Q : Value → St → Prop} (hI : (I, IsLI l j) ∈ σ.led) (q : Q (.ref I) σ) : W c f (pyIter (.ref I)) σ Q := fun A E h tk r a =>
  let ⟨o, e, p1, p2⟩ := a.hp.ld _ hI; wpAny_pyIter_listiter (s := mk c.s h tk) (l := l) (i := j) ⟨o, e, p1, p2⟩ (.here a q)
theorem IterT_zr {z TI TO r I l : Addr} {a n d : Int} {j : Nat} {xs : List Value} (hl : ∃ o, σ.g.get? l = some o ∧ IsLs xs o) (hT : σ.g.get? TI = some { cls := .type "tuple", data := .seq #[.ref r, .ref I] }) :
    IterT c f σ [(z, IsZp TI TO), (TO, fun o => o = { cls := .type "tuple", data := .seq #[.none, .none] }), (r, IsRI a n d), (I, IsLI l j)] (.ref z) (min n.toNat (xs.length - j)) (fun k vals => Ex2 fun t y => xs[j + k]? = some y ∧ vals = #[.int (a + k * d) t, y])
      [(I, IsLE l xs.toArray (j + min n.toNat (xs.length - j)))] := by
  intro A E h tk Q rk at0 k
  obtain ⟨o, e, q⟩ := hl
  have hL : h.IsList l xs.toArray := IsLs.isList ⟨o, at0.hp.sub _ _ e, q⟩
  have hTI := at0.hp.sub _ _ hT
  obtain ⟨U, ez, rfl⟩ := at0.hp.ld (z, IsZp TI TO) (.head _)
  obtain ⟨U, eO, rfl⟩ := at0.hp.ld _ (.tail _ (.head _))
  obtain ⟨U, er, rfl⟩ := at0.hp.ld _ (.tail _ (.tail _ (.head _)))
  obtain ⟨oI, eI, qI1, qI2⟩ := at0.hp.ld (I, IsLI l j) (.tail _ (.tail _ (.tail _ (.head _))))
  have nd : List.Nodup (z :: TO :: r :: I :: adr σ.led) := at0.hp.nd
  have ne : ∀ {x b : Addr} {o : Obj}, σ.g.get? x = some o → b ∈ z :: TO :: r :: I :: adr σ.led → x ≠ b := fun e hb q => nomatch (q ▸ e).symm.trans (at0.hp.offL _ hb)
  have D : ZipR z TI TO r I l := ⟨ne hT M0, Ne.symm (nd_ne nd M0), Ne.symm (nd_ne nd M1), Ne.symm (nd_ne nd M2), ne hT M1, ne hT M2, ne hT M3, nd_ne (nd_tl nd) M0, nd_ne (nd_tl nd) M1, nd_ne (nd_tl (nd_tl nd)) M0, ne e M0, ne e M1, ne e M2, ne e M3⟩
  have W := WkT.zr (prog := c.prog) (w := c.w) (A := A) rk.none D a d n j xs.toArray
  have hz : xs.toArray.size = xs.length := by simp
  rw [hz] at W
  have W' : WkT c.prog c.w A z [z, TI, TO, r, I, l] [z, TO, r, I] (min n.toNat (xs.length - j)) (fun k vals => Ex2 fun t y => xs[j + k]? = some y ∧ vals = #[.int (a + k * d) t, y]) _ _ _ :=
    ⟨W.sub, W.frame, fun i s Q E hi st kk => W.item i s Q E hi st fun T vals h' tk p => kk T vals h' tk (by simpa using p), W.go, W.apart, W.done, W.self, W.dw, W.dn⟩
  refine wpAny_pyIter_zip (s := mk c.s h tk) ez (k z _ _ _ _ h tk W' ⟨ez, hTI, ⟨_, _, eO⟩, ?_, ⟨oI, eI, qI1, qI2⟩, hL⟩ (Sub.refl _) (ac (.inr (.inr M0)) (ac (.inl ⟨_, hT⟩) (ac (.inr (.inr M1)) (ac (.inr (.inr M2)) (ac (.inr (.inr M3)) (ac (.inl ⟨_, e⟩) an)))))) (ac (.inr M0) (ac (.inr M1) (ac (.inr M2) (ac (.inr M3) an)))) fun i h Z => ac ⟨_, Z.z⟩ (ac ⟨_, Z.TI⟩ (ac (let ⟨_, _, e⟩ := Z.TO; ⟨_, e⟩) (ac ⟨_, Z.r⟩ (ac (let ⟨o, e, _⟩ := Z.i; ⟨o, e⟩) (ac (let ⟨o, e, _⟩ := Z.l; ⟨o, e⟩) an))))))
  · have e1 : a + ((0 : Nat) : Int) * d = a := by simp
    have e2 : n - ((0 : Nat) : Int) = n := by simp
    rw [e1, e2]; exact er
theorem Wk.gone {prog : Program} {w : World} {A : Around} (hh : A.handled = none) (I : Addr) {P : Nat → Value → Prop} : Wk prog w A I [I] [] 0 P (fun U h => ∃ o, h.get? I = some o ∧ IsGone o) false where
  sub := fun U hb => nomatch hb
  frame := fun _ _ _ ⟨o, e, q⟩ hk => ⟨o, hk I (.head _) o e, q⟩
  item := fun U U U U hi U U => absurd hi (by omega)
  done := fun s Q E ⟨o, e, q⟩ hQ => pyNext_gone hh e q fun h' S => hQ h' s.toks (fun b o U e => S b o e) fun e => nomatch e
  self := fun _ s Q E ⟨o, e, q⟩ hQ => by
    have hT : s.TypeIs (.ref I) "list_iterator" := ⟨o, e, q.1⟩
    refine wpAny_pyIter_slot hT slot_listiter_iter (wpAny_call_entry slot_listiter_iter hT entry_listiter_iter ?_ (args_listiter_iter _))
    show wpAny _ _ (ret (.ref I)) _ _ s
    exact wpAny_pure ⟨_, rfl, "list_iterator", _, hT, slot_listiter_next.lookup, hQ⟩
theorem Iter_LE {I l : Addr} {xs : List Value} {i0 : Nat} (hl : ∃ o, σ.g.get? l = some o ∧ IsLs xs o) (h0 : i0 ≤ xs.length) : Iter c f σ [(I, IsLE l xs.toArray i0)] (.ref I) (xs.length - i0) (fun i v => xs[i0 + i]? = some v) false 0 := by
  intro A E h tk Q r a k
  obtain ⟨o, e, q⟩ := hl
  obtain ⟨oI, eI, qI⟩ := a.hp.ld (I, IsLE l xs.toArray i0) (.head _)
  rcases qI with ⟨q1, q2⟩ | ⟨q1, q2⟩
  · have hL : h.IsList l xs.toArray := IsLs.isList ⟨o, a.hp.sub _ _ e, q⟩
    have hI : h.IsListIter I l (i0 + 0) := ⟨oI, eI, q1, q2⟩
    have hne : l ≠ I := fun z => by have := a.hp.sub _ _ e; rw [z, eI] at this; cases this; have := q.1; rw [q1] at this; exact absurd (Value.type.inj this) (by decide)
    have W := Wk.list (prog := c.prog) (w := c.w) (A := A) r.none I l hne xs.toArray i0 (by simpa using h0)
    have hz : xs.toArray.size - i0 = xs.length - i0 := by simp
    rw [hz] at W
    have W' : Wk c.prog c.w A I [I, l] [I] (xs.length - i0) (fun i v => xs[i0 + i]? = some v) (fun i h' => h'.IsListIter I l (i0 + i) ∧ h'.IsList l xs.toArray) false :=
      ⟨W.sub, W.frame, fun i s Q E hi st kk => W.item i s Q E hi st fun v h' tk p s' X U => kk v h' tk (by simpa using p) s' X (fun e => nomatch e), fun s Q E st kk => W.done s Q E st fun h' tk X U => kk h' tk X (fun e => nomatch e), W.self⟩
    refine wpAny_pyIter_listiter (s := mk c.s h tk) hI (k I _ _ _ h tk W' ⟨hI, hL⟩ (Sub.refl _) (fun e => nomatch e) (fun b hb => ?_) (fun b hb => ?_) fun i h st b hb => ?_)
    · rcases List.mem_cons.mp hb with rfl | hb
      · exact .inr (.inr (.head _))
      · rw [List.mem_singleton.mp hb]; exact .inl ⟨o, e⟩
    · rw [List.mem_singleton.mp hb]; exact .inr (.head _)
    · rcases List.mem_cons.mp hb with rfl | hb
      · obtain ⟨o, e, U⟩ := st.1; exact ⟨o, e⟩
      · rw [List.mem_singleton.mp hb]; obtain ⟨o, e, U⟩ := st.2; exact ⟨o, e⟩
  · have hz : xs.length - i0 = 0 := by simp at q1; omega
    rw [hz] at k
    have W := Wk.gone (prog := c.prog) (w := c.w) (A := A) r.none I (P := fun i v => xs[i0 + i]? = some v)
    exact W.self 0 (mk c.s h tk) _ _ ⟨oI, eI, q2⟩ (k I _ _ _ h tk W ⟨oI, eI, q2⟩ (Sub.refl _) (fun e => nomatch e) (fun b hb => by rw [List.mem_singleton.mp hb]; exact .inr (.inr (.head _))) (fun b hb => nomatch hb)
      fun i h st b hb => by rw [List.mem_singleton.mp hb]; obtain ⟨o, e, U⟩ := st; exact ⟨o, e⟩)
end
end
section
open _root_.PySem _root_.PySem.W _root_.PySem.Calls PyProof.Rows
set_option maxRecDepth 100000
section
variable {c : Cx} {g : Heap} {k : KA} {vx vy : Value} {p q : Int × Int} {o1 o2 : Int} {t1 t2 : Value}
theorem TupK.fn (hx : TupK g k vx p o1 t1) (hy : TupK g k vx q o2 t2) : p = q ∧ o1 = o2 ∧ t1 = t2 := by
  obtain ⟨a, ka, u1, (rfl), ⟨ob1, e1, r1⟩, k1, h1⟩ := hx
  obtain ⟨b, kb, u2, e, ⟨ob2, e2, r2⟩, k2, h2⟩ := hy
  cases e
  rw [e1] at e2; cases e2
  unfold IsT at r1 r2
  rw [r1] at r2
  have r2 := congrArg Obj.data r2
  injection r2 with r2
  have r2 := congrArg Array.toList r2
  simp only [List.cons.injEq, Value.int.injEq, and_true] at r2
  obtain ⟨(rfl), ⟨(rfl), U⟩, (rfl)⟩ := r2
  exact ⟨k1.fn k2, rfl, rfl⟩
theorem tup_ask (G : Gr c.w g) (K : KC c g k) (hx : TupK g k vx p o1 t1) (hy : TupK g k vy q o2 t2) (ht : half p = half q → o1 = o2 → t1 = t2) :
    Ans c 580 1390 g (keyLt' (tuples' true) vx vy) (decide (half p < half q ∨ half p = half q ∧ o1 < o2)) := by
  obtain ⟨a, ka, u1, rfl, ⟨ob1, e1, r1⟩, k1, h1⟩ := hx
  obtain ⟨b, kb, u2, rfl, ⟨ob2, e2, r2⟩, k2, h2⟩ := hy
  intro A Q E h tk rm S kk
  unfold IsT at r1 r2
  subst r1 r2
  have m1 : (580 : Nat) ≤ 590 := by decide
  have m2 : (1390 : Nat) ≤ 1400 := by decide
  have A1 := (key_eqB G K k1 k2).mono m1 m2
  have A2 := (key_ask G K k1 k2).mono m1 m2
  refine kat_lt (s := mk c.s h tk) (S _ _ e1) rfl (S _ _ e2) rfl (kat_cons (A1 _ _ _ h tk rm S fun h1 tk1 S1 => ?_))
  by_cases c1 : half p = half q
  · rw [show (half p == half q) = true from beq_iff_eq.mpr c1]
    refine kat_yes (kat_cons (int_eqB (c := c) (g := g) (d := 580) (u' := 1390) _ _ _ h1 tk1 rm (S.trans S1) fun h2 tk2 S2 => ?_))
    by_cases c2 : o1 = o2
    · rw [show (o1 == o2) = true from beq_iff_eq.mpr c2, ht c1 c2]
      refine kat_yes (kat_cons (eqB_same (c := c) (g := g) (d := 580) (u := 1390) _ _ _ h2 tk2 rm ((S.trans S1).trans S2) fun h3 tk3 S3 => kat_yes (kat_nil ?_)))
      have z := kk h3 tk3 ((S1.trans S2).trans S3)
      rwa [show decide (half p < half q ∨ half p = half q ∧ o1 < o2) = decide ((List.toArray [ka, Value.int o1 u1, t1]).size < (List.toArray [kb, Value.int o2 u2, t2]).size) from by simp [c1, c2]] at z
    · rw [beq_false_of_ne c2]
      refine kat_no (kat_one _ _ (PyProof.Rows.lt_int ?_))
      have z := kk h2 tk2 (S1.trans S2)
      rw [show decide (half p < half q ∨ half p = half q ∧ o1 < o2) = decide (o1 < o2) from by simp [c1]] at z
      exact z
  · rw [beq_false_of_ne c1]
    refine kat_no (A2 _ _ _ h1 tk1 rm (S.trans S1) fun h2 tk2 S2 => ?_)
    have z := kk h2 tk2 (S1.trans S2)
    rwa [show decide (half p < half q ∨ half p = half q ∧ o1 < o2) = decide (half p < half q) from by simp [c1]] at z
end
noncomputable def tq (g : Heap) (k : KA) (v : Value) : (Int × Int) × Int × Value :=
  @dite _ (∃ d : (Int × Int) × Int × Value, TupK g k v d.1 d.2.1 d.2.2) (Classical.propDecidable _) (fun h => Classical.choose h) fun U => ((0, 0), 0, .none)
theorem TupK.tq {g : Heap} {k : KA} {v : Value} {p : Int × Int} {o : Int} {th : Value} (x : TupK g k v p o th) : Mine.tq g k v = (p, o, th) := by
  have h : ∃ d : (Int × Int) × Int × Value, TupK g k v d.1 d.2.1 d.2.2 := ⟨(p, o, th), x⟩
  unfold Mine.tq
  rw [dif_pos h]
  obtain ⟨e1, e2, e3⟩ := (Classical.choose_spec h).fn x
  exact Prod.ext e1 (Prod.ext e2 e3)
noncomputable def qk (s : Int) (g : Heap) (k : KA) (v : Value) : Int := half (tq g k v).1 * s * 1000 + (tq g k v).2.1 * s
noncomputable def thO (g : Heap) (k : KA) (v : Value) : Th := ((tq g k v).2.2, (tq g k v).1)
noncomputable def InOrd (L : List Th) : Prop := L.Pairwise fun a b => half a.2 = half b.2 → a.2.2 < b.2.2
structure Hv (s : Int) (g : Heap) (k : KA) (P : List Th) (hv : List Value) (ord : Nat) : Prop where
  all : ∀ v ∈ hv, Ex3 fun p th o => TupK g k v p ((o : Nat) * s) th ∧ o < ord ∧ (th, p) ∈ P
  con : ∀ v ∈ hv, ∀ w ∈ hv, ∀ p q o1 o2 t1 t2, TupK g k v p o1 t1 → TupK g k w q o2 t2 → half p = half q → (o1 * s < o2 * s ↔ p.2 < q.2)
theorem InOrd.same {L : List Th} (x : InOrd L) {a b : Th} (ha : a ∈ L) (hb : b ∈ L) (h1 : half a.2 = half b.2) (h2 : a.2.2 = b.2.2) : a = b := by
  induction x with
  | nil => cases ha
  | @cons c l hc hl ih =>
    rcases List.mem_cons.mp ha with rfl | ha' <;> rcases List.mem_cons.mp hb with rfl | hb'
    · rfl
    · have := hc b hb' h1; omega
    · have := hc a ha' h1.symm; omega
    · exact ih ha' hb'
theorem InOrd.nodup {L : List Th} (x : InOrd L) : L.Nodup := x.imp fun {a b} h e => by
  subst e; have := h rfl; omega
theorem lt2_good {s : Int} (hs : s = 1 ∨ s = -1) : Mine.Good (lt2 s) where
  irr a := by unfold lt2 thLt; simp
  tr a b c h1 h2 := by
    unfold lt2 thLt at *
    simp only [Bool.or_eq_true, Bool.and_eq_true, decide_eq_true_eq, beq_iff_eq] at *
    rcases hs with rfl | rfl <;> omega
theorem lt2_tot {s : Int} (hs : s = 1 ∨ s = -1) {L : List Th} (x : InOrd L) : ∀ a ∈ L, ∀ b ∈ L, a ≠ b → lt2 s a b = false → lt2 s b a = true := by
  intro a ha b hb hne h
  unfold lt2 thLt at *
  simp only [Bool.or_eq_false_iff, Bool.and_eq_false_iff, decide_eq_false_iff_not, beq_eq_false_iff_ne] at h
  simp only [Bool.or_eq_true, Bool.and_eq_true, decide_eq_true_eq, beq_iff_eq]
  by_cases e : half a.2 = half b.2
  · have : a.2.2 ≠ b.2.2 := fun z => hne (x.same ha hb e z)
    rcases hs with rfl | rfl <;> omega
  · rcases hs with rfl | rfl <;> omega
section
variable {s : Int} {g g' : Heap} {k : KA} {P : List Th} {hv : List Value} {ord n : Nat}
theorem sq1 (hs : s = 1 ∨ s = -1) : s * s = 1 := by rcases hs with rfl | rfl <;> decide
theorem mulss (hs : s = 1 ∨ s = -1) (x : Int) : x * s * s = x := by rw [Int.mul_assoc, sq1 hs, Int.mul_one]
theorem Hv.sub (x : Hv s g k P hv ord) (S : Sub g g') : Hv s g' k P hv ord := by
  refine ⟨fun v h => let ⟨p, th, o, a, b⟩ := x.all v h; ⟨p, th, o, a.sub S, b⟩, fun v h w h' p q o1 o2 t1 t2 a b e => ?_⟩
  obtain ⟨p', th, o, a', U⟩ := x.all v h
  obtain ⟨q', th', o', b', U⟩ := x.all w h'
  obtain ⟨(rfl), (rfl), (rfl)⟩ := (a'.sub S).fn a
  obtain ⟨(rfl), (rfl), (rfl)⟩ := (b'.sub S).fn b
  exact x.con v h w h' _ _ _ _ _ _ a' b' e
theorem Hv.tq_sub (x : Hv s g k P hv ord) (S : Sub g g') {v : Value} (h : v ∈ hv) : tq g' k v = tq g k v := by
  obtain ⟨p, th, o, a, U⟩ := x.all v h
  rw [a.tq, (a.sub S).tq]
theorem Hv.mem (x : Hv s g k P hv ord) {hv' : List Value} (h : ∀ v ∈ hv', v ∈ hv) : Hv s g k P hv' ord :=
  ⟨fun v m => x.all v (h v m), fun v m w m' => x.con v (h v m) w (h w m')⟩
theorem Hv.more (x : Hv s g k P hv ord) {P' : List Th} {ord' : Nat} (h : ∀ t ∈ P, t ∈ P') (ho : ord ≤ ord') : Hv s g k P' hv ord' :=
  ⟨fun v m => let ⟨p, th, o, a, b, d⟩ := x.all v m; ⟨p, th, o, a, by omega, h _ d⟩, x.con⟩
theorem qk_of (hs : s = 1 ∨ s = -1) {v : Value} {p : Int × Int} {th : Value} {o : Nat} (a : TupK g k v p ((o : Nat) * s) th) : qk s g k v = half p * s * 1000 + (o : Nat) := by
  unfold qk; rw [a.tq]; show half p * s * 1000 + (o : Nat) * s * s = _; rw [mulss hs]
theorem thO_of {v : Value} {p : Int × Int} {th : Value} {o : Int} (a : TupK g k v p o th) : thO g k v = (th, p) := by unfold thO; rw [a.tq]
theorem Hv.lt (hs : s = 1 ∨ s = -1) (x : Hv s g k P hv ord) (ho : ord ≤ 1000) {v w : Value} (hv' : v ∈ hv) (hw : w ∈ hv) : lt2 s (thO g k v) (thO g k w) = decide (qk s g k v < qk s g k w) := by
  obtain ⟨p, t1, o1, a, b1, U⟩ := x.all v hv'
  obtain ⟨q, t2, o2, d, b2, U⟩ := x.all w hw
  have hc := x.con v hv' w hw _ _ _ _ _ _ a d
  rw [mulss hs, mulss hs] at hc
  rw [qk_of hs a, qk_of hs d, thO_of a, thO_of d]
  unfold lt2 thLt
  rw [Bool.eq_iff_iff]
  simp only [Bool.or_eq_true, Bool.and_eq_true, decide_eq_true_eq, beq_iff_eq]
  by_cases e : half p = half q
  · have := hc e
    rcases hs with rfl | rfl <;> omega
  · rcases hs with rfl | rfl <;> omega
theorem Hv.same (hs : s = 1 ∨ s = -1) (x : Hv s g k P hv ord) (hI : InOrd P) (ho : ord ≤ 1000) {v w : Value} (hv' : v ∈ hv) (hw : w ∈ hv) (h : qk s g k v = qk s g k w) : thO g k v = thO g k w := by
  obtain ⟨p, t1, o1, a, b1, m1⟩ := x.all v hv'
  obtain ⟨q, t2, o2, d, b2, m2⟩ := x.all w hw
  have hc := x.con v hv' w hw _ _ _ _ _ _ a d
  have hc' := x.con w hw v hv' _ _ _ _ _ _ d a
  rw [mulss hs, mulss hs] at hc hc'
  rw [qk_of hs a, qk_of hs d] at h
  rw [thO_of a, thO_of d]
  have e : half p = half q := by rcases hs with rfl | rfl <;> omega
  have eo : o1 = o2 := by rcases hs with rfl | rfl <;> omega
  have := hc e
  have := hc' e.symm
  exact hI.same m1 m2 e (by show p.2 = q.2; omega)
theorem Hv.op {c : Cx} (hs : s = 1 ∨ s = -1) (G : Gr c.w g) (K : KC c g k) (x : Hv s g k P hv ord) (hI : InOrd P) (ho : ord ≤ 1000) {v w : Value} (hv' : v ∈ hv) (hw : w ∈ hv) :
    OpIs .Lt c.prog c.w c.s 580 1390 g v w (decide (qk s g k v * s < qk s g k w * s)) ∧ Ans c 580 1390 g (keyLt' (tuples' true) v w) (decide (qk s g k v * s < qk s g k w * s)) := by
  have hsame := x.same hs hI ho hv' hw
  obtain ⟨p, t1, o1, a, b1, m1⟩ := x.all v hv'
  obtain ⟨q, t2, o2, d, b2, m2⟩ := x.all w hw
  rw [qk_of hs a, qk_of hs d, thO_of a, thO_of d] at hsame
  rw [qk_of hs a, qk_of hs d]
  have ht : half p = half q → (o1 : Int) * s = (o2 : Int) * s → t1 = t2 := fun e1 e2 => by
    have := hsame (by rw [e1]; have := congrArg (· * s) e2; simp only [mulss hs] at this; omega)
    exact (Prod.mk.inj this).1
  have e : (decide (half p < half q ∨ half p = half q ∧ (o1 : Int) * s < (o2 : Int) * s)) = decide ((half p * s * 1000 + (o1 : Nat)) * s < (half q * s * 1000 + (o2 : Nat)) * s) := by
    rw [Bool.eq_iff_iff]
    simp only [decide_eq_true_eq]
    rcases hs with rfl | rfl <;> omega
  rw [← e]
  exact ⟨tup_lt G K a d ht, tup_ask G K a d ht⟩
theorem TopN.perm {T : Type} {lt : T → T → Bool} {n : Nat} {P hs hs' : List T} (t : TopN lt n P hs) (h : hs'.Perm hs) : TopN lt n P hs' := let ⟨L, a, b, d⟩ := t.ex; ⟨L, a, b, h.trans d⟩
theorem TopN.len {T : Type} {lt : T → T → Bool} {n : Nat} {P hs : List T} (t : TopN lt n P hs) : hs.length = min n P.length := by
  obtain ⟨L, a, b, d⟩ := t.ex
  rw [d.length_eq, List.length_take, a.length_eq]
theorem HeapMax.congr {key key' : Value → Int} {xs : List Value} (h : HeapMax key xs) (e : ∀ x ∈ xs, key' x = key x) : HeapMax key' xs := by
  intro i h0 hi
  have m1 : xs.getD i .none ∈ xs := by rw [getD_eq hi]; exact List.getElem_mem _
  have hj : (i - 1) / 2 < xs.length := by omega
  have m2 : xs.getD ((i - 1) / 2) .none ∈ xs := by rw [getD_eq hj]; exact List.getElem_mem _
  rw [e _ m1, e _ m2]
  exact h i h0 hi
structure HL (s : Int) (g : Heap) (k : KA) (n : Nat) (P : List Th) (xs : List Value) (ord : Nat) : Prop where
  hv : Hv s g k P xs ord
  top : TopN (lt2 s) n P (xs.map (thO g k))
  hm : HeapMax (qk s g k) xs
theorem HL.sub (x : HL s g k n P hv ord) (S : Sub g g') : HL s g' k n P hv ord := by
  have e : ∀ v ∈ hv, tq g' k v = tq g k v := fun v h => x.hv.tq_sub S h
  refine ⟨x.hv.sub S, ?_, x.hm.congr fun v h => by unfold qk; rw [e v h]⟩
  have : hv.map (thO g' k) = hv.map (thO g k) := List.map_congr_left fun v h => by unfold thO; rw [e v h]
  rw [this]; exact x.top
theorem HL.len (x : HL s g k n P hv ord) : hv.length = min n P.length := by have := x.top.len; rwa [List.length_map] at this
theorem hd_mem (h : 0 < hv.length) : hv.getD 0 .none ∈ hv := by rw [getD_eq h]; exact List.getElem_mem _
theorem HL.max (hs : s = 1 ∨ s = -1) (x : HL s g k n P hv ord) (hI : InOrd P) (ho : ord ≤ 1000) (h0 : 0 < hv.length) : ∀ t ∈ hv.map (thO g k), t ≠ thO g k (hv.getD 0 .none) → lt2 s t (thO g k (hv.getD 0 .none)) = true := by
  intro t ht hne
  obtain ⟨v, hv', rfl⟩ := List.mem_map.mp ht
  rw [x.hv.lt hs ho hv' (hd_mem h0), decide_eq_true_eq]
  obtain ⟨i, hi, e⟩ := List.mem_iff_getElem.mp hv'
  have := x.hm.root i hi
  rw [getD_eq hi, e] at this
  have h2 : qk s g k v ≠ qk s g k (hv.getD 0 .none) := fun e => hne (x.hv.same hs hI ho hv' (hd_mem h0) e)
  omega
theorem tot_of (hs : s = 1 ∨ s = -1) {e : Th} (hI : InOrd (P ++ [e])) : ∀ a ∈ P, lt2 s e a = false → lt2 s a e = true := fun a ha h =>
  lt2_tot hs hI e (List.mem_append_right _ (.head _)) a (List.mem_append_left _ ha) (fun z => by
    subst z; have := hI.nodup; rw [List.nodup_append] at this; exact this.2.2 _ ha _ (.head _) rfl) h
theorem lt2_new (hs : s = 1 ∨ s = -1) {e a : Th} (hI : InOrd (P ++ [e])) (ha : a ∈ P) : lt2 s e a = decide (half e.2 * s < half a.2 * s) := by
  have h := (List.pairwise_append.mp hI).2.2 a ha e (.head _)
  unfold lt2 thLt
  rw [Bool.eq_iff_iff]
  simp only [Bool.or_eq_true, Bool.and_eq_true, decide_eq_true_eq, beq_iff_eq]
  rcases hs with rfl | rfl <;> omega
theorem InOrd.left {L : List Th} (x : InOrd (P ++ L)) : InOrd P := (List.pairwise_append.mp x).1
theorem HL.root (x : HL s g k n P hv ord) (h0 : 0 < hv.length) : Ex3 fun p th o => TupK g k (hv.getD 0 .none) p ((o : Nat) * s) th ∧ o < ord ∧ (th, p) ∈ P := x.hv.all _ (hd_mem h0)
theorem HL.ge (hs : s = 1 ∨ s = -1) (x : HL s g k n P hv ord) {e : Th} (hI : InOrd (P ++ [e])) (ho : ord ≤ 1000) (hn : 0 < n) (hl : n ≤ P.length) {p : Int × Int} {th : Value} {o : Int} (hr : TupK g k (hv.getD 0 .none) p o th)
    (h : ¬ half e.2 * s < half p * s) : HL s g k n (P ++ [e]) hv ord := by
  have h0 : 0 < hv.length := by rw [x.len]; omega
  obtain ⟨p', th', o', a, U, m⟩ := x.root h0
  obtain ⟨(rfl), (rfl), (rfl)⟩ := a.fn hr
  refine ⟨x.hv.more (fun t h => List.mem_append_left _ h) (Nat.le_refl _), x.top.step_ge (lt2_good hs) hn hl (List.mem_map_of_mem (hd_mem h0)) (x.max hs hI.left ho h0) ?_ (tot_of hs hI), x.hm⟩
  rw [thO_of a, lt2_new hs hI m]
  exact decide_eq_false h
theorem set0_perm {v : Value} (h0 : 0 < hv.length) : (hv.set 0 v).Perm (v :: hv.tail) ∧ hv.Perm (hv.getD 0 .none :: hv.tail) := by
  cases hv with
  | nil => cases h0
  | cons a l => exact ⟨.refl _, .refl _⟩
theorem HL.lt (hs : s = 1 ∨ s = -1) (x : HL s g k n P hv ord) {e : Th} (hI : InOrd (P ++ [e])) (ho : ord < 1000) (hn : 0 < n) (h5 : n ≤ 5) (hl : n ≤ P.length) {p : Int × Int} {th : Value} {o : Int} (hr : TupK g k (hv.getD 0 .none) p o th)
    (h : half e.2 * s < half p * s) (S : Sub g g') {v : Value} (hv' : TupK g' k v e.2 ((ord : Nat) * s) e.1) :
    Hv s g' k (P ++ [e]) (v :: hv) (ord + 1) ∧ HL s g' k n (P ++ [e]) (su (upM fun x y => decide (qk s g' k x < qk s g' k y)) (pkM fun x y => decide (qk s g' k x < qk s g' k y)) (hv.set 0 v) 0) (ord + 1) := by
  have h0 : 0 < hv.length := by rw [x.len]; omega
  have x' := x.sub S
  obtain ⟨p', th', o', a, U, m⟩ := x'.root h0
  obtain ⟨(rfl), (rfl), (rfl)⟩ := a.fn (hr.sub S)
  have H : Hv s g' k (P ++ [e]) (v :: hv) (ord + 1) := by
    have old := x'.hv.more (P' := P ++ [e]) (ord' := ord + 1) (fun t h => List.mem_append_left _ h) (by omega)
    have new : ∀ w ∈ hv, ∀ q o2 t2, TupK g' k w q o2 t2 → half e.2 = half q → o2 * s < (ord : Nat) ∧ q.2 < e.2.2 := fun w hw q o2 t2 b eh => by
      obtain ⟨q', th', o', b', b2, m2⟩ := x'.hv.all w hw
      obtain ⟨(rfl), (rfl), (rfl)⟩ := b'.fn b
      rw [mulss hs]
      exact ⟨by omega, (List.pairwise_append.mp hI).2.2 _ m2 e (.head _) eh.symm⟩
    refine ⟨fun w hw => ?_, fun w hw z hz q r o1 o2 t1 t2 b d eh => ?_⟩
    · rcases List.mem_cons.mp hw with rfl | hw
      · exact ⟨_, _, _, hv', by omega, List.mem_append_right _ (.head _)⟩
      · exact old.all w hw
    · rcases List.mem_cons.mp hw with hw1 | hw1 <;> rcases List.mem_cons.mp hz with hz1 | hz1
      · subst hw1 hz1
        obtain ⟨(rfl), (rfl), (rfl)⟩ := b.fn d; omega
      · subst hw1
        obtain ⟨(rfl), (rfl), (rfl)⟩ := hv'.fn b
        have := new z hz1 _ _ _ d eh
        rw [mulss hs]; omega
      · subst hz1
        obtain ⟨(rfl), (rfl), (rfl)⟩ := hv'.fn d
        have := new w hw1 _ _ _ b eh.symm
        rw [mulss hs]; omega
      · exact old.con w hw1 z hz1 _ _ _ _ _ _ b d eh
  have hp1 := set0_perm (v := v) h0
  have hps : (su (upM fun x y => decide (qk s g' k x < qk s g' k y)) (pkM fun x y => decide (qk s g' k x < qk s g' k y)) (hv.set 0 v) 0).Perm (v :: hv.tail) := (su_perm (by rw [List.length_set]; exact h0)).trans hp1.1
  refine ⟨H, H.mem fun w hw => ?_, ?_, ?_⟩
  · rcases List.mem_cons.mp (hps.mem_iff.mp hw) with rfl | hw
    · exact .head _
    · exact .tail _ (List.mem_of_mem_tail hw)
  · have t := x'.top.step_lt (rest := hv.tail.map (thO g' k)) (e := e) (top := thO g' k (hv.getD 0 .none)) (lt2_good hs) hn hl (hp1.2.map _) (x'.max hs hI.left (by omega) h0) (by rw [thO_of a, lt2_new hs hI m]; exact decide_eq_true h) (tot_of hs hI)
    refine t.perm ?_
    have := hps.map (thO g' k)
    rw [List.map_cons, thO_of hv'] at this
    exact this
  · exact replM (fun U U => rfl) h0 x'.hm
theorem HL.best (hs : s = 1 ∨ s = -1) (x : HL s g k n P hv ord) (hI : InOrd P) (ho : ord ≤ 1000) {is : List Nat} (hi : SortIs (decide (s = -1)) hv.length (fun i => qk s g k (hv.getD i .none) * s) is) :
    Best (lt2 s) n P ((is.map fun i => hv.getD i .none).map (thO g k)) := by
  obtain ⟨h1, h2⟩ := hi
  have hp : (is.map fun i => hv.getD i .none).Perm hv := by
    refine (h1.map _).trans ?_
    have : (List.range hv.length).map (fun i => hv.getD i .none) = hv := List.ext_getElem (by simp) fun i a b => by simp [List.getD, b]
    rw [this]
  refine x.top.best (lt2_good hs) (hp.map _) ?_
  have nd : (hv.map (thO g k)).Nodup := by
    obtain ⟨L, a, b, d⟩ := x.top.ex
    refine d.nodup_iff.mpr (List.Nodup.sublist (List.take_sublist _ _) ?_)
    exact b.imp fun {u v} h z => by rw [z, (lt2_good hs).irr] at h; cases h
  rw [List.pairwise_map, List.pairwise_map]
  refine h2.imp_of_mem fun {i j} hi hj h => ?_
  have hi := List.mem_range.mp (h1.mem_iff.mp hi)
  have hj := List.mem_range.mp (h1.mem_iff.mp hj)
  have mi : hv.getD i .none ∈ hv := by rw [getD_eq hi]; exact List.getElem_mem _
  have mj : hv.getD j .none ∈ hv := by rw [getD_eq hj]; exact List.getElem_mem _
  rw [x.hv.lt hs ho mi mj, decide_eq_true_eq]
  have ne : ∀ a b, a < b → (ha : a < hv.length) → (hb : b < hv.length) → qk s g k (hv.getD a .none) ≠ qk s g k (hv.getD b .none) := fun a b hab ha hb e => by
    have := x.hv.same hs hI ho (by rw [getD_eq ha]; exact List.getElem_mem _) (by rw [getD_eq hb]; exact List.getElem_mem _) e
    rw [getD_eq ha, getD_eq hb] at this
    refine List.pairwise_iff_getElem.mp nd a b (by rw [List.length_map]; exact ha) (by rw [List.length_map]; exact hb) hab ?_
    rw [List.getElem_map, List.getElem_map]; exact this
  rcases h with h | ⟨h, h'⟩
  · rcases hs with rfl | rfl
    · have h : qk 1 g k (hv.getD i .none) * 1 < qk 1 g k (hv.getD j .none) * 1 := h
      omega
    · have h : qk (-1) g k (hv.getD j .none) * -1 < qk (-1) g k (hv.getD i .none) * -1 := h
      omega
  · have h : qk s g k (hv.getD i .none) * s = qk s g k (hv.getD j .none) * s := h
    have := ne i j h' hi hj
    rcases hs with rfl | rfl <;> omega
end
section
variable {c : Cx} {f : Fm} {σ : St} {α : Type}
theorem W_try {t : Sem α} {hd : Value → Sem α} {Q : α → St → Prop} (x : W c f t σ Q) : W c f (tryCatch t hd) σ Q := fun A E h tk r a => wpAny_tryCatch (x A _ h tk r a)
theorem W_nextL {I l : Addr} {xs : List Value} {j : Nat} {v : Value} {led' : Ledger} {Q : Option Value → St → Prop} (hl : ∃ o, σ.g.get? l = some o ∧ IsLs xs o) (hI : LU σ.led I (IsLI l j) (IsLI l (j + 1)) led') (hj : xs[j]? = some v) (q : Q (some v) { σ with led := led' }) : W c f (pyNext (.ref I)) σ Q := by
  intro A E h tk r a
  obtain ⟨oI, eI, c1, c2⟩ := a.hp.ld _ hI.mem
  obtain ⟨o, e, p⟩ := hl
  refine wpAny_pyNext_list_item (s := mk c.s h tk) (l := l) (i := j) ⟨oI, eI, c1, c2⟩ (IsLs.isList ⟨o, a.hp.sub _ _ e, p⟩) (x := v) (by simpa using hj) fun h' hit' hs' => ?_
  obtain ⟨o', e', d1, d2⟩ := hit'
  obtain ⟨a', m'⟩ := a.chg hI.mem hs' e' (P' := IsLI l (j + 1)) ⟨d1, d2⟩
  rw [hI.chg a.hp.nd] at a' m'
  exact ⟨_, _, _, rfl, a', m', q⟩
theorem At.chgB {h h' : Heap} {a : Addr} {P P' : Obj → Prop} {led' : Ledger} (A : At c f σ h) (hl : LU σ.led a P P' led') (hs : Heap.ExtBut a h h') {o : Obj} (e : h'.get? a = some o) (hP : P' o) :
    At c f { σ with led := led', sz := none } h' ∧ Mv c.fs f.own σ.g σ.led h σ.g led' h' := by
  obtain ⟨l1, l2, e1, e2⟩ := chgL_split (P' := P') A.hp.nd hl.mem
  rw [hl.chg A.hp.nd] at e2
  have S : ∀ b o, b ≠ a → h.get? b = some o → h'.get? b = some o := fun b o hb q => hs b o hb q
  have hp := A.hp.chg e1 S e hP (sz' := none) (fun n e => nomatch e)
  have m := Mv.chg (fs := c.fs) (own := f.own) (g := σ.g) (P' := P') e1 S e
  rw [← e2] at hp m
  exact ⟨⟨hp, A.fr.keep fun b hb o q => S b o (fun z => A.hp.ap b hb (by rw [z]; exact List.mem_map_of_mem (f := fun q : Addr × (Obj → Prop) => q.1) hl.mem)) q⟩, m⟩
theorem W_nextE {I l : Addr} {xs : List Value} {led' : Ledger} {Q : Option Value → St → Prop} (hl : ∃ o, σ.g.get? l = some o ∧ IsLs xs o) (hI : LU σ.led I (IsLI l xs.length) (fun U => True) led') (q : Q none { σ with led := led', sz := none }) : W c f (pyNext (.ref I)) σ Q := by
  intro A E h tk r a
  obtain ⟨oI, eI, c1, c2⟩ := a.hp.ld _ hI.mem
  obtain ⟨o, e, p⟩ := hl
  refine lnext_end (s := mk c.s h tk) (l := l) (i := xs.length) r.none ⟨oI, eI, c1, c2⟩ (IsLs.isList ⟨o, a.hp.sub _ _ e, p⟩) (by simp) fun h' he U hx => ?_
  obtain ⟨o', e'⟩ := hx
  obtain ⟨a', m'⟩ := a.chgB hI he e' trivial
  exact ⟨_, _, _, rfl, a', m', q⟩
theorem W_seqI {l : Addr} {xs : List Value} {Q : Option (Array Value) → St → Prop} (hl : Lst σ l xs) (q : Q (some xs.toArray) σ) : W c f (seqItems? (.ref l)) σ Q :=
  fun U U U U U a => let ⟨_, ho, _, _, _, hd⟩ := hl.at a; wpAny_seqItems ho hd (.here a q)
theorem W_updS {l : Addr} {xs ys : List Value} {fu : Array Value → Array Value} {led' : Ledger} {Q : Unit → St → Prop} (hl : LU σ.led l (IsLs xs) (IsLs ys) led') (e : fu xs.toArray = ys.toArray) (h1 : xs.length ≤ 1000) (h2 : ys.length ≤ 1000) (q : Q () { σ with led := led' }) :
    W c f (updateSeq l fu) σ Q := by
  intro A E h tk r a
  obtain ⟨o, ho, hp⟩ := a.hp.ld _ hl.mem
  have hP' := hp.map fu e
  have hs : (1000 : Nat) ≤ sizeLine := by decide
  obtain ⟨a', m'⟩ := a.chg hl.mem (Heap.SameBut.update h l (Obj.mapSeq fu)) (Heap.get?_update_self _ ho hP'.notFreed) hP'
  rw [hl.chg a.hp.nd] at a' m'
  obtain ⟨U, U, n, hd⟩ := hp
  exact wpAny_updateSeq (s := mk c.s h tk) ho hd ⟨_, _, _, rfl, a', m', q⟩ (by rw [List.size_toArray]; omega) (by rw [e, List.size_toArray]; omega)
theorem W_bloop {id : String} {B : Builtin} {args : Args} {Q : Value → St → Prop} (hb : entryFor table id = some B) (hp : plainId id = true) (J : Nat → St → Prop)
    (turn : ∀ n σ, J n σ → W c.up1 f (B args) σ fun fin σ' => (∃ v, fin = .done (.ret v) ∧ Q v σ') ∨ (fin = .again (.builtin id args) ∧ ∃ m, m < n ∧ J m σ')) :
    ∀ n σ, J n σ → ∀ (A : Around) (R : Result → Shared → Prop) (h : Heap) (tk : Nat), Rk c A → At c f σ h → (∀ v s', Pst c f σ h Q v s' → R (.ok (.ret v)) s') → codeAny (model c.prog c.w) A (.builtin id args) R (mk c.s h tk) := by
  intro n
  induction n using Nat.strongRecOn with
  | ind n ih =>
    intro σ j A R h tk r a k
    refine codeAny_builtin hb ?_
    rw [Around.under_plainId hp _]
    refine wpAny_mono (turn n σ j A.in1 _ h tk r.in1 a.u1) (fun fin s' p => ?_) fun U U e => e
    obtain ⟨σ', h', tk', rfl, a', m', q⟩ := p
    rcases q with ⟨v, (rfl), q⟩ | ⟨(rfl), m, hm, q⟩
    · exact k v _ ⟨σ', h', tk', rfl, a'.d1, m', q⟩
    · refine ⟨plainId_quiet hp _, ih m hm σ' q A R h' tk' r a'.d1 fun v s' p => k v s' ?_⟩
      obtain ⟨σ2, h2, tk2, rfl, a2, m2, q2⟩ := p
      exact ⟨σ2, h2, tk2, rfl, a2, m'.trans m2, q2⟩
end
noncomputable def mmB : String → CmpOp → Builtin := by
  refine (fun (F : String → CmpOp → Builtin) (_ : Builtin.«min.loop» = F "min" .Lt) => F) ?F ?h
  case h => unfold Builtin.«min.loop»; exact rfl
theorem mm_min : Builtin.«min.loop» = mmB "min" .Lt := rfl
theorem mm_max : Builtin.«max.loop» = mmB "max" .Gt := rfl
noncomputable def mmE : String → Builtin := by
  refine (fun (F : String → Builtin) (_ : Builtin.«min» = F "min") => F) ?F ?h
  case h => unfold Builtin.«min»; exact rfl
theorem mmE_min : Builtin.«min» = mmE "min" := rfl
theorem mmE_max : Builtin.«max» = mmE "max" := rfl
noncomputable abbrev mmKw (d v : Value) : List (Str × Value) := [("default", d), ("key", v)]
noncomputable def BestI (kf : Nat → Int) (i j : Nat) : Prop := i < j ∧ ∀ j', j' < j → kf i ≤ kf j' ∧ (j' < i → kf i < kf j')
theorem BestI.next {kf : Nat → Int} {i j : Nat} (b : BestI kf i j) : (kf j < kf i → BestI kf j (j + 1)) ∧ (¬ kf j < kf i → BestI kf i (j + 1)) := by
  obtain ⟨h1, h2⟩ := b
  refine ⟨fun h => ⟨by omega, fun j' hj => ?_⟩, fun h => ⟨by omega, fun j' hj => ?_⟩⟩
  · by_cases e : j' = j
    · subst e; exact ⟨by omega, fun U => by omega⟩
    · have := h2 j' (by omega); exact ⟨by omega, fun U => by omega⟩
  · by_cases e : j' = j
    · subst e; exact ⟨by omega, fun U => by omega⟩
    · exact h2 j' (by omega)
structure MM (name lid : String) (op : CmpOp) (s : Int) : Prop where
  nm : (toString name ++ toString ".loop" : String) = lid
  en : entryFor table lid = some (mmB name op)
  pl : plainId lid = true
  kn1 : builtinKind name = none
  pl1 : plainId name = true
  en1 : entryFor table name = some (mmE name)
  ar : ∀ a d v, argsOk name ⟨[a], mmKw d v⟩
  bi : ∀ d v, Builtin.Builtins.bindParams name ["key", "default"] 0 ⟨[], mmKw d v⟩ = pure [some v, some d]
  ask : ∀ {c : Cx} {g : Heap} {k : KA} {va vb : Value} {p q : Int × Int}, Gr c.w g → KC c g k → IsK g k va p → IsK g k vb q → Ans c 590 1400 g (richCompare op va vb) (.bool (decide (half p * s < half q * s)))
theorem mm_ar1 (a d v : Value) : argsOk "min" ⟨[a], mmKw d v⟩ := by unfold argsOk; kernel_rfl
theorem mm_ar2 (a d v : Value) : argsOk "max" ⟨[a], mmKw d v⟩ := by unfold argsOk; kernel_rfl
theorem MM.min : MM "min" "min.loop" .Lt 1 := ⟨by decide, by rw [← mm_min]; exact F.entry_min_loop, F.plain_min_loop, F.kind_min, F.plain_min, by rw [← mmE_min]; exact F.entry_min, mm_ar1, fun d v => rfl, fun G K a b => by
  rw [Int.mul_one, Int.mul_one]
  exact key_lt G K a b⟩
theorem MM.max : MM "max" "max.loop" .Gt (-1) := ⟨by decide, by rw [← mm_max]; exact F.entry_max_loop, F.plain_max_loop, F.kind_max, F.plain_max, by rw [← mmE_max]; exact F.entry_max, mm_ar2, fun d v => rfl, fun {c g k va vb p q} G K a b => by
  have e : decide (half p * -1 < half q * -1) = decide (half q < half p) := by rw [Bool.eq_iff_iff]; simp only [decide_eq_true_eq]; omega
  rw [e]; exact key_gt G K a b⟩
noncomputable def kfS (s : Int) (ps : List (Int × Int)) (i : Nat) : Int := keyAt ps i * s
section
variable {c : Cx} {f : Fm} {name lid : String} {op : CmpOp} {s : Int} {k : KA} {xs : List Value} {ps : List (Int × Int)} {I S l : Addr} {d : Value} {g : Heap} {vs : List (Option Value)} {led : Ledger}
noncomputable def mmJ (s : Int) (k : KA) (xs : List Value) (ps : List (Int × Int)) (I S l : Addr) (g : Heap) (vs : List (Option Value)) (led : Ledger) (m : Nat) (σ : St) : Prop :=
  Ex4 fun g' si j z => σ = ⟨g', vs, (S, IsLs si) :: (I, IsLI l j) :: led, z⟩ ∧ Sub g g' ∧ m = xs.length - j ∧ j ≤ xs.length ∧ ((j = 0 ∧ si = []) ∨ Ex2 fun i kb => BestI (kfS s ps) i j ∧ si = [xs.getD i .none, kb] ∧ IsK g' k kb (ps.getD i (0, 0)))
noncomputable def mmQ (s : Int) (xs : List Value) (ps : List (Int × Int)) (I S : Addr) (d : Value) (g : Heap) (vs : List (Option Value)) (led : Ledger) (v : Value) (σ : St) : Prop :=
  Ex3 fun g' si z => σ = ⟨g', vs, (S, IsLs si) :: (I, fun U => True) :: led, z⟩ ∧ Sub g g' ∧ ((xs.length = 0 ∧ v = d) ∨ ∃ i, BestI (kfS s ps) i xs.length ∧ v = xs.getD i .none)
theorem mm_turn (M : MM name lid op s) (hd : c.d ≤ 590) (hu : c.u ≤ 1300) (G : Gr c.w g) (K : KC c g k) (hl : ∃ o, g.get? l = some o ∧ IsLs xs o) (hx : Ths g xs ps) (m : Nat) (σ : St) (hJ : mmJ s k xs ps I S l g vs led m σ) :
    W c.up1 f (mmB name op ⟨[.ref I, .ref k.cls, .ref S], [("default", d)]⟩) σ fun fin σ' => (∃ v, fin = .done (.ret v) ∧ mmQ s xs ps I S d g vs led v σ') ∨ (fin = .again (.builtin lid ⟨[.ref I, .ref k.cls, .ref S], [("default", d)]⟩) ∧ ∃ m', m' < m ∧ mmJ s k xs ps I S l g vs led m' σ') := by
  obtain ⟨g', si, j, z, rfl, S1, rfl, hj, hB⟩ := hJ
  have hl' : ∃ o, g'.get? l = some o ∧ IsLs xs o := let ⟨o, e, q⟩ := hl; ⟨o, S1 _ _ e, q⟩
  show W c.up1 f (seqItems? (.ref S) >>= _) _ _
  refine W.bind (W_seqI (.inr (.head _)) ?_)
  show W c.up1 f (tryCatch (pyNext (.ref I)) _ >>= _) _ _
  by_cases hlt : j < xs.length
  · obtain ⟨p, hp, ht⟩ := hx.2 j _ (List.getElem?_eq_getElem hlt)
    have ev : xs[j]? = some (xs.getD j .none) := by simp [hlt]
    have et : xs[j] = xs.getD j .none := by simp [hlt]
    rw [et] at ht
    generalize xs.getD j .none = v at ev et ht
    have ht := ht.sub S1
    obtain ⟨t, rfl⟩ : ∃ t, v = .ref t := let ⟨_, _, a, _, e, _⟩ := ht; ⟨a, e⟩
    refine W.bind (W_try (W_nextL hl' (.there .here) ev ?_))
    show W c.up1 f (tryCatch (holding [.ref t] (call (.ref k.cls) [.ref t])) _ >>= _) _ _
    refine W.bind (W_try (W.hold (L_callK (k := k) (c := c.up1) (Nat.le_trans hd (by decide)) ⟨K.gen, K.kw.sub S1⟩ fun a g2 S2 hI => ?_)))
    have hk : IsK g2 k (.ref a) p := ⟨a, t, rfl, hI, ht.sub S2⟩
    have hpd : ps.getD j (0, 0) = p := by unfold List.getD; rw [hp]; rfl
    have ev2 : xs.getD j .none = .ref t := by unfold List.getD; rw [ev]; rfl
    have fin : ∀ si z, (Ex2 fun i kb => BestI (kfS s ps) i (j + 1) ∧ si = [xs.getD i .none, kb] ∧ IsK g2 k kb (ps.getD i (0, 0))) →
      W c.up1 f (pure (PySem.Fin.again (.builtin lid ⟨[.ref I, .ref k.cls, .ref S], [("default", d)]⟩)) : Sem PySem.Fin) ⟨g2, vs, (S, IsLs si) :: (I, IsLI l (j + 1)) :: led, z⟩ fun fin σ' => (∃ v, fin = .done (.ret v) ∧ mmQ s xs ps I S d g vs led v σ') ∨ (fin = .again (.builtin lid ⟨[.ref I, .ref k.cls, .ref S], [("default", d)]⟩) ∧ ∃ m', m' < xs.length - j ∧ mmJ s k xs ps I S l g vs led m' σ') :=
      fun si z hB => W.pure (.inr ⟨rfl, xs.length - (j + 1), by omega, g2, si, j + 1, z, rfl, S1.trans S2, rfl, hlt, .inr hB⟩)
    rcases hB with ⟨(rfl), (rfl)⟩ | ⟨i, kb, hb, (rfl), hk0⟩
    · show W c.up1 f (updateSeq S (fun U => #[.ref t, .ref a]) >>= _) _ _
      refine W.bind (W_updS .here (ys := [.ref t, .ref a]) rfl (by simp) (by simp) ?_)
      rw [M.nm]
      have b0 : BestI (kfS s ps) 0 (0 + 1) := ⟨Nat.zero_lt_succ _, fun j' h => by
        have e : j' = 0 := by omega
        subst e
        exact ⟨Int.le_refl _, fun h => absurd h (by omega)⟩⟩
      exact fin _ _ ⟨0, .ref a, b0, by rw [ev2], by rw [hpd]; exact hk⟩
    · have G2 := G.sub (S1.trans S2)
      have A : Ans c.up1 c.up1.d c.up1.u g2 (richCompare op (.ref a) kb) _ := (M.ask (c := c) G2 (K.sub (S1.trans S2)) hk (hk0.sub S2)).mono hd (Nat.le_trans (Nat.succ_le_succ hu) (by decide))
      show W c.up1 f (tryCatch (holding [.ref t, .ref a] (richCompare op (.ref a) kb >>= _)) _ >>= _) _ _
      refine W.bind (W_try (W.hold (W.bind (W_ans A.toP fun b e => ?_))))
      subst e
      refine W.bind (W.hold (W_truthB (W.bind (W_letGo (W.pure ?_)))))
      have hkf : kfS s ps j = half p * s := by unfold kfS keyAt; rw [hpd]
      have hki : kfS s ps i = half (ps.getD i (0, 0)) * s := rfl
      by_cases hlt2 : half p * s < half (ps.getD i (0, 0)) * s
      · rw [decide_eq_true hlt2]
        simp only [if_true]
        refine W.bind (W_updS .here (ys := [.ref t, .ref a]) rfl (by simp) (by simp) (W.bind (W_letGo ?_)))
        rw [M.nm]
        exact fin _ _ ⟨j, .ref a, hb.next.1 (by rw [hkf, hki]; exact hlt2), by rw [ev2], by rw [hpd]; exact hk⟩
      · rw [decide_eq_false hlt2]
        simp only [Bool.false_eq_true, if_false]
        refine W.bind (W_letGo ?_)
        rw [M.nm]
        exact fin _ _ ⟨i, kb, hb.next.2 (by rw [hkf, hki]; exact hlt2), rfl, hk0.sub S2⟩
  · obtain rfl : j = xs.length := by omega
    refine W.bind (W_try (W_nextE hl' (.there .here) ?_))
    rcases hB with ⟨h0, (rfl)⟩ | ⟨i, kb, hb, (rfl), hk⟩
    · refine W.bind (W_rule (W.pure (.inl ⟨d, rfl, g', [], _, rfl, S1, .inl ⟨h0, rfl⟩⟩)))
    · show W c.up1 f (updateSeq S (fun U => #[]) >>= _) _ _
      refine W.bind (W_updS .here (ys := []) rfl (by simp) (by simp) (W.bind (W_letGo (W.pure (.inl ⟨_, rfl, g', [], _, rfl, S1, .inr ⟨i, hb, rfl⟩⟩)))))

noncomputable def LoopOk (c : Cx) (f : Fm) (co : Code) (σ : St) (Q : Value → St → Prop) : Prop :=
  ∀ (A : Around) (R : Result → Shared → Prop) (h : Heap) (tk : Nat), Rk c A → At c f σ h → (∀ v s', Pst c f σ h Q v s' → R (.ok (.ret v)) s') → codeAny (model c.prog c.w) A co R (mk c.s h tk)
theorem W_callL {id : String} {b : Builtin} {args : List Value} {kw : List (Str × Value)} {σ : St} {Q : Value → St → Prop} (hk : builtinKind id = none) (hp : plainId id = true) (hb : entryFor table id = some b) (ha : argsOk id ⟨args, kw⟩)
    (x : W c.up1 f (b ⟨args, kw⟩) σ fun fin σ' => ∃ co, fin = .again co ∧ co.quiet = true ∧ LoopOk c f co σ' Q) : W c f (call (.builtin id) args kw) σ Q := by
  intro A E h tk r a
  refine kmk_tree hk hp hb ha (wpAny_mono (x A.in1 E h tk r.in1 a.u1) (fun fin s' p => ?_) fun U U e => e)
  obtain ⟨σ', h', tk', rfl, a', m', co, rfl, hq, L⟩ := p
  refine ⟨hq, L A _ h' tk' r a'.d1 fun v s' p => ?_⟩
  obtain ⟨σ2, h2, tk2, rfl, a2, m2, q2⟩ := p
  exact ⟨σ2, h2, tk2, rfl, a2, m'.trans m2, q2⟩
theorem W_mm {z : Option Nat} (M : MM name lid op s) (hd : c.d ≤ 590) (hu : c.u ≤ 1300) (G : Gr c.w g) (K : KC c g k) (hl : ∃ o, g.get? l = some o ∧ IsLs xs o) (hx : Ths g xs ps) {Q : Value → St → Prop}
    (q : ∀ S v σ, mmQ s xs ps I S d g vs led v σ → Q v σ) : W c f (call (.builtin name) [.ref I] (mmKw d (.ref k.cls))) ⟨g, vs, (I, IsLI l 0) :: led, z⟩ Q := by
  refine W_callL M.kn1 M.pl1 M.en1 (M.ar _ _ _) ?_
  show W c.up1 f (Builtin.Builtins.bindParams name ["key", "default"] 0 ⟨[], mmKw d (.ref k.cls)⟩ >>= _) _ _
  rw [M.bi]
  refine W.bind (W.pure ?_)
  refine W.bind (W.pure ?_)
  refine W.bind (L_iterI (.head _) (W.bind (W_newList (Nat.zero_le _) fun S U U => ?_)))
  rw [M.nm]
  refine W.pure ⟨_, rfl, plainId_quiet M.pl _, fun A R h tk r a kk => ?_⟩
  exact W_bloop M.en M.pl (mmJ s k xs ps I S l g vs led) (mm_turn (d := d) M hd hu G K hl hx) (xs.length - 0) _ ⟨g, [], 0, _, rfl, Sub.refl _, rfl, Nat.zero_le _, .inl ⟨rfl, rfl⟩⟩ A R h tk r a fun v s' p => kk v s' (p.mono fun v σ' _ h => q S v σ' h)
end
section
variable {c : Cx} {f : Fm} {σ : St} {α : Type}
theorem W_truthL {l : Addr} {xs : List Value} {Q : Bool → St → Prop} (hl : Lst σ l xs) (hz : xs.length ≤ 1000) (q : Q (!xs.isEmpty) σ) : W c f (truthy (.ref l)) σ Q := by
  intro A E h tk r a
  refine wpAny_truthy_list (s := mk c.s h tk) (IsLs.isList (hl.at a)) (by simp; omega) ?_
  have e : xs.toArray.isEmpty = xs.isEmpty := by cases xs <;> rfl
  rw [e]
  exact ⟨σ, h, _, rfl, a, .refl, q⟩
theorem W_isS {x : Addr} {Q : Value → St → Prop} (q : Q (.bool true) σ) : W c f (compareOp .Is (.ref x) (.ref x)) σ Q := fun U U U U U a => wpAny_is_ref_self (.here a q)
theorem W_isO {x y : Addr} {ox oy : Obj} {Q : Value → St → Prop} (hxy : x ≠ y) (hx : σ.g.get? x = some ox) (hy : σ.g.get? y = some oy) (hnt : ox.cls ≠ .type "tuple") (q : Q (.bool false) σ) : W c f (compareOp .Is (.ref x) (.ref y)) σ Q :=
  fun U U h tk U a => wpAny_is_ref_other (s := mk c.s h tk) hxy (a.hp.sub _ _ hx) (a.hp.sub _ _ hy) hnt (.here a q)
theorem W_isN {x : Addr} {Q : Value → St → Prop} (q : Q (.bool false) σ) : W c f (compareOp .Is (.ref x) .none) σ Q := fun U U U U U a => is_ref_none (.here a q)
theorem L_itemT {T : Addr} {vals : List Value} {o : Obj} {k : Nat} {u : Tok} {Q : Value → St → Prop} (hT : σ.g.get? T = some o) (ho : IsT vals o) (hk : k < vals.length) (hz : vals.length ≤ 1000) (q : Q (vals.getD k .none) σ) :
    ∀ value slice, subscripted slice false (.ref T) (.int (k : Nat) u) = operate [.ref T, .int (k : Nat) u] (getItem (.ref T) (.int (k : Nat) u)) → W c f (subscriptTail value slice (.ref T) (.int (k : Nat) u)) σ Q := by
  intro value slice hs A E h tk r a
  unfold IsT at ho
  subst ho
  have X : IsTup h T vals.toArray := ⟨_, a.hp.sub _ _ hT, rfl, _, rfl⟩
  refine tail_any (s := mk c.s h tk) X.typeIs F.slot_tuple_getitem.lookup (getItem_tuple (s := mk c.s h tk) (j := k) (x := vals.getD k .none) X (by omega) (by omega) ?_ (by simp [hk]) (.here a q)) hs
  unfold seqIndex?
  simp
  omega
theorem L_addL {l b : Addr} {vs ws : List Value} {Q : Value → St → Prop} (hl : Lst σ l vs) (hb : Lst σ b ws) (hz : vs.length + ws.length ≤ 1000) (q : ∀ D, σ.g.get? D = none → Q (.ref D) { σ with led := (D, IsLs (vs ++ ws)) :: σ.led, sz := none }) :
    W c f (binaryOp .Add (.ref l) (.ref b)) σ Q := by
  intro A E h tk r a
  obtain ⟨⟨cls, dd, data, sl⟩, ho, hc, hdd, n, hd⟩ := hl.at a
  obtain ⟨⟨cls2, dd2, data2, sl2⟩, ho2, hc2, hdd2, n2, hd2⟩ := hb.at a
  simp only at hc hd hc2 hd2
  subst hc hd hc2 hd2
  have e : vs.toArray ++ ws.toArray = (vs ++ ws).toArray := by simp
  refine concat_meets (s := mk c.s h tk) ⟨_, ho, rfl⟩ ⟨_, ho2, rfl⟩ noFill_list_add seq_list_add PySem.F.slot_list_add PySem.F.entry_list_add (PySem.F.args_list_add_2 _ _) (list_addW l b vs.toArray ws.toArray n n2 dd dd2 sl sl2 (Nat.le_trans (by simpa using hz) (by decide))) ⟨ho, ho2, ?_⟩
  rw [e]
  refine Pst.newL a (Sub.push _ _) (Heap.get?_none_of_le (Nat.le_refl _)) (Heap.get?_push_size _ rfl) ⟨rfl, rfl, _, rfl⟩ (q _ ?_)
  cases e : σ.g.get? h.objs.size with
  | none => rfl
  | some o => exact absurd (Heap.lt_size (a.hp.sub _ _ e)) (Nat.lt_irrefl _)
theorem Plain.kcls {g : Heap} {k : KA} (K : KW c.w g k) : Plain c g (.ref k.cls) := by
  intro A E st pos env e rest Q r he hp x
  obtain ⟨cont, t1, t2, hC⟩ := K.cls
  rw [he] at x ⊢
  have hst : ((backTo pos ((false, eval e env) :: starEach rest env)).any (fun x => x.fst) || ([] : List (Option Str × Sem Value)).any fun x => x.fst.isNone) = false := by
    show ((false || (backTo pos (starEach rest env)).any (·.1)) || false) = false
    rw [hp]; rfl
  unfold callWith
  refine wpAny_bind (wpAny_holding (Calls.evalArgs_plain (wpAny_mono x (fun vs s₁ h₁ => ?_) fun U U x => x)))
  obtain ⟨hh, gg, d, t, os⟩ := s₁
  have hC := h₁.1 _ _ hC
  unfold xCls at hC
  have f1 := tc_lookup
  have hT : (⟨hh, gg, d, t, os⟩ : Shared).TypeIs (.ref k.cls) "type" := ⟨_, hC, rfl⟩
  refine wpAny_bind (wpAny_standAt ?_)
  show wpAny _ _ (keeperOf (.ref k.cls) >>= _) _ _ _
  unfold keeperOf specialOf
  repeat (any_goals (first | assumption | with_reducible refine wpAny_loadPart_at hC ?_ | with_reducible refine wpAny_load' hC ?_ | wp_step))
  rw [if_pos (by rfl), hst]
  show wpAny _ _ (call (.ref k.cls) vs [] >>= fun r => do holding [r] point; pure r) _ _ _
  exact wpAny_bind (wpAny_mono h₁.2 (fun r s' hr => wpAny_bind (wpAny_holding (wpAny_point (wpAny_pure hr)))) fun U U x => x)
end
end
section
open _root_.PySem _root_.PySem.W _root_.PySem.W.X _root_.PySem.Calls PyProof.Rows
set_option maxRecDepth 100000
section
local macro_rules | `(tactic| x_close) => `(tactic| (refine kp_end (by assumption) ⟨_, { cls := .type "object" }, rfl, Mem.at (by assumption) 0 _ _ rfl, rfl, ?_⟩; exact mem_fresh (by assumption) 0 _ _ rfl))
theorem runObj {prog : Program} {w : World} {h : Heap} {dr : Drawn} {t0 : Nat} {os : OsState} (X : Frag.In (frX w.params) h) :
   wpAny (model prog w) (AA 600 1500) (call (.type "object") []) (KP (fun v h' => Ex2 fun a o => v = .ref a ∧ h'.get? a = some o ∧ o.cls = .type "object" ∧ h.get? a = none) h dr os) (fun U U => False) ⟨h, #[], dr, t0, os⟩ := by
  x_run
end
theorem L_object {c : Cx} {f : Fm} {σ : St} {Q : Value → St → Prop} (hd : c.d ≤ 600) (hu : c.u ≤ 1500) (hg : c.s.gens = #[]) (q : ∀ a g' o, Sub σ.g g' → σ.g.get? a = none → g'.get? a = some o → o.cls = .type "object" → Q (.ref a) { σ with g := g', sz := none }) :
    W c f (call (.type "object") []) σ Q := by
  intro A E h tk r at0
  have z := wpAny_lift (runObj (prog := c.prog) (dr := c.s.drawn) (t0 := tk) (os := c.s.os) (fr_in at0.hp.gr at0.hp.sub)) (aa_in (r.rm.mono hd hu))
  have e0 : mk c.s h tk = ⟨h, #[], c.s.drawn, tk, c.s.os⟩ := by unfold mk; rw [hg]
  rw [e0]
  refine wpAny_mono z (fun v s' p => ?_) fun U U p => p.elim
  obtain ⟨h', tk', rfl, S, a, o, rfl, eo, ho, hn⟩ := p
  have hga : σ.g.get? a = none := by
    cases e : σ.g.get? a with
    | none => rfl
    | some o => have := at0.hp.sub _ _ e; rw [hn] at this; cases this
  refine ⟨{ σ with g := more σ.g h' [a], sz := none }, h', tk', ?_, ⟨at0.hp.newG S (none_one hn) (fun U e => nomatch e), at0.fr.keep fun b U o e => S b o e⟩, Mv.newG at0.hp S (none_one hn), q a _ o (more_sub (at0.hp.sub.trans S)) hga (more_at eo (.head _)) ho⟩
  unfold mk; rw [hg]
theorem IterT_tupsD {c : Cx} {f : Fm} {σ : St} {l : Addr} {xs : List Value} (D : Ledger) (hD : (∃ o, σ.g.get? l = some o) ∨ l ∈ adr D) (hl : ∀ h, At c f { σ with led := D ++ σ.led } h → ∃ o, h.get? l = some o ∧ IsLs xs o) (Ts : Nat → Addr) (vals : Nat → List Value)
    (ht : ∀ i, i < xs.length → xs[i]? = some (.ref (Ts i)) ∧ ∃ o, σ.g.get? (Ts i) = some o ∧ IsT (vals i) o) :
    IterT c f σ D (.ref l) xs.length (fun i a => a = (vals i).toArray) [] := by
  intro A E h tk Q r a k
  obtain ⟨o, e, q⟩ := hl h a
  have hg : ∀ b o, σ.g.get? b = some o → h.get? b = some o := a.hp.sub
  have ne : ∀ b o, h.get? b = some o → b ≠ h.objs.size := fun b o e => Nat.ne_of_lt (Heap.lt_size e)
  have hL : h.IsList l xs.toArray := IsLs.isList ⟨o, e, q⟩
  have hsz : xs.toArray.size = xs.length := List.size_toArray ..
  have W := WalksU.listOfTuples (prog := c.prog) (w := c.w) (A := A) r.none h.objs.size l (ne _ _ e) xs.toArray Ts (fun i => (vals i).toArray) (fun j hj => by simpa using (ht j (by simpa using hj)).1) fun j hj => let ⟨_, o, e, _⟩ := ht j (by simpa using hj); ne _ _ (hg _ _ e)
  rw [hsz] at W
  have S : Sub h (h.push { cls := .type "list_iterator", data := .fields #[.ref l, .int 0 0] }) := Sub.push _ _
  refine wpAny_pyIter_list (s := mk c.s h tk) hL (k _ _ _ _ _ _ tk (WkT.of W) ⟨⟨_, Heap.get?_push_size _ rfl, rfl, rfl⟩, hL.push _, fun j hj => ?_⟩ S (fun b hb => ?_) (fun b hb => ?_) fun i h' st b hb => ?_)
  · obtain ⟨U, o, e, p⟩ := ht j (by omega)
    exact p.isTuple (a.hp.sub.trans S) e
  · rcases List.mem_cons.mp hb with rfl | hb
    · exact .inr (.inl (Heap.get?_none_of_le (Nat.le_refl _)))
    · rcases List.mem_cons.mp hb with rfl | hb
      · exact hD.imp id .inr
      · obtain ⟨j, hj, rfl⟩ := List.mem_map.mp hb
        obtain ⟨U, o, e, p⟩ := ht j (List.mem_range.mp hj)
        exact .inl ⟨o, e⟩
  · rw [List.mem_singleton.mp hb]; exact .inl (Heap.get?_none_of_le (Nat.le_refl _))
  · rcases List.mem_cons.mp hb with rfl | hb
    · obtain ⟨o, e, U⟩ := st.1; exact ⟨o, e⟩
    · rcases List.mem_cons.mp hb with rfl | hb
      · obtain ⟨o, e, U⟩ := st.2.1; exact ⟨o, e⟩
      · obtain ⟨j, hj, rfl⟩ := List.mem_map.mp hb
        obtain ⟨o, e, U⟩ := st.2.2 j (by have := List.mem_range.mp hj; omega)
        exact ⟨o, e⟩
theorem IterT_tups {c : Cx} {f : Fm} {σ : St} {l : Addr} {xs : List Value} (hl : ∃ o, σ.g.get? l = some o ∧ IsLs xs o) (Ts : Nat → Addr) (vals : Nat → List Value) (ht : ∀ i, i < xs.length → xs[i]? = some (.ref (Ts i)) ∧ ∃ o, σ.g.get? (Ts i) = some o ∧ IsT (vals i) o) :
    IterT c f σ [] (.ref l) xs.length (fun i a => a = (vals i).toArray) [] :=
  IterT_tupsD [] (let ⟨o, e, _⟩ := hl; .inl ⟨o, e⟩) (fun h a => let ⟨o, e, q⟩ := hl; ⟨o, a.hp.sub _ _ e, q⟩) Ts vals ht
theorem IterT_tupsL {c : Cx} {f : Fm} {σ : St} {l : Addr} {xs : List Value} (Ts : Nat → Addr) (vals : Nat → List Value) (ht : ∀ i, i < xs.length → xs[i]? = some (.ref (Ts i)) ∧ ∃ o, σ.g.get? (Ts i) = some o ∧ IsT (vals i) o) :
    IterT c f σ [(l, IsLs xs)] (.ref l) xs.length (fun i a => a = (vals i).toArray) [] :=
  IterT_tupsD [(l, IsLs xs)] (.inr (.head _)) (fun h a => a.hp.ld _ (.head _)) Ts vals ht
end
section
open _root_.PySem _root_.PySem.W _root_.PySem.Calls PyProof.Rows
set_option maxRecDepth 100000
structure Dr where
  rg : PE
  hA : Addr
  rA : Addr
  o0 : PE
  ta : PE
  tb : PE
  op : Operator
  rev : Bool
noncomputable def zipE (D : Dr) : PE := .compT [(".0", .local), ("i", .local), ("elem", .local), ("key", .free)] [none, none, none, some 2] (.tup (.cons (.call (.v 3) (.cons (.v 2) .nil)) (.cons (.v 1) (.cons (.v 2) .nil)))) [1, 2]
  (.call (.g (.type "zip")) (.cons (.call (.g (.type "range")) D.rg) (.cons (.v 3) .nil)))
theorem size_rg {s n : Int} (hs : s = 1 ∨ s = -1) (h0 : -1 ≤ n) (h5 : n ≤ 5) : Builtin.Range.small 0 (n * s) s = true ∧ (Builtin.Range.rangeSize 0 (n * s) s).toNat = n.toNat := by
  have : n = -1 ∨ n = 0 ∨ n = 1 ∨ n = 2 ∨ n = 3 ∨ n = 4 ∨ n = 5 := by omega
  rcases hs with rfl | rfl <;> rcases this with rfl | rfl | rfl | rfl | rfl | rfl | rfl <;> decide
section
variable {c : Cx} {f : Fm} {s : Int} {k : KA} {L : List Th} {l I : Addr} {g : Heap}
noncomputable def TupsG (s : Int) (g : Heap) (k : KA) (L : List Th) (m : Nat) (ts : List Value) : Prop := ts.length = m ∧ ∀ i, i < m → ∃ t, L[i]? = some t ∧ TupK g k (ts.getD i .none) t.2 ((i : Nat) * s) t.1
theorem TupsG.sub {g g' : Heap} {m : Nat} {ts : List Value} (x : TupsG s g k L m ts) (S : Sub g g') : TupsG s g' k L m ts := ⟨x.1, fun i hi => let ⟨t, a, b⟩ := x.2 i hi; ⟨t, a, b.sub S⟩⟩
theorem TupsG.snoc {g : Heap} {m : Nat} {ts : List Value} {v : Value} {t : Th} (x : TupsG s g k L m ts) (e : L[m]? = some t) (h : TupK g k v t.2 ((m : Nat) * s) t.1) : TupsG s g k L (m + 1) (ts ++ [v]) := by
  refine ⟨by simp [x.1], fun i hi => ?_⟩
  by_cases h1 : i < m
  · obtain ⟨t', a, b⟩ := x.2 i h1
    have : (ts ++ [v]).getD i .none = ts.getD i .none := by unfold List.getD; rw [List.getElem?_append_left (by rw [x.1]; exact h1)]
    rw [this]; exact ⟨t', a, b⟩
  · obtain rfl : i = m := by omega
    have : (ts ++ [v]).getD i .none = v := by unfold List.getD; rw [List.getElem?_append_right (by rw [x.1]; exact Nat.le_refl _), x.1]; simp
    rw [this]; exact ⟨t, e, h⟩
theorem k_zip (hs : s = 1 ∨ s = -1) {D : Dr} (hd : c.d ≤ 500) (hu : c.u ≤ 1000) {n : Int} {tn : Tok} (h0 : -1 ≤ n) (h5 : n ≤ 5) (K : KC c g k) (hl : ∃ o, g.get? l = some o ∧ IsLs (L.map (·.1)) o) (hT : ThsG g L) {v1 : Value} {vr : List (Option Value)} {z : Option Nat} {Q : Value → St → Prop}
    (hrg : ∀ σ Q', (σ.vs[0]?).join = some (.int n tn) → (∀ r0, Q' (.ref r0) { σ with led := (r0, IsR3 0 (n * s) s) :: σ.led, sz := none }) → wpE c f (.call (.g (.type "range")) D.rg) σ Q')
    (q : ∀ g' acc r0 ts z, Sub g g' → TupsG s g' k L (min n.toNat L.length) ts → Q (.ref acc) ⟨g', some (.int n tn) :: some v1 :: some (.ref k.cls) :: some (.ref I) :: vr, [(I, IsLE l (L.map (·.1)).toArray (min n.toNat L.length)), (acc, IsLs ts), (r0, IsR3 0 (n * s) s)], z⟩) :
    wpE c f (zipE D) ⟨g, some (.int n tn) :: some v1 :: some (.ref k.cls) :: some (.ref I) :: vr, [(I, IsLI l 0)], z⟩ Q := by
  unfold zipE
  refine e_compT (e_call (e_g (k_callT (l_cons (hrg _ _ rfl fun r0 => ?_)))))
  repeat walk_at "w"
  obtain ⟨hsm, hsz⟩ := size_rg hs h0 h5
  refine L_zip hsm (.head _) (.tail _ (.head _)) fun U TI TO r g1 S1 hTI => ?_
  have hl1 : ∃ o, g1.get? l = some o ∧ IsLs (L.map (·.1)) o := let ⟨o, e, p⟩ := hl; ⟨o, S1 _ _ e, p⟩
  refine ⟨[(U, IsZp TI TO), (TO, _), (r, IsRI 0 _ s), (I, IsLI l 0)], [(r0, IsR3 0 (n * s) s)], _, _, _, .cons _ (.cons _ (.cons _ (.swap _ _ _))), IterT_zr hl1 hTI, fun f1 acc U U => ⟨fun m σ => Ex5 fun g' b1 b2 ts z => σ = ⟨g', [none, b1, b2, some (.ref k.cls)], [(acc, IsLs ts), (r0, IsR3 0 (n * s) s)], z⟩ ∧ Sub g g' ∧ TupsG s g' k L m ts,
    Frz.now fun g' S => ⟨g', none, none, [], _, rfl, S1.trans S, rfl, fun i hi => absurd hi (Nat.not_lt_zero _)⟩, ?_, ?_⟩⟩
  · rintro m U U hm ⟨t, y, hy, rfl⟩ S' ⟨g', b1, b2, ts, z, rfl, S, hts⟩
    refine ⟨rfl, ?_⟩
    rw [Nat.zero_add, List.getElem?_map] at hy
    obtain ⟨th, e1, rfl⟩ := Option.map_eq_some_iff.mp hy
    have ht := (hT th (List.mem_of_getElem? e1)).sub S
    obtain ⟨a, ea⟩ : ∃ a, th.1 = .ref a := let ⟨_, _, a, _, e, _⟩ := ht; ⟨a, e⟩
    rw [ea]
    repeat walk_at "w"
    refine ⟨fun U => Plain.kcls (K.kw.sub S), ?_⟩
    repeat walk_at "w"
    refine L_callK (k := k) (by omega) (K.sub S) fun kv g2 S2 hI => ?_
    repeat walk_at "w"
    refine W_newTuple (by show (3 : Nat) ≤ _; decide) fun g3 T o S3 U eT hTo => ?_
    have hts5 : ts.length ≤ 5 := by rw [hts.1]; omega
    refine L_app LU.here (by omega) ?_
    refine Frz.now fun g4 S4 => ⟨g4, _, _, _, _, rfl, S.trans (S2.trans (S3.trans S4)), (hts.sub (S2.trans (S3.trans S4))).snoc e1 ⟨T, .ref kv, t, rfl, ⟨o, S4 _ _ eT, ?_⟩, ⟨kv, a, rfl, ?_, ?_⟩, ?_⟩⟩
    · rw [Int.zero_add] at hTo; rw [ea]; exact hTo
    · exact hI.sub (S3.trans S4)
    · rw [← ea]; exact ht.sub (S2.trans (S3.trans S4))
    · exact ht.sub (S2.trans (S3.trans S4))
  · rintro _ S' ⟨g', b1, b2, ts, z, rfl, S, hts⟩
    rw [hsz, Nat.sub_zero, List.length_map] at hts
    have z := q g' acc r0 ts none S hts
    rw [hsz, Nat.sub_zero, List.length_map, Nat.zero_add]
    exact z
end
noncomputable abbrev ltq (s : Int) (g : Heap) (k : KA) : Value → Value → Bool := fun x y => decide (qk s g k x < qk s g k y)
theorem TupsG.at {s : Int} {g : Heap} {k : KA} {L : List Th} {m : Nat} {ts : List Value} (x : TupsG s g k L m ts) {v : Value} (h : v ∈ ts) : Ex2 fun i t => i < m ∧ L[i]? = some t ∧ TupK g k v t.2 ((i : Nat) * s) t.1 := by
  obtain ⟨i, hi, e⟩ := List.mem_iff_getElem.mp h
  obtain ⟨t, a, b⟩ := x.2 i (by rw [← x.1]; exact hi)
  rw [getD_eq hi, e] at b
  exact ⟨i, t, by rw [← x.1]; exact hi, a, b⟩
theorem InOrd.lt {L : List Th} (x : InOrd L) {i j : Nat} {a b : Th} (hij : i < j) (ha : L[i]? = some a) (hb : L[j]? = some b) (e : half a.2 = half b.2) : a.2.2 < b.2.2 := by
  obtain ⟨hi, rfl⟩ := List.getElem?_eq_some_iff.mp ha
  obtain ⟨hj, rfl⟩ := List.getElem?_eq_some_iff.mp hb
  exact List.pairwise_iff_getElem.mp x i j hi hj hij e
theorem HL.start {s : Int} (hs : s = 1 ∨ s = -1) {g : Heap} {k : KA} {L : List Th} {m n : Nat} {ts : List Value} (hI : InOrd L) (x : TupsG s g k L m ts) (h0 : 0 < m) (h5 : m ≤ 5) (hmn : m ≤ n) (hmL : m ≤ L.length) :
    Hv s g k (L.take m) ts n ∧ HL s g k n (L.take m) (hfy (upM (ltq s g k)) (pkM (ltq s g k)) ts) n := by
  have H : Hv s g k (L.take m) ts n := by
    refine ⟨fun v h => ?_, fun v h w h' p q o1 o2 t1 t2 a b e => ?_⟩
    · obtain ⟨i, t, hi, e, a⟩ := x.at h
      refine ⟨_, _, i, a, by omega, ?_⟩
      refine List.mem_of_getElem? (i := i) ?_
      rw [List.getElem?_take, if_pos hi, e]
    · obtain ⟨i, ti, hi, ei, ai⟩ := x.at h
      obtain ⟨j, tj, hj, ej, aj⟩ := x.at h'
      obtain ⟨rfl, rfl, rfl⟩ := ai.fn a
      obtain ⟨rfl, rfl, rfl⟩ := aj.fn b
      rw [mulss hs, mulss hs]
      rcases Nat.lt_trichotomy i j with hij | hij | hij
      · have := hI.lt hij ei ej e; omega
      · subst hij; rw [ei] at ej; cases ej; omega
      · have := hI.lt hij ej ei e.symm; omega
  have hP : ts.map (thO g k) = L.take m := by
    refine List.ext_getElem (by rw [List.length_map, x.1, List.length_take]; omega) fun i h1 h2 => ?_
    rw [List.length_map, x.1] at h1
    obtain ⟨t, a, b⟩ := x.2 i h1
    rw [getD_eq (by rw [x.1]; exact h1)] at b
    rw [List.getElem_map, thO_of b, List.getElem_take]
    exact (List.getElem?_eq_some_iff.mp a).2.symm
  have hp : (hfy (upM (ltq s g k)) (pkM (ltq s g k)) ts).Perm ts := hfy_perm
  refine ⟨H, H.mem fun v h => hp.mem_iff.mp h, ?_, hfyM fun U U => rfl⟩
  have hI' : InOrd (L.take m) := hI.sublist (List.take_sublist _ _)
  refine TopN.start (L := isort (lt2 s) (L.take m)) isort_perm (isort_sorted (lt2_good hs) hI'.nodup (lt2_tot hs hI')) (by rw [List.length_take]; omega) ?_
  have := hp.map (thO g k)
  rwa [hP] at this
structure DrOk (D : Dr) (s : Int) : Prop where
  rg : ∀ {c : Cx} {f : Fm} {σ : St} {Q : Value → St → Prop} {n : Int} {tn : Tok}, -1 ≤ n → n ≤ 5 → (σ.vs[0]?).join = some (.int n tn) → (∀ r0, Q (.ref r0) { σ with led := (r0, IsR3 0 (n * s) s) :: σ.led, sz := none }) → wpE c f (.call (.g (.type "range")) D.rg) σ Q
  pl : ∀ {c : Cx} {g : Heap}, Gr c.w g → Plain c g (.ref D.hA) ∧ Plain c g (.ref D.rA)
  hfy : ∀ {c : Cx} (_ : c.d ≤ 320) (_ : c.u ≤ 100) {l : Addr} {xs : List Value} {g : Heap} {sz : Option Nat} {k : KA}, (∀ x ∈ xs, ∀ y ∈ xs, LtIs c.prog c.w c.s 400 1000 g x y (decide (qk s g k x * s < qk s g k y * s))) → xs.length < 1000 →
    Fn c (.ref D.hA) [.ref l] g [(l, IsLs xs)] sz fun r g' m' z' => m' = [(l, IsLs (Mine.hfy (upM (ltq s g k)) (pkM (ltq s g k)) xs))]
  rep : ∀ {c : Cx} (_ : c.d ≤ 320) (_ : c.u ≤ 100) {l : Addr} {xs : List Value} {v : Value} {g : Heap} {sz : Option Nat} {k : KA}, (∀ x ∈ v :: xs, ∀ y ∈ v :: xs, LtIs c.prog c.w c.s 400 1000 g x y (decide (qk s g k x * s < qk s g k y * s))) → 0 < xs.length → xs.length < 1000 →
    Fn c (.ref D.rA) [.ref l, v] g [(l, IsLs xs)] sz fun r g' m' z' => m' = [(l, IsLs (su (upM (ltq s g k)) (pkM (ltq s g k)) (xs.set 0 v) 0))]
  o0 : ∀ {c : Cx} {f : Fm} {σ : St} {Q : Value → St → Prop} {n : Int} {tn : Tok}, (σ.vs[0]?).join = some (.int n tn) → (∀ t, Q (.int (n * s) t) σ) → wpE c f D.o0 σ Q
  tst : ∀ {c : Cx} {f : Fm} {σ : St} {Q : Bool → St → Prop} {k : KA} {kv tv : Value} {p q : Int × Int}, c.d ≤ 590 → c.u ≤ 1400 → Gr c.w σ.g → KC c σ.g k → (σ.vs[12]?).join = some kv → (σ.vs[8]?).join = some tv → IsK σ.g k kv p → IsK σ.g k tv q →
    Q (decide (half p * s < half q * s)) { σ with sz := none } → wpT c f (.cmp .Lt D.ta D.tb) σ Q
  op : ∀ {c : Cx} {f : Fm} {σ : St} {Q : Value → St → Prop} {o : Int} {t u : Tok}, (∀ t, Q (.int (o + s) t) σ) → W c f (inplaceOp D.op (.int o t) (.int 1 u)) σ Q
  rev : D.rev = decide (s = -1)
theorem W_isubI {c : Cx} {f : Fm} {σ : St} {x : Int} {t u : Tok} {Q : Value → St → Prop} (q : ∀ t, Q (.int (x + -1) t) σ) : W c f (inplaceOp .Sub (.int x t) (.int 1 u)) σ Q := fun U U U U U a => PyProof.Rows.isub_int (.here a (q _))
noncomputable def drS : Dr := ⟨.cons (.v 0) .nil, 42, 35, .v 0, .v 12, .v 8, .Add, false⟩
noncomputable def drL : Dr := ⟨.cons (.int 0) (.cons (.neg (.v 0)) (.cons (.neg (.int 1)) .nil)), 28, 21, .neg (.v 0), .v 8, .v 12, .Sub, true⟩
theorem drS_ok : DrOk drS 1 where
  rg {c f σ Q n tn} h0 h5 hv q := by
    refine e_call (e_g (k_callT (l_cons (e_v hv (k_l (l_nil (k_l2 (L_range fun r => ?_))))))))
    have z := q r
    rw [Int.mul_one] at z
    exact z
  pl G := ⟨(fs_42 _).plain G, (fs_35 _).plain G⟩
  hfy := fun {c} hd hu {l xs g sz k} h hz => (c_heapify_max hd hu (lt := ltq 1 g k) (fun x hx y hy => by have := h x hx y hy; rwa [Int.mul_one, Int.mul_one] at this) hz).mono fun U U U U U U q => q.2
  rep := fun {c} hd hu {l xs v g sz k} h h0 hz => c_heapreplace_max hd hu (lt := ltq 1 g k) (fun x hx y hy => by have := h x hx y hy; rwa [Int.mul_one, Int.mul_one] at this) h0 hz
  o0 hv q := e_v hv (by have := q; simp only [Int.mul_one] at this; exact this _)
  tst hd hu G K h1 h2 a b q := t_cmp (e_v h1 (k_cmp (e_v h2 (L_ltV ((key_lt G K a b).mono hd hu) (k_tr (by simp only [Int.mul_one] at q; exact q))))))
  op q := W_iaddI q
  rev := by decide
theorem ltq_neg {g : Heap} {k : KA} (x y : Value) : decide (qk (-1) g k x * -1 < qk (-1) g k y * -1) = ltq (-1) g k y x := by
  unfold ltq; rw [Bool.eq_iff_iff]; simp only [decide_eq_true_eq]; omega
theorem drL_ok : DrOk drL (-1) where
  rg {c f σ Q n tn} h0 h5 hv q := by
    refine e_call (e_g (k_callT (l_cons (e_int fun t => k_l (l_cons (e_neg (e_v hv (k_neg (W_negI fun t2 => k_l (l_cons (e_neg (e_int fun t3 => k_neg (W_negI fun t4 => k_l (l_nil (k_l2 (k_l2 (k_l2 ?_)))))))))))))))))
    have : n = -1 ∨ n = 0 ∨ n = 1 ∨ n = 2 ∨ n = 3 ∨ n = 4 ∨ n = 5 := by omega
    refine L_range3 (by decide) (by rcases this with rfl | rfl | rfl | rfl | rfl | rfl | rfl <;> decide) fun r => ?_
    have z := q r
    rw [show n * -1 = -n from by omega] at z
    exact z
  pl G := ⟨(fs_28 _).plain G, (fs_21 _).plain G⟩
  hfy := fun {c} hd hu {l xs g sz k} h hz => (c_heapify hd hu (lt := fun x y => ltq (-1) g k y x) (fun x hx y hy => by have := h x hx y hy; rwa [ltq_neg] at this) hz).mono fun U U U U U U q => q.2
  rep := fun {c} hd hu {l xs v g sz k} h h0 hz => c_heapreplace hd hu (lt := fun x y => ltq (-1) g k y x) (fun x hx y hy => by have := h x hx y hy; rwa [ltq_neg] at this) h0 hz
  o0 {c f σ Q n tn} hv q := e_neg (e_v hv (k_neg (W_negI fun t => by have z := q t; rwa [show n * -1 = -n from by omega] at z)))
  tst {c f σ Q k kv tv p q} hd hu G K h1 h2 a b z := by
    refine t_cmp (e_v h2 (k_cmp (e_v h1 (L_ltV ((key_lt G K b a).mono hd hu) (k_tr ?_)))))
    rwa [show decide (half p * -1 < half q * -1) = decide (half q < half p) from by rw [Bool.eq_iff_iff]; simp only [decide_eq_true_eq]; omega] at z
  op := fun {c f σ Q o t u} q => W_isubI q
  rev := by decide
noncomputable def TopK (g : Heap) (k : KA) (hv : List Value) (tv : Value) : Prop := Ex3 fun p th o => TupK g k (hv.getD 0 .none) p o th ∧ IsK g k tv p
theorem TopK.sub {g g' : Heap} {k : KA} {hv : List Value} {tv : Value} (x : TopK g k hv tv) (S : Sub g g') : TopK g' k hv tv := let ⟨p, th, o, a, b⟩ := x; ⟨p, th, o, a.sub S, b.sub S⟩
noncomputable def turnS (D : Dr) : PS := .seq (.asg 12 (.call (.v 2) (.cons (.v 7) .nil))) (.seq (.ifS (.cmp .Lt D.ta D.tb) (.seq (.expr (.call (.v 10) (.cons (.v 5) (.cons (.tup (.cons (.v 12) (.cons (.v 9) (.cons (.v 7) .nil)))) .nil)))) (.seq (.asgT [8, 11, 13] (.sub (.v 5) (.int 0))) (.seq (.aug 9 D.op (.int 1)) .skip))) .skip) .skip)
section
variable {c : Cx} {f : Fm} {s : Int} {k : KA} {P : List Th}
theorem k_turn (hs : s = 1 ∨ s = -1) {D : Dr} (ok : DrOk D s) (hd : c.d ≤ 320) (hu : c.u ≤ 100) {g : Heap} {n : Nat} (G : Gr c.w g) (K : KC c g k) {v0 v1 v3 v4 v6 b11 b12 b13 : Option Value} {vr : List (Option Value)} {acc : Addr} {hv : List Value} {ord : Nat} {topk : Value} {to : Tok} {e : Th}
    (hn0 : 0 < n) (hn5 : n ≤ 5) (hnP : n ≤ P.length) (hI : InOrd (P ++ [e])) (ho : ord ≤ 950) (he : ThG g e.1 e.2) (H : HL s g k n P hv ord) (ht : TopK g k hv topk) {led : Ledger} {z : Option Nat} {Q : Flow → St → Prop}
    (q : ∀ g' hv' ord' topk' to' b11 b12 b13 z', Sub g g' → HL s g' k n (P ++ [e]) hv' ord' → TopK g' k hv' topk' → ord' ≤ ord + 1 → Q .next ⟨g', (v0 :: v1 :: some (.ref k.cls) :: v3 :: v4 :: some (.ref acc) :: v6 :: some e.1 :: some topk' :: some (.int ((ord' : Nat) * s) to') :: some (.ref D.rA) :: b11 :: b12 :: b13 :: vr), (acc, IsLs hv') :: led, z'⟩) :
    wpS c f (turnS D) ⟨g, (v0 :: v1 :: some (.ref k.cls) :: v3 :: v4 :: some (.ref acc) :: v6 :: some e.1 :: some topk :: some (.int ((ord : Nat) * s) to) :: some (.ref D.rA) :: b11 :: b12 :: b13 :: vr), (acc, IsLs hv) :: led, z⟩ Q := by
  obtain ⟨a, ea⟩ : ∃ a, e.1 = .ref a := let ⟨_, _, a, _, e, _⟩ := he; ⟨a, e⟩
  have hlen : hv.length = n := by have := H.len; omega
  unfold turnS
  rw [ea] at q ⊢
  repeat walk_at "w"
  refine ⟨fun U => Plain.kcls K.kw, ?_⟩
  repeat walk_at "w"
  refine L_callK (k := k) (by omega) K fun kv g1 S1 hkI => ?_
  have he1 : ThG g1 (.ref a) e.2 := by rw [← ea]; exact he.sub S1
  have hk : IsK g1 k (.ref kv) e.2 := ⟨kv, a, rfl, hkI, he1⟩
  obtain ⟨pt, tht, ot, hroot, htk⟩ := ht.sub S1
  repeat walk_at "w"
  refine ok.tst (k := k) (p := e.2) (q := pt) (by omega) (by omega) (G.sub S1) (K.sub S1) rfl rfl hk htk ?_
  by_cases h : half e.2 * s < half pt * s
  · rw [decide_eq_true h]
    repeat walk_at "w"
    refine ⟨fun G => (ok.pl G).2, ?_⟩
    repeat walk_at "w"
    refine W_newTuple (by show (3 : Nat) ≤ _; decide) fun g2 T o S2 U eT hTo => ?_
    have hT : TupK g2 k (.ref T) e.2 ((ord : Nat) * s) e.1 := ⟨T, .ref kv, to, rfl, ⟨o, eT, by rw [ea]; exact hTo⟩, ⟨kv, a, rfl, hkI.sub S2, he1.sub S2⟩, by rw [ea]; exact he1.sub S2⟩
    obtain ⟨Hv2, HL2⟩ := (H.sub S1).lt hs hI (by omega) hn0 hn5 hnP hroot h S2 hT
    repeat walk_at "w"
    have hx : ∀ x ∈ Value.ref T :: hv, ∀ y ∈ Value.ref T :: hv, LtIs c.prog c.w c.s 400 1000 g2 x y (decide (qk s g2 k x * s < qk s g2 k y * s)) := fun x hx y hy => (Hv2.op (c := c) hs (G.sub (S1.trans S2)) (K.sub (S1.trans S2)) hI (by omega) hx hy).1.mono (by decide) (by decide)
    refine W_fn [(acc, IsLs hv)] led _ (.refl _) (ok.rep hd hu hx (by omega) (by omega)) ?_
    rintro r g3 m3 z3 S3 - rfl
    repeat walk_at "w"
    have HL3 := HL2.sub S3
    have hlen3 : (su (upM (ltq s g2 k)) (pkM (ltq s g2 k)) (hv.set 0 (.ref T)) 0).length = n := by rw [su_len, List.length_set, hlen]
    refine L_item (k := 0) (.inr (.head _)) (by rw [hlen3]; exact hn0) (by rw [hlen3]; omega) ?_
    obtain ⟨p', th', o', hr', ho', U⟩ := HL3.root (by rw [hlen3]; exact hn0)
    obtain ⟨T', kv', t', e1, ⟨ob, eT', hT'⟩, hk', ht'⟩ := id hr'
    rw [e1] at hr' ⊢
    refine ⟨T', [kv', .int ((o' : Nat) * s) t', th'], ob, rfl, eT', hT', rfl, ?_⟩
    repeat walk_at "w"
    refine p_aug (x := .int ((ord : Nat) * s) to) rfl (e_int fun t1 => ok.op fun t2 => ?_)
    have ev : ((ord : Nat) : Int) * s + s = ((ord + 1 : Nat) : Int) * s := by rw [Int.natCast_succ, Int.add_mul, Int.one_mul]
    rw [ev]
    exact q g3 _ (ord + 1) kv' t2 _ _ _ _ (S1.trans (S2.trans S3)) HL3 ⟨p', th', _, by rw [e1]; exact hr', hk'⟩ (Nat.le_refl _)
  · rw [decide_eq_false h]
    repeat walk_at "w"
    have H' := (H.sub S1).ge hs hI (by omega) hn0 hnP hroot h
    exact q _ _ _ _ _ _ _ _ _ S1 H' ⟨pt, tht, ot, hroot, htk⟩ (by omega)
end
noncomputable def tailS (D : Dr) : PS := .seq (.asgC 5 (zipE D)) (.seq (.ifS (.not (.v 5)) (.seq (.ret (.v 5)) .skip) .skip) (.seq (.expr (.call (.g (.ref D.hA)) (.cons (.v 5) .nil))) (.seq (.asg 8 (.sub (.sub (.v 5) (.int 0)) (.int 0))) (.seq (.asg 9 D.o0) (.seq (.asg 10 (.g (.ref D.rA))) (.seq (.forN 7 (.v 3) (turnS D))
  (.seq (.expr (.sort (.v 5) D.rev)) (.seq (.ret (.compT [(".0", .local), ("k", .local), ("order", .local), ("elem", .local)] [none, none, none, none] (.v 3) [1, 2, 3] (.v 5))) .skip))))))))
theorem TupK.katTups {g : Heap} {k : KA} {h : Heap} (S : Sub g h) : ∀ xs : List Value, (∀ v ∈ xs, Ex3 fun p o th => TupK g k v p o th) → ∃ fs, KatTups h xs fs ∧ fs.length = xs.length ∧ ∀ v ∈ fs, ∃ p, IsK g k v p
  | [], _ => ⟨[], KatTups.nil, rfl, fun U h => nomatch h⟩
  | v :: xs, H => by
    obtain ⟨fs, h1, h2, h3⟩ := TupK.katTups S xs fun v hv => H v (.tail _ hv)
    obtain ⟨p, o, th, a, kv, t, rfl, ⟨ob, e, ho⟩, hk, U⟩ := H v (.head _)
    unfold IsT at ho
    subst ho
    refine ⟨kv :: fs, KatTups.cons (S _ _ e) rfl rfl rfl h1, by rw [List.length_cons, List.length_cons, h2], fun u hu => ?_⟩
    rcases List.mem_cons.mp hu with rfl | hu
    · exact ⟨p, hk⟩
    · exact h3 u hu
theorem Hv.asks {c : Cx} {s : Int} (hs : s = 1 ∨ s = -1) {g : Heap} {k : KA} {P : List Th} {xs : List Value} {ord : Nat} (G : Gr c.w g) (K : KC c g k) (x : Hv s g k P xs ord) (hI : InOrd P) (ho : ord ≤ 1000) (hd : c.d ≤ 580) (hu : c.u ≤ 1390) (h2 : 2 ≤ xs.length) :
    Asks c g xs fun i => qk s g k (xs.getD i .none) * s := by
  refine ⟨tuples' true, fun A Q E h tk r S q => ?_, fun i j hi hj => ?_⟩
  · obtain ⟨fs, h1, h2', h3⟩ := TupK.katTups (g := g) (k := k) S xs fun v hv => let ⟨p, th, o, a, _⟩ := x.all v hv; ⟨p, _, th, a⟩
    refine kat_kind (s := Mine.mk c.s h tk) (T := .ref k.cls) h1 (by rw [h2']; omega) (fun v hv => ?_) (beq_self_eq_true _) (q h tk fun U U e => e)
    obtain ⟨p, a, t, rfl, ⟨d, e, U⟩, U⟩ := h3 v hv
    exact Looks.andThen (Looks.ld (S _ _ e)) .now
  · have m : ∀ i, i < xs.length → xs.getD i .none ∈ xs := fun i hi => by rw [getD_eq hi]; exact List.getElem_mem _
    exact ((x.op (c := c) hs G K hI ho (m i hi) (m j hj)).2).mono hd hu
section
variable {c : Cx} {f : Fm} {s : Int} {k : KA} {L : List Th} {l I : Addr} {g : Heap}
theorem k_last {g' g5 : Heap} {acc : Addr} {zs : List Value} {vs : List (Option Value)} (hz : zs.length ≤ 5) (H : ∀ v ∈ zs, Ex3 fun p o th => TupK g' k v p o th) (S5 : Sub g' g5) {Q : Value → St → Prop}
    (q : ∀ g6 R vs' z, Sub g5 g6 → Q (.ref R) ⟨g6, vs', [(R, IsLs ((zs.map (thO g' k)).map (·.1)))], z⟩) : kCompT c f [none, none, none, none] (.v 3) [1, 2, 3] Q (.ref acc) ⟨g5, vs, [(acc, IsLs zs)], none⟩ := by
  have ch : ∀ i, ∃ q : Addr × List Value, i < zs.length → zs[i]? = some (.ref q.1) ∧ (∃ o, g5.get? q.1 = some o ∧ IsT q.2 o) ∧ Ex2 fun a b => q.2 = [a, b, (thO g' k (zs.getD i .none)).1] := fun i => by
    by_cases hi : i < zs.length
    · obtain ⟨p, o, th, a⟩ := H _ (List.getElem_mem hi)
      have e1 := thO_of a
      obtain ⟨T, kv, t, e, ⟨ob, eT, hT⟩, U, U⟩ := a
      refine ⟨(T, [kv, .int o t, th]), fun U => ⟨by rw [List.getElem?_eq_getElem hi, e], ⟨ob, S5 _ _ eT, hT⟩, kv, .int o t, ?_⟩⟩
      rw [getD_eq hi, e1]
    · exact ⟨(0, []), fun h => absurd h hi⟩
  obtain ⟨F, hF⟩ := Classical.skolem.mp ch
  refine ⟨[(acc, IsLs zs)], [], _, _, _, .refl _, IterT_tupsL (fun i => (F i).1) (fun i => (F i).2) fun i hi => ⟨(hF i hi).1, (hF i hi).2.1⟩, fun f1 a2 U U => ⟨fun d σ => Ex5 fun g6 b1 b2 b3 z => σ = ⟨g6, [none, b1, b2, b3], [(a2, IsLs (((zs.map (thO g' k)).map (·.1)).take d))], z⟩ ∧ Sub g5 g6,
    Frz.now fun g6 S => ⟨g6, none, none, none, _, rfl, S⟩, ?_, ?_⟩⟩
  · rintro d vals U hd' rfl S' ⟨g6, b1, b2, b3, z, rfl, S⟩
    obtain ⟨U, U, a, b, e⟩ := hF d hd'
    rw [e]
    refine ⟨rfl, ?_⟩
    repeat walk_at "w"
    have hd2 : d < zs.length := hd'
    have e2 : ((zs.map (thO g' k)).map (·.1)).take (d + 1) = ((zs.map (thO g' k)).map (·.1)).take d ++ [(thO g' k (zs.getD d .none)).1] := by
      rw [List.take_add_one, List.getElem?_map, List.getElem?_map, List.getElem?_eq_getElem hd2, getD_eq hd2]; rfl
    refine L_app LU.here (by rw [List.length_take]; omega) (Frz.now fun g7 S7 => ⟨g7, some a, some b, some (thO g' k (zs.getD d .none)).1, none, ?_, S.trans S7⟩)
    rw [e2]
    rfl
  · rintro _ S' ⟨g6, b1, b2, b3, z, rfl, S⟩
    rw [List.take_of_length_le (by simp)]
    exact q _ _ _ _ S
theorem w_tail (hs : s = 1 ∨ s = -1) {D : Dr} (ok : DrOk D s) (hd : c.d ≤ 320) (hu : c.u ≤ 100) {n : Int} {tn : Tok} (h0 : -1 ≤ n) (h5 : n ≤ 5) (G : Gr c.w g) (K : KC c g k) (hl : ∃ o, g.get? l = some o ∧ IsLs (L.map (·.1)) o) (hT : ThsG g L) (hI : InOrd L) (hL : L.length ≤ 900)
    {v1 : Value} {b4 b5 b6 b7 b8 b9 b10 b11 b12 b13 : Option Value} {vr : List (Option Value)} {z : Option Nat} {Q : Flow → St → Prop}
    (q : ∀ g' R vs' junk z ys, Sub g g' → Best (lt2 s) n L ys → Q (.ret (.ref R)) ⟨g', vs', (R, IsLs (ys.map (·.1))) :: junk, z⟩) :
    wpS c f (tailS D) ⟨g, (some (.int n tn) :: some v1 :: some (.ref k.cls) :: some (.ref I) :: b4 :: b5 :: b6 :: b7 :: b8 :: b9 :: b10 :: b11 :: b12 :: b13 :: vr), [(I, IsLI l 0)], z⟩ Q := by
  unfold tailS
  refine s_seq (p_asgC (k_zip hs (by omega) (by omega) h0 h5 K hl hT (fun σ Q' hv q => ok.rg h0 h5 hv q) fun g1 acc r0 ts z1 S1 hts => ?_))
  repeat walk_at "w"
  refine W.frz [(r0, IsR3 0 (n * s) s)] [(acc, IsLs ts), (I, IsLE l (L.map (·.1)).toArray (min n.toNat L.length))] ?_ fun g2 S2 U => ?_
  · exact (List.Perm.swap _ _ _).trans (((List.Perm.swap _ _ _).cons _).trans (List.Perm.swap _ _ _))
  have hts2 := hts.sub S2
  have hts5 : ts.length ≤ 5 := by rw [hts.1]; omega
  refine W_truthL (.inr (.head _)) (by omega) ?_
  by_cases hm : ts.length = 0
  · have e0 : ts = [] := List.length_eq_zero_iff.mp hm
    subst e0
    have hz : n ≤ 0 ∨ L = [] := by
      have := hts.1
      by_cases h : L.length = 0
      · exact .inr (List.length_eq_zero_iff.mp h)
      · exact .inl (by simp only [List.length_nil] at this; omega)
    have hB : Best (lt2 s) n L [] := by
      rcases hz with h | h
      · exact best_nil (lt2_good hs) h hI.nodup (lt2_tot hs hI)
      · subst h; exact ⟨[], .refl _, .nil, by simp⟩
    repeat walk_at "w"
    exact q _ _ _ _ _ [] (S1.trans S2) hB
  · have et : ts.isEmpty = false := by cases ts with
      | nil => exact absurd rfl hm
      | cons _ _ => rfl
    rw [et]
    repeat walk_at "w"
    have hm0 : 0 < min n.toNat L.length := by rw [← hts.1]; omega
    obtain ⟨Hv0, HL0⟩ := HL.start (n := n.toNat) hs hI hts2 hm0 (by omega) (by omega) (by omega)
    have G2 := G.sub (S1.trans S2)
    have K2 := K.sub (S1.trans S2)
    have hIm : InOrd (L.take (min n.toNat L.length)) := hI.sublist (List.take_sublist _ _)
    refine ⟨fun G => (ok.pl G).1, ?_⟩
    repeat walk_at "w"
    refine W_fn [(acc, IsLs ts)] [(I, IsLE l (L.map (·.1)).toArray (min n.toNat L.length))] _ (.refl _) (ok.hfy (k := k) hd hu (fun x hx y hy => ((Hv0.op (c := c) hs G2 K2 hIm (by omega) hx hy).1).mono (by decide) (by decide)) (by omega)) ?_
    rintro r g3 m3 z3 S3 - rfl
    have HL1 := HL0.sub S3
    generalize hfy (upM (ltq s g2 k)) (pkM (ltq s g2 k)) ts = xs0 at HL1
    have hlen0 : xs0.length = min n.toNat L.length := by rw [HL1.len, List.length_take]; omega
    repeat walk_at "w"
    refine L_item (k := 0) (.inr (.head _)) (by omega) (by omega) ?_
    obtain ⟨p', th', o', hr', ho', U⟩ := HL1.root (by omega)
    obtain ⟨T', kv', t', e1, ⟨ob, eT', hT'⟩, hk', ht'⟩ := id hr'
    rw [e1]
    repeat walk_at "w"
    refine L_itemT (k := 0) eT' hT' (by simp) (by simp) ?_
    repeat walk_at "w"
    refine ok.o0 rfl fun t0 => ?_
    repeat walk_at "w"
    have hn : ((n.toNat : Nat) : Int) = n := by omega
    have hl3 : ∃ o, g3.get? l = some o ∧ IsLs (L.map (·.1)) o := let ⟨o, e, p⟩ := hl; ⟨o, S3 _ _ (S2 _ _ (S1 _ _ e)), p⟩
    generalize hmm : min n.toNat L.length = m at *
    refine ⟨[(I, IsLE l (L.map fun x : Th => x.1).toArray m)], [(acc, IsLs xs0)], _, _, _, _, List.perm_append_comm, Iter_LE hl3 (by rw [List.length_map]; omega),
      fun d σ => Ex10 fun g' xs ord topk to b7 b11 b12 b13 z => σ = ⟨g', (some (.int n tn) :: some v1 :: some (.ref k.cls) :: some (.ref I) :: b4 :: some (.ref acc) :: b6 :: b7 :: some topk :: some (.int ((ord : Nat) * s) to) :: some (.ref D.rA) :: b11 :: b12 :: b13 :: vr), [(acc, IsLs xs)], z⟩ ∧
        Sub g3 g' ∧ HL s g' k n.toNat (L.take (m + d)) xs ord ∧ TopK g' k xs topk ∧ ord ≤ 5 + d,
      Frz.now fun g' S => ⟨g', xs0, n.toNat, kv', t0, b7, b11, b12, b13, _, by rw [hn]; rfl, S, HL1.sub S, ⟨p', th', _, hr'.sub S, hk'.sub S⟩, by omega⟩, ?_, ?_⟩
    · rintro d v U hd' hv S' ⟨g', xs, ord, topk, to, b7, b11, b12, b13, z, rfl, S, H, hT', ho⟩
      rw [List.getElem?_map] at hv
      obtain ⟨e, ee, rfl⟩ := Option.map_eq_some_iff.mp hv
      have hdL := (List.getElem?_eq_some_iff.mp ee).1
      have eP : L.take (m + d) ++ [e] = L.take (m + (d + 1)) := by rw [← Nat.add_assoc, List.take_add_one, ee]; rfl
      have S3' := S1.trans (S2.trans (S3.trans S))
      refine s_nx (k_turn hs ok hd hu (n := n.toNat) (P := L.take (m + d)) (e := e) (G.sub S3') (K.sub S3') (by omega) (by omega) (by rw [List.length_take]; omega) (by rw [eP]; exact hI.sublist (List.take_sublist _ _)) (by omega) ((hT e (List.mem_of_getElem? ee)).sub S3') H hT' fun g4 hv4 ord4 tk4 to4 b11 b12 b13 z4 S4 H4 hT4 ho4 => ?_)
      rw [eP] at H4
      repeat walk_at "w"
      exact Frz.now fun g5 S5 => ⟨g5, _, ord4, tk4, to4, _, _, _, _, _, rfl, S.trans (S4.trans S5), H4.sub S5, hT4.sub S5, by omega⟩
    · rintro _ S' ⟨g', xs, ord, topk, to, b7, b11, b12, b13, z, rfl, S, H, hT', ho⟩
      have eL : L.take (m + ((L.map (·.1)).length - m)) = L := List.take_of_length_le (by rw [List.length_map]; omega)
      rw [eL] at H
      have S3' := S1.trans (S2.trans (S3.trans S))
      have hlen : xs.length = m := by rw [H.len]; omega
      have ho' : ord ≤ 1000 := by rw [List.length_map] at ho; omega
      repeat walk_at "w"
      refine ⟨⟨acc, xs, rfl, .inr (.head _)⟩, W_lsort (rev := D.rev) (key := fun i => qk s g' k (xs.getD i .none) * s) (fun P => [(acc, P)]) (fun U U => .here) rfl (by omega) (fun h2 => Asks.sub (c := c.up1) (H.hv.asks (c := c.up1) hs (G.sub S3') ⟨K.gen, K.kw.sub S3'⟩ hI ho' (Nat.le_trans hd (by decide)) (Nat.le_trans (Nat.succ_le_succ hu) (by decide)) h2) (Sub.refl _)) fun g5 is S5 hsrt => ?_⟩
      rw [ok.rev] at hsrt
      have hB := H.best hs hI ho' hsrt
      repeat walk_at "w"
      have hzx : ∀ v ∈ is.map fun i => xs.getD i .none, v ∈ xs := fun v hv => by
        obtain ⟨i, hi, rfl⟩ := List.mem_map.mp hv
        have : i < xs.length := List.mem_range.mp (hsrt.1.mem_iff.mp hi)
        rw [getD_eq this]; exact List.getElem_mem _
      have hzl : (is.map fun i => xs.getD i .none).length ≤ 5 := by rw [List.length_map, hsrt.1.length_eq, List.length_range]; omega
      refine k_last (g' := g') hzl (fun v hv => let ⟨p, th, o, a, _⟩ := H.hv.all v (hzx v hv); ⟨p, _, th, a⟩) S5 fun g6 R vs' z6 S6 => ?_
      repeat walk_at "w"
      exact q _ R _ [] _ _ (S3'.trans (S5.trans S6)) hB
end
theorem best_srt {s : Int} (hs : s = 1 ∨ s = -1) {L : List Th} (hI : InOrd L) {n : Int} (hn : (L.length : Int) ≤ n) {is : List Nat} (h : SortIs (decide (s = -1)) L.length (keyAt (L.map (·.2))) is) :
    Best (lt2 s) n L (is.map fun i => L.getD i (.none, (0, 0))) := by
  obtain ⟨h1, h2⟩ := h
  have hp : (is.map fun i => L.getD i (.none, (0, 0))).Perm L := by
    refine (h1.map _).trans ?_
    have : (List.range L.length).map (fun i => L.getD i (.none, (0, 0))) = L := List.ext_getElem (by simp) fun i a b => by simp [List.getD, b]
    rw [this]
  refine best_all hn hp ?_
  rw [List.pairwise_map]
  refine h2.imp_of_mem fun {i j} hi hj h => ?_
  have hi := List.mem_range.mp (h1.mem_iff.mp hi)
  have hj := List.mem_range.mp (h1.mem_iff.mp hj)
  have gi : L.getD i (.none, (0, 0)) = L[i] := by simp [List.getD, hi]
  have gj : L.getD j (.none, (0, 0)) = L[j] := by simp [List.getD, hj]
  have ki : ∀ i (hi : i < L.length), keyAt (L.map (·.2)) i = half L[i].2 := fun i hi => by unfold keyAt; simp [List.getD, hi]
  rw [gi, gj]
  rw [ki i hi, ki j hj] at h
  unfold lt2 thLt
  simp only [Bool.or_eq_true, Bool.and_eq_true, decide_eq_true_eq, beq_iff_eq]
  rcases h with h | ⟨h, h'⟩
  · rcases hs with rfl | rfl
    · have h : half L[i].2 < half L[j].2 := h
      omega
    · have h : half L[j].2 < half L[i].2 := h
      omega
  · have := hI.lt h' (List.getElem?_eq_getElem hi) (List.getElem?_eq_getElem hj) h
    exact .inr ⟨h, this⟩
theorem best_fst {s : Int} (hs : s = 1 ∨ s = -1) {L : List Th} (hI : InOrd L) {i : Nat} (h : BestI (kfS s (L.map (·.2))) i L.length) : ∃ t, L[i]? = some t ∧ Best (lt2 s) 1 L [t] := by
  obtain ⟨hi, hb⟩ := h
  refine ⟨L[i], List.getElem?_eq_getElem hi, best_one (lt2_good hs) hI.nodup (lt2_tot hs hI) (List.getElem_mem hi) fun b hbm hne => ?_⟩
  obtain ⟨j, hj, rfl⟩ := List.mem_iff_getElem.mp hbm
  have ki : ∀ i (hi : i < L.length), kfS s (L.map (·.2)) i = half L[i].2 * s := fun i hi => by unfold kfS keyAt; simp [List.getD, hi]
  have hj' := hb j hj
  rw [ki i hi, ki j hj] at hj'
  unfold lt2 thLt
  simp only [Bool.or_eq_true, Bool.and_eq_true, decide_eq_true_eq, beq_iff_eq]
  rcases Nat.lt_trichotomy i j with hij | hij | hij
  · have hl := fun e => hI.lt hij (List.getElem?_eq_getElem hi) (List.getElem?_eq_getElem hj) e
    by_cases e : half L[i].2 = half L[j].2
    · exact .inr ⟨e, hl e⟩
    · rcases hs with rfl | rfl <;> exact .inl (by omega)
  · subst hij; exact absurd rfl hne
  · have := hj'.2 hij
    rcases hs with rfl | rfl <;> exact .inl (by omega)
noncomputable def oneS (nm : String) : PS := .seq (.asg 3 (.call (.g (.builtin "iter")) (.cons (.v 1) .nil))) (.seq (.asg 4 (.call0 (.g (.type "object")))) (.seq (.asg 5 (.callk (.g (.builtin nm)) (.cons (.v 3) .nil) ["default", "key"] (.cons (.v 4) (.cons (.v 2) .nil)))) (.seq (.ret (.ife (.cmp .Is (.v 5) (.v 4)) (.list .nil) (.list (.cons (.v 5) .nil)))) .skip)))
noncomputable def irN (nm : String) (D : Dr) (tr : PS) : PS := .seq (.ifS (.cmp .Eq (.v 0) (.int 1)) (oneS nm) .skip) (.seq tr (.seq (.ifS (.cmp .Is (.v 2) .none) .dead .skip) (.seq (.asg 3 (.call (.g (.builtin "iter")) (.cons (.v 1) .nil))) (tailS D))))
section
variable {c : Cx} {f : Fm} {s : Int} {k : KA} {L : List Th} {l : Addr} {g : Heap}
noncomputable def IterIn (c : Cx) (f : Fm) (g : Heap) (l : Addr) (V : Value) (led0 : Ledger) : Prop :=
  ∀ (vs : List (Option Value)) (z : Option Nat) (Q : Value → St → Prop), (∀ I z, Q (.ref I) ⟨g, vs, [(I, IsLI l 0)], z⟩) → W c f (call (.builtin "iter") [V]) ⟨g, vs, led0, z⟩ Q
theorem w_one (hs : s = 1 ∨ s = -1) {nm lid : String} {op : CmpOp} (M : MM nm lid op s) (hd : c.d ≤ 320) (hu : c.u ≤ 100) {tn : Tok} (G : Gr c.w g) (K : KC c g k) (hl : ∃ o, g.get? l = some o ∧ IsLs (L.map (·.1)) o) (hT : ThsG g L) (hI : InOrd L)
    {V : Value} {led0 : Ledger} (hit : IterIn c f g l V led0) {b3 b4 b5 : Option Value} {vr : List (Option Value)} {z : Option Nat} {Q : Flow → St → Prop}
    (q : ∀ g' R vs' junk z ys, Sub g g' → Best (lt2 s) 1 L ys → Q (.ret (.ref R)) ⟨g', vs', (R, IsLs (ys.map (·.1))) :: junk, z⟩) :
    wpS c f (oneS nm) ⟨g, some (.int 1 tn) :: some V :: some (.ref k.cls) :: b3 :: b4 :: b5 :: vr, led0, z⟩ Q := by
  unfold oneS
  repeat walk_at "w"
  refine hit _ _ _ fun I z1 => ?_
  repeat walk_at "w"
  refine ⟨⟨"object", rfl⟩, L_object (by omega) (by omega) K.gen fun a g1 o S1 hna ea hoc => ?_⟩
  have hl1 : ∃ o, g1.get? l = some o ∧ IsLs (L.map (·.1)) o := let ⟨o, e, p⟩ := hl; ⟨o, S1 _ _ e, p⟩
  have hxl : (L.map (·.1)).length = L.length := List.length_map ..
  repeat walk_at "w"
  refine W_mm (k := k) (ps := L.map (·.2)) M (by omega) (by omega) (G.sub S1) (K.sub S1) hl1 (hT.sub S1).ths fun S v σ h => ?_
  obtain ⟨g2, si, z2, rfl, S2, hv⟩ := h
  rw [hxl] at hv
  rcases hv with ⟨h0, (rfl)⟩ | ⟨i, hb, (rfl)⟩
  · have e0 : L = [] := List.length_eq_zero_iff.mp h0
    subst e0
    repeat walk_at "w"
    refine W_isS ?_
    repeat walk_at "w"
    refine W_newList (Nat.zero_le _) fun R U U => ?_
    repeat walk_at "w"
    exact q _ R _ _ _ [] (S1.trans S2) ⟨[], .refl _, .nil, rfl⟩
  · obtain ⟨t, et, hB⟩ := best_fst hs hI hb
    have ev : (L.map (·.1)).getD i .none = t.1 := by unfold List.getD; rw [List.getElem?_map, et]; rfl
    rw [ev]
    have ht := hT t (List.mem_of_getElem? et)
    obtain ⟨U, U, ta, ot, e1, eo, hc, U⟩ := ht
    rw [e1]
    have hne : ta ≠ a := fun z => by rw [z, hna] at eo; cases eo
    repeat walk_at "w"
    refine W_isO hne (S2 _ _ (S1 _ _ eo)) (S2 _ _ ea) (by rw [hc]; decide) ?_
    repeat walk_at "w"
    refine W_newList (by show (1 : Nat) ≤ _; decide) fun R U U => ?_
    repeat walk_at "w"
    rw [show [Value.ref ta] = [t].map (fun x : Th => x.1) from by rw [← e1]; rfl]
    exact q g2 R _ _ _ [t] (S1.trans S2) hB
theorem w_sel (hs : s = 1 ∨ s = -1) {nm lid : String} {op : CmpOp} (M : MM nm lid op s) {D : Dr} (ok : DrOk D s) {tr : PS} (hd : c.d ≤ 320) (hu : c.u ≤ 100) {n : Int} {tn : Tok} (h0 : -1 ≤ n) (h5 : n ≤ 5) (G : Gr c.w g) (K : KC c g k) (hl : ∃ o, g.get? l = some o ∧ IsLs (L.map (·.1)) o) (hT : ThsG g L) (hI : InOrd L) (hL : L.length ≤ 900)
    {V : Value} {led0 : Ledger} (hit : ∀ g', Sub g g' → IterIn c f g' l V led0) {b3 b4 b5 b6 b7 b8 b9 b10 b11 b12 b13 : Option Value} {vr : List (Option Value)} {z : Option Nat} {Q : Flow → St → Prop}
    (htr : ∀ N : St → Prop, (∀ g' b6 z, Sub g g' → N ⟨g', (some (.int n tn) :: some V :: some (.ref k.cls) :: b3 :: b4 :: b5 :: b6 :: b7 :: b8 :: b9 :: b10 :: b11 :: b12 :: b13 :: vr), led0, z⟩) → wpS c f tr ⟨g, (some (.int n tn) :: some V :: some (.ref k.cls) :: b3 :: b4 :: b5 :: b6 :: b7 :: b8 :: b9 :: b10 :: b11 :: b12 :: b13 :: vr), led0, z⟩ (sq N Q))
    (q : ∀ g' R vs' junk z ys, Sub g g' → Best (lt2 s) n L ys → Q (.ret (.ref R)) ⟨g', vs', (R, IsLs (ys.map (·.1))) :: junk, z⟩) :
    wpS c f (irN nm D tr) ⟨g, (some (.int n tn) :: some V :: some (.ref k.cls) :: b3 :: b4 :: b5 :: b6 :: b7 :: b8 :: b9 :: b10 :: b11 :: b12 :: b13 :: vr), led0, z⟩ Q := by
  unfold irN
  repeat walk_at "w"
  by_cases h1 : n = 1
  · subst h1
    rw [beq_self_eq_true]
    repeat walk_at "w"
    exact w_one hs M hd hu G K hl hT hI (hit g (Sub.refl _)) fun g' R vs' junk z ys S hB => k_sqR (q g' R vs' junk z ys S hB)
  · rw [show (n == 1) = false from beq_false_of_ne h1]
    repeat walk_at "w"
    refine htr _ fun g1 b6 z1 S1 => ?_
    repeat walk_at "w"
    refine W_isN ?_
    repeat walk_at "w"
    refine hit g1 S1 _ _ _ fun I z2 => ?_
    repeat walk_at "w"
    exact w_tail hs ok hd hu h0 h5 (G.sub S1) (K.sub S1) (let ⟨o, e, p⟩ := hl; ⟨o, S1 _ _ e, p⟩) (hT.sub S1) hI hL fun g' R vs' junk z ys S hB => q g' R vs' junk z ys (S1.trans S) hB
end
noncomputable def srtE (rev : Bool) : PE := match rev with
  | false => .callk (.g (.builtin "sorted")) (.cons (.v 1) .nil) ["key"] (.cons (.v 2) .nil)
  | true => .callk (.g (.builtin "sorted")) (.cons (.v 1) .nil) ["key", "reverse"] (.cons (.v 2) (.cons (.tt true) .nil))
noncomputable def trL (rev : Bool) : PS := .tryL (.seq (.asg 6 (.call (.g (.builtin "len")) (.cons (.v 1) .nil))) .skip) (.seq (.ifS (.cmp .GtE (.v 0) (.v 6)) (.seq (.ret (.slc (srtE rev) .nil (.cons (.v 0) .nil))) .skip) .skip) .skip)
section
variable {c : Cx} {f : Fm} {s : Int} {k : KA} {L : List Th} {l : Addr} {g : Heap}
theorem e_srt {rev : Bool} {V : Value} {v0 : Option Value} {vr : List (Option Value)} {led : Ledger} {z : Option Nat} {Q : Value → St → Prop}
    (h : W c f (call (.builtin "sorted") [V] (kwS rev k.cls)) ⟨g, v0 :: some V :: some (.ref k.cls) :: vr, led, z⟩ Q) : wpE c f (srtE rev) ⟨g, v0 :: some V :: some (.ref k.cls) :: vr, led, z⟩ Q := by
  cases rev with
  | false =>
    unfold srtE
    repeat walk_at "w"
    exact h
  | true =>
    unfold srtE
    repeat walk_at "w"
    exact h
theorem w_trL (hs : s = 1 ∨ s = -1) (hd : c.d ≤ 320) (hu : c.u ≤ 100) {n : Int} {tn : Tok} (h5 : n ≤ 5) (G : Gr c.w g) (K : KC c g k) (hl : ∃ o, g.get? l = some o ∧ IsLs (L.map (·.1)) o) (hT : ThsG g L) (hI : InOrd L) (hL : L.length ≤ 900)
    {b3 b4 b5 b6 b7 b8 b9 b10 b11 b12 b13 : Option Value} {vr : List (Option Value)} {z : Option Nat} {Q : Flow → St → Prop} {N : St → Prop}
    (hN : ∀ g' b6 z, Sub g g' → N ⟨g', (some (.int n tn) :: some (.ref l) :: some (.ref k.cls) :: b3 :: b4 :: b5 :: b6 :: b7 :: b8 :: b9 :: b10 :: b11 :: b12 :: b13 :: vr), [], z⟩)
    (q : ∀ g' R vs' junk z ys, Sub g g' → Best (lt2 s) n L ys → Q (.ret (.ref R)) ⟨g', vs', (R, IsLs (ys.map (·.1))) :: junk, z⟩) :
    wpS c f (trL (decide (s = -1))) ⟨g, (some (.int n tn) :: some (.ref l) :: some (.ref k.cls) :: b3 :: b4 :: b5 :: b6 :: b7 :: b8 :: b9 :: b10 :: b11 :: b12 :: b13 :: vr), [], z⟩ (sq N Q) := by
  unfold trL
  refine s_tryL ?_
  repeat walk_at "w"
  have hxl : (L.map (·.1)).length = L.length := List.length_map ..
  refine L_len (.inl hl) (by omega) fun t => ?_
  rw [hxl]
  repeat walk_at "w"
  by_cases h : (L.length : Int) ≤ n
  · rw [decide_eq_true h]
    repeat walk_at "w"
    refine e_srt (W_sorted (ps := L.map (·.2)) (by omega) (by omega) (.inl hl) (by omega) G K hT.ths fun g1 is D S1 hi => ?_)
    rw [hxl] at hi
    have hB := best_srt hs hI h hi
    have en : ((n.toNat : Nat) : Int) = n := by omega
    have ey : (is.map fun i => (L.map (·.1)).getD i .none) = (is.map fun i => L.getD i (.none, (0, 0))).map (·.1) := by
      rw [List.map_map]
      refine List.map_congr_left fun i U => ?_
      simp only [List.getD_eq_getElem?_getD, List.getElem?_map, Function.comp]
      cases L[i]? <;> rfl
    rw [ey]
    have hyl : ((is.map fun i => L.getD i (.none, (0, 0))).map (·.1)).length = L.length := by rw [List.length_map, List.length_map, hi.1.length_eq, List.length_range]
    repeat walk_at "w"
    refine L_slc (lo := none) (hi := some n) (.inr (.head _)) (by omega) ?_ ?_ (by rw [← en, slicePick_upto']) fun R U U => ?_
    · exact .none
    · exact .int _ _
    repeat walk_at "w"
    rw [List.take_of_length_le (by omega)]
    exact q _ R _ _ _ _ S1 hB
  · rw [decide_eq_false h]
    repeat walk_at "w"
    exact hN _ _ _ (Sub.refl _)
theorem iter_list (hl : ∃ o, g.get? l = some o ∧ IsLs (L.map (·.1)) o) : ∀ g', Sub g g' → IterIn c f g' l (.ref l) [] := fun g' S vs z Q h =>
  L_iter (L_iterL (c := c.up1) (xs := L.map (·.1)) (.inl (let ⟨o, e, p⟩ := hl; ⟨o, S _ _ e, p⟩)) fun I U => h I none)
theorem iter_iter {I : Addr} : ∀ g', Sub g g' → IterIn c f g' l (.ref I) [(I, IsLI l 0)] := fun g' S vs z Q h => L_iter (L_iterI (c := c.up1) (.head _) (h I z))
noncomputable def SelP (s : Int) (n : Int) (L : List Th) : Post := fun r g' m' z' => ∃ ys, LsG g' r (ys.map (·.1)) ∧ Best (lt2 s) n L ys
theorem sel_ret {F : Addr} {n : Int} {muts : Ledger} : ∀ g' R vs' junk z ys, Sub g g' → Best (lt2 s) n L ys → RetQ muts (SelP s n L) (.ret (.ref R)) ⟨g', vs', (R, IsLs (ys.map (·.1))) :: junk, z⟩ :=
  fun g' R vs' junk z ys S hB => ⟨(R, IsLs (ys.map (·.1))) :: junk, [], by rw [List.append_nil], (fun b h => nomatch h), fun g2 S2 hx => ⟨ys, let ⟨o, e, p⟩ := hx _ (.head _); ⟨R, o, rfl, e, p⟩, hB⟩⟩
end
noncomputable def bindK (fd : FuncData) (vals : List Value) : Option (Array Value) → Sem (List (Str × Value)) := by
  refine (fun (F : Option (Array Value) → Sem (List (Str × Value))) (_ : bindArgs fd ⟨vals, []⟩ = seqItems? fd.defaults >>= F) => F) ?F ?h
  case h => unfold bindArgs; exact rfl
theorem bindK_eq (fd : FuncData) (vals : List Value) : bindArgs fd ⟨vals, []⟩ = seqItems? fd.defaults >>= bindK fd vals := rfl
theorem binds_ob {w : World} {a T : Addr} {items : Array Value} {n : Nat} {vals : List Value} {binds : List (Str × Value)} {g : Heap} (h1 : (FD w a).defaults = .ref T) (h2 : ((KK w).lookup T).isSome = true) (h3 : (T == 84 || T == 117) = false) (h4 : (obAt w T).data = .seq items n)
    (h5 : bindK (FD w a) vals (some items) = pure binds) : Gr w g → ∀ s : Shared, Sub g s.heap → BindsTo s (FD w a) ⟨vals, []⟩ binds := fun G s S => .of_defaults h1 (S _ _ (G.ob h2 h3)) h4 (bindK_eq _ _) h5
theorem fs_76 (w : World) : FnSt w 76 (KT w 76) := fnOk_ (ca := 75) (by kernel_rfl)
theorem fs_82 (w : World) : FnSt w 82 (KT w 82) := fnOk_ (ca := 81) (by kernel_rfl)
theorem ck_76L (w : World) : chkB (KT w 76) 60 (irN "min" drS (trL false)) (FD w 76).body = true := by kernel_rfl
theorem ck_76X (w : World) : chkB (KT w 76) 60 (irN "min" drS (.tryX (.v 1))) (FD w 76).body = true := by kernel_rfl
theorem ck_82L (w : World) : chkB (KT w 82) 60 (irN "max" drL (trL true)) (FD w 82).body = true := by kernel_rfl
theorem ck_82X (w : World) : chkB (KT w 82) 60 (irN "max" drL (.tryX (.v 1))) (FD w 82).body = true := by kernel_rfl
noncomputable abbrev bdN (n : Value) (it key : Value) : List (Str × Value) := [("n", n), ("iterable", it), ("key", key)]
section
variable {c : Cx} {k : KA} {L : List Th} {l : Addr} {g : Heap} {n : Int} {tn : Tok} {sz : Option Nat}
theorem c_smallL (hd : c.d ≤ 319) (hu : c.u ≤ 97) (h0 : -1 ≤ n) (h5 : n ≤ 5) (G : Gr c.w g) (K : KC c g k) (hl : ∃ o, g.get? l = some o ∧ IsLs (L.map (·.1)) o) (hT : ThsG g L) (hI : InOrd L) (hL : L.length ≤ 900) :
    Fn c (.ref 76) [.int n tn, .ref l, .ref k.cls] g [] sz (SelP 1 n L) := by
  refine fn_locB (fs_76 _) (GTok _) (by have : recursionLimit = 1000 := rfl; omega) (ck_76L _) (binds := bdN (.int n tn) (.ref l) (.ref k.cls)) (is := [0, 1, 2]) (binds_ob (T := 71) (items := #[.none]) (n := 0) (by kernel_rfl) (by kernel_rfl) (by decide) (by kernel_rfl) (by kernel_rfl)) (by kernel_rfl)
    (vs := some (.int n tn) :: some (.ref l) :: some (.ref k.cls) :: none :: none :: none :: none :: none :: none :: none :: none :: none :: none :: none :: [none, none, none, none, none, none, none, none, none, none, none]) (by kernel_rfl) rfl fun f => ?_
  have hd' : (c.deep f.F).d ≤ 320 := Nat.succ_le_succ hd
  have hu' : (c.deep f.F).u ≤ 100 := Nat.add_le_add_right hu 3
  exact w_sel (.inl rfl) MM.min drS_ok hd' hu' h0 h5 G ⟨K.gen, K.kw⟩ hl hT hI hL (iter_list hl) (fun N hN => w_trL (s := 1) (.inl rfl) hd' hu' h5 G ⟨K.gen, K.kw⟩ hl hT hI hL (fun g' b6 z S => hN g' b6 z S) (sel_ret (F := f.F))) (sel_ret (F := f.F))
theorem c_largeL (hd : c.d ≤ 319) (hu : c.u ≤ 97) (h0 : -1 ≤ n) (h5 : n ≤ 5) (G : Gr c.w g) (K : KC c g k) (hl : ∃ o, g.get? l = some o ∧ IsLs (L.map (·.1)) o) (hT : ThsG g L) (hI : InOrd L) (hL : L.length ≤ 900) :
    Fn c (.ref 82) [.int n tn, .ref l, .ref k.cls] g [] sz (SelP (-1) n L) := by
  refine fn_locB (fs_82 _) (GTok _) (by have : recursionLimit = 1000 := rfl; omega) (ck_82L _) (binds := bdN (.int n tn) (.ref l) (.ref k.cls)) (is := [0, 1, 2]) (binds_ob (T := 77) (items := #[.none]) (n := 0) (by kernel_rfl) (by kernel_rfl) (by decide) (by kernel_rfl) (by kernel_rfl)) (by kernel_rfl)
    (vs := some (.int n tn) :: some (.ref l) :: some (.ref k.cls) :: none :: none :: none :: none :: none :: none :: none :: none :: none :: none :: none :: [none, none, none, none, none, none, none, none, none, none, none]) (by kernel_rfl) rfl fun f => ?_
  have hd' : (c.deep f.F).d ≤ 320 := Nat.succ_le_succ hd
  have hu' : (c.deep f.F).u ≤ 100 := Nat.add_le_add_right hu 3
  exact w_sel (.inr rfl) MM.max drL_ok hd' hu' h0 h5 G ⟨K.gen, K.kw⟩ hl hT hI hL (iter_list hl) (fun N hN => w_trL (s := -1) (.inr rfl) hd' hu' h5 G ⟨K.gen, K.kw⟩ hl hT hI hL (fun g' b6 z S => hN g' b6 z S) (sel_ret (F := f.F))) (sel_ret (F := f.F))
theorem w_trX {f : Fm} {I : Addr} {vs : List (Option Value)} {led : Ledger} {N : St → Prop} {Q : Flow → St → Prop} {z : Option Nat} (kf : c.kf = true) (hF : c.fs.head? = some f.F) (hv : (vs[1]?).join = some (.ref I)) (hI : (I, IsLI l 0) ∈ led) (h : N ⟨g, vs, led, none⟩) : wpS c f (.tryX (.v 1)) ⟨g, vs, led, z⟩ (sq N Q) :=
  s_tryX (e_v hv ⟨⟨I, l, 0, rfl, hI⟩, kf, hF, k_sqN h⟩)
theorem c_smallX {I : Addr} (kf : c.kf = true) (hd : c.d ≤ 319) (hu : c.u ≤ 97) (h0 : -1 ≤ n) (h5 : n ≤ 5) (G : Gr c.w g) (K : KC c g k) (hl : ∃ o, g.get? l = some o ∧ IsLs (L.map (·.1)) o) (hT : ThsG g L) (hI : InOrd L) (hL : L.length ≤ 900) :
    Fn c (.ref 76) [.int n tn, .ref I, .ref k.cls] g [(I, IsLI l 0)] sz (SelP 1 n L) := by
  refine fn_locB (fs_76 _) (GTok _) (by have : recursionLimit = 1000 := rfl; omega) (ck_76X _) (binds := bdN (.int n tn) (.ref I) (.ref k.cls)) (is := [0, 1, 2]) (binds_ob (T := 71) (items := #[.none]) (n := 0) (by kernel_rfl) (by kernel_rfl) (by decide) (by kernel_rfl) (by kernel_rfl)) (by kernel_rfl)
    (vs := some (.int n tn) :: some (.ref I) :: some (.ref k.cls) :: none :: none :: none :: none :: none :: none :: none :: none :: none :: none :: none :: [none, none, none, none, none, none, none, none, none, none, none]) (by kernel_rfl) rfl fun f => ?_
  exact w_sel (c := c.deep f.F) (.inl rfl) MM.min drS_ok (Nat.succ_le_succ hd) (Nat.add_le_add_right hu 3) h0 h5 G ⟨K.gen, K.kw⟩ hl hT hI hL iter_iter (fun N hN => w_trX (c := c.deep f.F) kf rfl rfl (.head _) (hN _ _ _ (Sub.refl _))) (sel_ret (F := f.F))
theorem c_largeX {I : Addr} (kf : c.kf = true) (hd : c.d ≤ 319) (hu : c.u ≤ 97) (h0 : -1 ≤ n) (h5 : n ≤ 5) (G : Gr c.w g) (K : KC c g k) (hl : ∃ o, g.get? l = some o ∧ IsLs (L.map (·.1)) o) (hT : ThsG g L) (hI : InOrd L) (hL : L.length ≤ 900) :
    Fn c (.ref 82) [.int n tn, .ref I, .ref k.cls] g [(I, IsLI l 0)] sz (SelP (-1) n L) := by
  refine fn_locB (fs_82 _) (GTok _) (by have : recursionLimit = 1000 := rfl; omega) (ck_82X _) (binds := bdN (.int n tn) (.ref I) (.ref k.cls)) (is := [0, 1, 2]) (binds_ob (T := 77) (items := #[.none]) (n := 0) (by kernel_rfl) (by kernel_rfl) (by decide) (by kernel_rfl) (by kernel_rfl)) (by kernel_rfl)
    (vs := some (.int n tn) :: some (.ref I) :: some (.ref k.cls) :: none :: none :: none :: none :: none :: none :: none :: none :: none :: none :: none :: [none, none, none, none, none, none, none, none, none, none, none]) (by kernel_rfl) rfl fun f => ?_
  exact w_sel (c := c.deep f.F) (.inr rfl) MM.max drL_ok (Nat.succ_le_succ hd) (Nat.add_le_add_right hu 3) h0 h5 G ⟨K.gen, K.kw⟩ hl hT hI hL iter_iter (fun N hN => w_trX (c := c.deep f.F) kf rfl rfl (.head _) (hN _ _ _ (Sub.refl _))) (sel_ret (F := f.F))
end
section
variable {c : Cx} {f : Fm} {σ : St}
theorem L_next {I l : Addr} {xs : List Value} {j : Nat} {v : Value} {led' : Ledger} {Q : Value → St → Prop} (hl : ∃ o, σ.g.get? l = some o ∧ IsLs xs o) (hI : LU σ.led I (IsLI l j) (IsLI l (j + 1)) led') (hj : xs[j]? = some v) (q : Q v { σ with led := led' }) : W c f (call (.builtin "next") [.ref I]) σ Q := by
  intro A E h tk r a
  obtain ⟨o, eI, c1, c2⟩ := a.hp.ld _ hI.mem
  obtain ⟨ol, e, p⟩ := hl
  have hol := a.hp.sub _ _ e
  obtain ⟨U, U, nl, hdl⟩ := p
  have hT : (mk c.s h tk).TypeIs (.ref I) "list_iterator" := ⟨o, eI, c1⟩
  refine call_function_entry (by decide +kernel) (by decide +kernel) kdk_entry_next (kdk_args_next _) ?_
  unfold Builtin.«next»
  refine wpAny_bind (m := someArgs "next" 1 2 _) (wpAny_of_eq (a := [Value.ref I]) (by first | rfl | kernel_rfl!) ?_)
  dsimp only
  refine wpAny_bind (wpAny_specialOf (name := Str.ofString "__next__") hT slot_listiter_next.lookup ?_)
  refine wpAny_ite_split (fun hab => absurd hab (by decide)) (fun U => ?_)
  refine wpAny_bind (wpAny_callSpecial?_slot (name := Str.ofString "__next__") hT slot_listiter_next (wpAny_call_entry slot_listiter_next hT entry_listiter_next ?_ (args_listiter_next _)))
  show wpAny _ _ (field (.ref I) 0 >>= _) _ _ _
  refine wpAny_bind (wpAny_field eI c2 (x := .ref l) rfl ?_)
  show wpAny _ _ (if (Value.ref l == Value.none) = true then _ else _) _ _ _
  rw [if_neg none_ne]
  show wpAny _ _ (field (.ref I) 1 >>= _) _ _ _
  refine wpAny_bind (wpAny_field eI c2 (x := .int j 0) rfl ?_)
  show wpAny _ _ (seqItems? (.ref l) >>= _) _ _ _
  refine wpAny_bind (wpAny_seqItems hol hdl ?_)
  have hx : xs.toArray[j]? = some v := by simpa using hj
  simp only [Int.toNat_natCast, hx]
  have e' := Heap.get?_update_self (Obj.mapFields (·.setIfInBounds 1 (rawInt ((j : Int) + 1)))) eI (Obj.isFreed_of_fields (Obj.data_mapFields c2 _))
  obtain ⟨a', m'⟩ := a.chg hI.mem (Heap.SameBut.update h I (Obj.mapFields (·.setIfInBounds 1 (rawInt ((j : Int) + 1))))) e' (P' := IsLI l (j + 1)) ⟨(Obj.cls_mapFields ..).trans c1, by rw [Obj.data_mapFields c2]; simp [rawInt]⟩
  rw [hI.chg a.hp.nd] at a' m'
  exact wpAny_bind (wpAny_setField eI c2 (by simp) (wpAny_pure ⟨v, rfl, wpAny_pure ⟨_, rfl, _, _, _, rfl, a', m', q⟩⟩))
end
theorem W.gr {α : Type} {c : Cx} {f : Fm} {σ : St} {t : Sem α} {Q : α → St → Prop} (k : Gr c.w σ.g → W c f t σ Q) : W c f t σ Q := fun A E h tk r a => k a.hp.gr A E h tk r a
theorem W.sz0 {α : Type} {c : Cx} {f : Fm} {g : Heap} {vs : List (Option Value)} {led : Ledger} {z : Option Nat} {t : Sem α} {Q : α → St → Prop} (k : W c f t ⟨g, vs, led, none⟩ Q) : W c f t ⟨g, vs, led, z⟩ Q := fun A E h tk r a => k A E h tk r a.sz0
noncomputable def redT : PS := .seq (.forN 5 (.v 3) (.seq (.asg 4 (.call (.v 0) (.cons (.v 4) (.cons (.v 5) .nil)))) .skip)) (.seq (.ret (.v 4)) .skip)
noncomputable def irR : PS := .seq (.asg 3 (.call (.g (.builtin "iter")) (.cons (.v 1) .nil))) (.seq (.ifS (.cmp .Is (.v 2) (.g (.ref 90))) (.seq (.tryL (.seq (.asg 4 (.call (.g (.builtin "next")) (.cons (.v 3) .nil))) .skip) .skip) .skip) (.seq (.asg 4 (.v 2)) .skip)) redT)
theorem fs_98 (w : World) : FnSt w 98 (KT w 98) := fnOk_ (ca := 97) (by kernel_rfl)
theorem ck_98 (w : World) : chkB (KT w 98) 60 irR (FD w 98).body = true := by kernel_rfl
section
variable {c : Cx} {g : Heap} {fn l : Addr} {xs : List Value} {J : Nat → Value → Heap → Prop}
noncomputable def FoldStep (c : Cx) (fn : Addr) (g : Heap) (xs : List Value) (J : Nat → Value → Heap → Prop) : Prop :=
  ∀ i v x g', Sub g g' → xs[i]? = some x → J i v g' → Fn c (.ref fn) [v, x] g' [] none fun r g'' m' z' => J (i + 1) r g''
theorem w_redT {f : Fm} (hJ : ∀ i v g g', J i v g → Sub g g' → J i v g') (hf : Ex2 fun o fd => g.get? fn = some o ∧ o.data = .func fd) (hl : ∃ o, g.get? l = some o ∧ IsLs xs o) (step : FoldStep c fn g xs J)
    {I : Addr} {i0 : Nat} (h0 : i0 ≤ xs.length) {v : Value} (hv : J i0 v g) {v1 v2 b5 : Option Value} {vr : List (Option Value)} {z : Option Nat} {muts : Ledger} :
    wpS c f redT ⟨g, some (.ref fn) :: v1 :: v2 :: some (.ref I) :: some v :: b5 :: vr, [(I, IsLI l i0)], z⟩ (RetQ muts fun r g' m' z' => J xs.length r g') := by
  unfold redT
  repeat walk_at "w"
  refine ⟨[(I, IsLI l i0)], [], _, _, _, _, .refl _, Iter_LI hl h0, fun d σ => Ex4 fun g' v b5 z => σ = ⟨g', some (.ref fn) :: v1 :: v2 :: some (.ref I) :: some v :: b5 :: vr, [], z⟩ ∧ Sub g g' ∧ J (i0 + d) v g',
    Frz.now fun g' S => ⟨g', v, b5, _, rfl, S, hJ _ _ _ _ hv S⟩, ?_, ?_⟩
  · rintro d x U hd hx S' ⟨g', v, b5, z, rfl, S, hv⟩
    obtain ⟨o, fd, e1, e2⟩ := hf
    repeat walk_at "w"
    refine ⟨fun U => Plain.fn (S _ _ e1) e2, ?_⟩
    repeat walk_at "w"
    refine W.sz0 (W_fn [] [] _ (.refl _) (step _ v x g' S hx hv) ?_)
    rintro r g2 m2 z2 S2 hm2 hr
    have em : m2 = [] := by
      cases m2 with
      | nil => rfl
      | cons p _ => exact absurd (hm2 p.1 (.head _)) (fun h => nomatch h)
    subst em
    repeat walk_at "w"
    exact Frz.now fun g3 S3 => ⟨g3, r, some x, _, rfl, S.trans (S2.trans S3), hJ _ _ _ _ hr S3⟩
  · rintro _ S' ⟨g', v, b5, z, rfl, S, hv⟩
    rw [show i0 + (xs.length - i0) = xs.length by omega] at hv
    repeat walk_at "w"
    exact ⟨[], [], .refl _, fun U h => (nomatch h), fun g2 S2 U => hJ _ _ _ _ hv S2⟩
noncomputable abbrev bdR (a b d : Value) : List (Str × Value) := [("function", a), ("sequence", b), ("initial", d)]
theorem c_reduce3 (hd : c.d ≤ 900) (hJ : ∀ i v g g', J i v g → Sub g g' → J i v g') (hf : Ex2 fun o fd => g.get? fn = some o ∧ o.data = .func fd) (hl : ∃ o, g.get? l = some o ∧ IsLs xs o) (step : ∀ F, FoldStep (c.deep F) fn g xs J)
    {iv : Addr} {io : Obj} (hi : g.get? iv = some io) (hne : iv ≠ 90) (hc : io.cls ≠ .type "tuple") (hv : J 0 (.ref iv) g) : Fn c (.ref 98) [.ref fn, .ref l, .ref iv] g [] none fun r g' m' z' => J xs.length r g' := by
  refine fn_locB (fs_98 _) (GTok _) (by have : recursionLimit = 1000 := rfl; omega) (ck_98 _) (binds := bdR (.ref fn) (.ref l) (.ref iv)) (is := [0, 1, 2]) (binds_ob (T := 91) (items := #[.ref 90]) (n := 0) (by kernel_rfl) (by kernel_rfl) (by decide) (by kernel_rfl) (by kernel_rfl)) (by kernel_rfl)
    (vs := some (.ref fn) :: some (.ref l) :: some (.ref iv) :: none :: none :: none :: [none, none, none, none, none]) (by kernel_rfl) rfl fun f => ?_
  unfold irR
  repeat walk_at "w"
  refine L_iter (L_iterL (c := (c.deep f.F).up1) (.inl hl) fun I hI => ?_)
  repeat walk_at "w"
  refine W.gr fun G => W_isO hne hi (G.ob (a := 90) (by kernel_rfl) (by decide)) hc ?_
  repeat walk_at "w"
  have z := w_redT (c := c.deep f.F) (f := f) (z := none) (muts := []) (v1 := some (.ref l)) (v2 := some (.ref iv)) (b5 := none) (vr := [none, none, none, none, none]) hJ hf hl (step f.F) (I := I) (i0 := 0) (Nat.zero_le _) hv
  exact z
theorem c_reduce2 (hd : c.d ≤ 900) (hJ : ∀ i v g g', J i v g → Sub g g' → J i v g') (hf : Ex2 fun o fd => g.get? fn = some o ∧ o.data = .func fd) (hl : ∃ o, g.get? l = some o ∧ IsLs xs o) (step : ∀ F, FoldStep (c.deep F) fn g xs J)
    {x : Value} (hx : xs[0]? = some x) (hv : J 1 x g) : Fn c (.ref 98) [.ref fn, .ref l] g [] none fun r g' m' z' => J xs.length r g' := by
  refine fn_locB (fs_98 _) (GTok _) (by have : recursionLimit = 1000 := rfl; omega) (ck_98 _) (binds := bdR (.ref fn) (.ref l) (.ref 90)) (is := [0, 1, 2]) (binds_ob (T := 91) (items := #[.ref 90]) (n := 0) (by kernel_rfl) (by kernel_rfl) (by decide) (by kernel_rfl) (by kernel_rfl)) (by kernel_rfl)
    (vs := some (.ref fn) :: some (.ref l) :: some (.ref 90) :: none :: none :: none :: [none, none, none, none, none]) (by kernel_rfl) rfl fun f => ?_
  unfold irR
  repeat walk_at "w"
  refine L_iter (L_iterL (c := (c.deep f.F).up1) (.inl hl) fun I hI => ?_)
  repeat walk_at "w"
  refine W_isS ?_
  repeat walk_at "w"
  refine s_tryL ?_
  repeat walk_at "w"
  refine L_next hl .here hx ?_
  repeat walk_at "w"
  have z := w_redT (c := c.deep f.F) (f := f) (z := none) (muts := []) (v1 := some (.ref l)) (v2 := some (.ref 90)) (b5 := none) (vr := [none, none, none, none, none]) hJ hf hl (step f.F) (I := I) (i0 := 1) (List.getElem?_eq_some_iff.mp hx).1 hv
  exact z
end
section
variable {M : Model} {A : Around} {E : Value → Shared → Prop} {s : Shared}
theorem lam_new {ctx : CodeContext} {name qualname : Str} {firstLine argc posonly kwonly flags : Nat} {free : List Str} {isFunction : Bool} {l : List Str × List Str} {fd : FuncData} {Q : Value → Shared → Prop}
    (hQ : ∀ H tk o, (∃ cd, o = xCode qualname cd) → Sub s.heap H → H.objs.size = s.heap.objs.size + 5 → Q (.ref H.objs.size) { s with heap := H.push o, toks := tk }) :
    wpAny M A (newCode ctx name qualname firstLine argc posonly kwonly flags free isFunction none (some l) (some fd)) Q E s := by
  unfold newCode
  refine wpAny_bind (wpAny_mkText (wpAny_bind (wpAny_mkText (wpAny_bind (wpAny_mkText (wpAny_bind (wpAny_mkStrs fun fs =>
    wpAny_bind (wpAny_newObjAsIs_type (wpAny_bind (wpAny_alloc ?_))))))))))
  refine wpAny_bind (wpAny_mkStrs fun a => wpAny_bind (wpAny_newObjAsIs_type (wpAny_bind (wpAny_mkStrs fun b => wpAny_bind (wpAny_newObjAsIs_type
    (wpAny_bind (wpAny_bind (wpAny_alloc (wpAny_pure (wpAny_bind (wpAny_fresh (wpAny_bind (wpAny_mkText (wpAny_newObj_type ?_ (by size_fits)))))))))))))))
  refine hQ _ _ _ ?_ ?_ ?_
  · exact ⟨⟨_, _, _, _, _, _, _, _, _, _, _, _, _, _, _, _, _, _, _⟩, rfl⟩
  · exact ((((Sub.push _ _).trans (Sub.push _ _)).trans (Sub.push _ _)).trans (Sub.push _ _)).trans (Sub.push _ _)
  · simp only [Heap.size_push]
theorem lam_code {env : Env} {c P : Addr} {ps : Array Value} {pos : Pos} {firstLine : Nat} {name qualname : Str} {p : Arguments} {scope : Scope} {body : FuncBody}
    {Q : Value → Shared → Prop} (hc : env.code = .ref c) (C : CodeHd s.heap c P) (hP : s.heap.get? P = some (tabObj ps)) (ht : TriplesOk ps.toList) (hnf : codeAmong pos ps.toList = none)
    (hloc : (localNames p scope body).isSome = true)
    (hQ : ∀ h' tk cd, Heap.ExtBut P s.heap h' → h'.objs.size = s.heap.objs.size + 6 → h'.get? (s.heap.objs.size + 5) = some (xCode qualname cd) → h'.get? P = some (tabObj (ps ++ #[rawInt pos.line, rawInt pos.col, .ref (s.heap.objs.size + 5)])) →
      Q (.ref (s.heap.objs.size + 5)) { s with heap := h', toks := tk }) :
    wpAny M A (functionCode env pos firstLine name qualname p scope body) Q E s := by
  obtain ⟨o, vs, file, tf, flags, tg, inF, text, tt, op, ho, hd, h11, h2, h7, h9, h10, hop, hpd, htr, hne⟩ := C.code hP ht
  have e1 : op = tabObj ps := Option.some.inj (hop.symm.trans hP)
  subst e1
  unfold functionCode codeAt
  rw [hc, if_neg (show ¬ ((Value.ref c == Value.none) = true) from Bool.false_ne_true)]
  refine wpAny_bind (wpAny_fieldsOf ho hd ?_)
  rw [h11]
  refine wpAny_bind (wpAny_fieldsOf hop hpd ?_)
  obtain ⟨l, hl0⟩ := Option.isSome_iff_exists.mp hloc
  rw [hnf, h2, h7, h9, h10, hl0]
  refine wpAny_bind (lam_new fun H tk oc hcd hk hz => ?_)
  obtain ⟨cd, rfl⟩ := hcd
  have hop' : (H.push (xCode qualname cd)).get? P = some (tabObj ps) := Heap.get?_push_of_some _ (hk _ _ hop)
  refine wpAny_bind (wpAny_updateFieldsOfTheText hop' hpd ?_)
  have hnew : (Obj.mapFields (fun vs => if (codeAmong pos vs.toList).isSome = true then vs else vs ++ #[rawInt pos.line, rawInt pos.col, .ref H.objs.size]) (tabObj ps)).data =
      .fields (ps ++ #[rawInt pos.line, rawInt pos.col, .ref H.objs.size]) := by
    rw [Obj.data_mapFields hpd, hnf]; rfl
  have hget := Heap.get?_update_self (h := H.push (xCode qualname cd)) (fun o => Obj.mapFields (fun vs => if (codeAmong pos vs.toList).isSome = true then vs else
    vs ++ #[rawInt pos.line, rawInt pos.col, .ref H.objs.size]) o) hop' (Obj.isFreed_of_fields hnew)
  refine wpAny_bind (wpAny_fieldsOf hget hnew ?_)
  have hl : (ps ++ #[rawInt pos.line, rawInt pos.col, Value.ref H.objs.size]).toList = ps.toList ++ [rawInt pos.line, rawInt pos.col, .ref H.objs.size] := by simp
  rw [hl, codeAmong_snoc _ htr hnf]
  refine wpAny_pure ?_
  have hcP : H.objs.size ≠ P := Nat.ne_of_gt (Heap.lt_size (hk _ _ hop))
  rw [hz]
  refine hQ _ _ cd (fun b o' hb e => ((Heap.SameBut.update ..).extBut b o' hb (Heap.get?_push_of_some _ (hk b o' e)))) (by rw [Heap.size_after_update, Heap.size_push, hz]) ?_ ?_
  · rw [← hz]
    exact (Heap.get?_update_other _ _ (Ne.symm hcP)).trans (Heap.get?_push_size _ rfl)
  · rw [← hz]
    refine hget.trans ?_
    simp only [Obj.mapFields, hnf]
    rfl
theorem lam_make {name qual : Str} {params : Arguments} {body : Expr} {scope : Scope} {env : Env} {c P : Addr} {ps : Array Value} {pos : Pos} {firstLine : Nat} {mg : Str → Option Value} {clos : List (Str × Addr)} {Q : Value → Shared → Prop}
    (hcl : closureFor scope env = pure clos) (hge0 : env.globals = mainGlobals) (hg : s.heap.Ns mainGlobals mg) (hc : env.code = .ref c) (C : CodeHd s.heap c P) (hP : s.heap.get? P = some (tabObj ps)) (ht : TriplesOk ps.toList)
    (hnf : codeAmong pos ps.toList = none) (hgP : mainGlobals ≠ P) (hb : s.heap.BuiltinsAt mg P) (hloc : (localNames params scope (.expr body)).isSome = true)
    (h : ∀ c' a ctv h' tk cd, Heap.ExtBut P s.heap h' → h'.objs.size = s.heap.objs.size + (if clos.isEmpty then 7 else 8) → s.heap.get? c' = none → s.heap.get? a = none → h'.get? c' = some (xCode qual cd) →
      h'.get? a = some (kla_obj name qual params body scope clos ((mg "__name__").getD .none) c' ctv) → (clos = [] → ctv = .none) → h'.get? P = some (tabObj (ps ++ #[rawInt pos.line, rawInt pos.col, .ref c'])) → Q (.ref a) { s with heap := h', toks := tk }) :
    wpAny M A (makeFunction name qual params (.expr body) scope env [] [] [] pos firstLine) Q E s := by
  rw [makeFunction_eq]
  simp only [List.zip_nil_right, List.filterMap_nil, List.isEmpty_nil, if_true, pure_bind]
  obtain ⟨bm, ob, hbm, hne0, U, hneP, hbo, hcls, hdict, hdata⟩ := hb
  have hlt : P < s.heap.objs.size := Heap.lt_size hP
  unfold makeTail
  rw [hcl, hge0]
  refine wpAny_bind (wpAny_pure ?_)
  cases clos with
  | nil =>
    simp only [List.isEmpty_nil, if_true] at h ⊢
    refine wpAny_bind (wpAny_pure ?_)
    refine wpAny_bind (lam_code hc C hP ht hnf hloc fun h' tk cd hx hz hcd htb => ?_)
    have hg' := hg.extBut hx hgP
    refine wpAny_bind (wpAny_builtinsFor hg' hbm hne0 (hx _ _ hneP hbo) hcls hdict hdata ?_)
    refine wpAny_bind (wpAny_nsGet hg' ?_)
    refine wpAny_bind (wpAny_pure (wpAny_newObj_type (h (s.heap.objs.size + 5) h'.objs.size .none _ tk cd (fun b o hb e => Heap.get?_push_of_some _ (hx b o hb e)) (by rw [Heap.size_push, hz]) (Heap.get?_none_of_le (by omega)) (Heap.get?_none_of_le (by omega))
      (Heap.get?_push_of_some _ hcd) (Heap.get?_push_size _ rfl) (fun U => rfl) (Heap.get?_push_of_some _ htb)) (by size_fits)))
  | cons q r =>
    simp only [List.isEmpty_cons, Bool.false_eq_true, if_false] at h ⊢
    refine wpAny_bind (wpAny_newTextTuple ?_)
    refine wpAny_bind (lam_code hc (C.keeps fun b o e => Heap.get?_push_of_some _ e) (Heap.get?_push_of_some _ hP) ht hnf hloc fun h' tk cd hx hz hcd htb => ?_)
    have hg' := (hg.push _).extBut hx hgP
    have hx' : Heap.ExtBut P s.heap h' := fun b o hb' e => hx b o hb' (Heap.get?_push_of_some _ e)
    refine wpAny_bind (wpAny_builtinsFor hg' hbm hne0 (hx' _ _ hneP hbo) hcls hdict hdata ?_)
    refine wpAny_bind (wpAny_nsGet hg' ?_)
    refine wpAny_bind (wpAny_pure (wpAny_newObj_type (h _ h'.objs.size _ _ tk cd (fun b o hb e => Heap.get?_push_of_some _ (hx' b o hb e)) (by rw [Heap.size_push, hz]; show (s.heap.push _).objs.size + 6 + 1 = _; rw [Heap.size_push]) (Heap.get?_none_of_le ?_) (Heap.get?_none_of_le (by rw [hz]; show _ ≤ (s.heap.push _).objs.size + 6; rw [Heap.size_push]; omega))
      (Heap.get?_push_of_some _ hcd) (Heap.get?_push_size _ rfl) (fun e => nomatch e) (Heap.get?_push_of_some _ htb)) (by size_fits)))
    show _ ≤ (s.heap.push _).objs.size + 5
    rw [Heap.size_push]; omega
end
noncomputable def vsD (d : Data) : Option (Array Value) := match d with | .fields vs => some vs | _ => none
theorem vsD_ {d : Data} {vs : Array Value} (h : vsD d = some vs) : d = .fields vs := by
  cases d with
  | fields a => cases h; rfl
  | _ => cases h
noncomputable def isS (v : Value) : Bool := match v with | .str _ _ => true | _ => false
noncomputable def isI (v : Value) : Bool := match v with | .int _ _ => true | _ => false
noncomputable def isB (v : Value) : Bool := match v with | .bool _ => true | _ => false
theorem isS_ {v : Value} (h : isS v = true) : Ex2 fun x y => v = .str x y := by
  cases v with
  | str x y => exact ⟨x, y, rfl⟩
  | _ => cases h
theorem isI_ {v : Value} (h : isI v = true) : Ex2 fun x y => v = .int x y := by
  cases v with
  | int x y => exact ⟨x, y, rfl⟩
  | _ => cases h
theorem isB_ {v : Value} (h : isB v = true) : ∃ b, v = .bool b := by
  cases v with
  | bool b => exact ⟨b, rfl⟩
  | _ => cases h
noncomputable def hdV (P : Addr) (vs : Array Value) : Bool := (vs[11]? == some (.ref P)) && (vs.getD 11 .none == .ref P) && isS (vs.getD 18 .none) && isI (vs.getD 7 .none) && isB (vs.getD 9 .none) && isI (vs.getD 10 .none)
noncomputable def hdOk (o : Obj) (P : Addr) : Bool := o.cls == .type "code" && (match vsD o.data with | some vs => hdV P vs | none => false)
theorem hdV_ {vs : Array Value} {P : Addr} (k : hdV P vs = true) : Ex7 fun x y x2 y2 b x3 y3 => vs[11]? = some (.ref P) ∧ vs.getD 11 .none = .ref P ∧ vs.getD 18 .none = .str x y ∧ vs.getD 7 .none = .int x2 y2 ∧ vs.getD 9 .none = .bool b ∧ vs.getD 10 .none = .int x3 y3 := by
  unfold hdV at k
  simp only [Bool.and_eq_true, beq_iff_eq] at k
  obtain ⟨⟨⟨⟨⟨h1, h2⟩, h3⟩, h4⟩, h5⟩, h6⟩ := k
  obtain ⟨x, y, h3⟩ := isS_ h3
  obtain ⟨x2, y2, h4⟩ := isI_ h4
  obtain ⟨b, h5⟩ := isB_ h5
  obtain ⟨x3, y3, h6⟩ := isI_ h6
  exact ⟨x, y, x2, y2, b, x3, y3, h1, h2, h3, h4, h5, h6⟩
theorem hdOk_ {o : Obj} {c P : Addr} {h : Heap} (e : h.get? c = some o) (k : hdOk o P = true) (hne : c ≠ P) : CodeHd h c P := by
  unfold hdOk at k
  rw [Bool.and_eq_true] at k
  obtain ⟨k0, k⟩ := k
  cases q : vsD o.data with
  | none => rw [q] at k; cases k
  | some vs =>
    rw [q] at k
    obtain ⟨x, y, x2, y2, b, x3, y3, h1, h2, h3, h4, h5, h6⟩ := hdV_ k
    exact ⟨o, vs, _, _, _, _, _, _, _, e, beq_iff_eq.mp k0, vsD_ q, h1, h2, h3, h4, h5, h6, hne⟩
noncomputable abbrev tabP (ps : Array Value) : Obj → Prop := fun o => o = tabObj ps
noncomputable def bmOk (o : Obj) : Bool := o.cls == .type "module" && (match o.dict, o.data with | some d, .plain => Nat.beq d 0 | _, _ => false)
theorem bm_at {w : World} {h : Heap} (G : Gr w h) : h.BuiltinsAt (lkIn (obAt w 3)) 117 := by
  have k : bmOk (obAt w 4) = true := by kernel_rfl
  have e := G.ob (a := 4) (by kernel_rfl) (by decide)
  generalize obAt w 4 = o at k e
  unfold bmOk at k
  rw [Bool.and_eq_true] at k
  obtain ⟨k0, k⟩ := k
  split at k
  · rename_i d h1 h2
    have e1 : d = 0 := Nat.eq_of_beq_eq_true k
    subst e1
    exact ⟨4, o, by kernel_rfl, by decide, by decide, by decide, e, beq_iff_eq.mp k0, h1, h2⟩
  · cases k
section
variable {c : Cx} {f : Fm} {σ : St} {env : Env}
theorem At.chgG {h h' : Heap} {a : Addr} {P P' : Obj → Prop} {led' : Ledger} {F : List Addr} {z : Option Nat} (A : At c f σ h) (hl : LU σ.led a P P' led') (hs : Heap.ExtBut a h h') {o : Obj} (e : h'.get? a = some o) (hP : P' o) (hF : ∀ b ∈ F, h.get? b = none) (hz : ∀ n, z = some n → h'.objs.size = n) :
    At c f ⟨more σ.g h' F, σ.vs, led', z⟩ h' ∧ Mv c.fs f.own σ.g σ.led h (more σ.g h' F) led' h' := by
  obtain ⟨a', m'⟩ := A.chgB hl hs e hP
  have off : ∀ b, b ∈ f.all ∨ b ∈ adr σ.led → b ∉ F := fun b hb hF' => by
    have hx : ∃ o, h.get? b = some o := hb.elim (A.hp.here b) A.hp.adrHere
    obtain ⟨o, eo⟩ := hx
    rw [hF b hF'] at eo; cases eo
  have hadr : ∀ b ∈ adr led', b ∈ adr σ.led := fun b hb => (m'.ld b hb).elim id fun q => by
    have := a'.hp.adrHere hb
    obtain ⟨l1, l2, e1, e2⟩ := chgL_split (P' := P') A.hp.nd hl.mem
    rw [hl.chg A.hp.nd] at e2
    rw [e2] at hb; rw [e1]
    simpa using hb
  have gn : ∀ b, σ.g.get? b = none → b ∉ F → (more σ.g h' F).get? b = none := fun b hb hba => by
    cases q : (more σ.g h' F).get? b with
    | none => rfl
    | some o =>
      rcases more_of a'.hp.sub q with z | z
      · rw [z] at hb; cases hb
      · exact absurd z hba
  refine ⟨⟨⟨A.hp.gr.sub (more_sub a'.hp.sub), more_in, a'.hp.ld, a'.hp.here, fun b hb => gn b (A.hp.offO b hb) (off b (.inl (A.hp.oa b hb))), fun b hb => gn b (a'.hp.offL b hb) (off b (.inr (hadr b hb))), a'.hp.nd, a'.hp.ap, a'.hp.oa, fun b hb => ?_, hz⟩, a'.fr⟩,
    ⟨more_sub a'.hp.sub, m'.exs, m'.dom, fun b o e => ?_, m'.ld⟩⟩
  · obtain ⟨q1, q2, q3⟩ := a'.hp.frm b hb
    refine ⟨q1, gn b q2 fun hF' => ?_, q3⟩
    obtain ⟨⟨o, eo, _⟩, _⟩ := A.hp.frm b hb
    rw [hF b hF'] at eo; cases eo
  · rcases more_of a'.hp.sub e with z | z
    · exact .inl z
    · exact .inr (.inl (hF b z))
theorem W_lam {K : Tb} (e : EnvOk f env K.names K.cw) (henv : env.code = .ref 119) {params : Arguments} {body : Expr} {scope : Scope} {pos : Pos} {clos : List (Str × Addr)} {ps : Array Value} {led' : Addr → Ledger} {Q : Value → St → Prop}
    (hdef : defaultsOf params env = ([], [])) (hcl : closureFor scope env = pure clos) (hnf : codeAmong pos ps.toList = none) (ht : TriplesOk ps.toList) (hloc : (localNames params scope (.expr body)).isSome = true)
    (hm : ∀ c', LU σ.led 117 (tabP ps) (tabP (ps ++ #[rawInt pos.line, rawInt pos.col, .ref c'])) (led' c'))
    (q : ∀ c' a ctv cd pm g', Sub σ.g g' → g'.get? c' = some (xCode (env.qual ++ "<lambda>") cd) → g'.get? a = some (kla_obj "<lambda>" (env.qual ++ "<lambda>") params body scope clos pm c' ctv) → (clos = [] → ctv = .none) →
      Q (.ref a) ⟨g', σ.vs, led' c', szUp σ (if clos.isEmpty then 7 else 8)⟩) : W c f (eval (.Lambda params body scope pos) env) σ Q := by
  intro A E h tk r a
  have G : Gr c.w h := a.hp.gr.sub a.hp.sub
  have e119 := G.ob (a := 119) (by kernel_rfl) (by decide)
  have hd : hdOk (obAt c.w 119) 117 = true := by kernel_rfl
  obtain ⟨oP, eP, hP⟩ := a.hp.ld _ (hm 0).mem
  subst hP
  refine kla_eval hdef (lam_make (s := mk c.s h tk) hcl e.glo G.glob henv (hdOk_ e119 hd (by decide)) eP ht hnf (by decide) (bm_at G) hloc fun c' fa ctv h' tk' cd hx hz hc' hfa h1 h2 h3 h4 => ?_)
  obtain ⟨a', m'⟩ := a.chgG (hm c') hx h4 rfl (F := [c', fa]) (z := szUp σ (if clos.isEmpty then 7 else 8)) (fun b hb => by
    rcases List.mem_cons.mp hb with rfl | hb
    · exact hc'
    · rw [List.mem_singleton.mp hb]; exact hfa) (fun n e => by
    unfold szUp at e
    obtain ⟨m, e1, rfl⟩ := Option.map_eq_some_iff.mp e
    rw [hz, ← a.hp.sz m e1])
  exact ⟨_, h', tk', rfl, a', m', q c' fa ctv cd _ _ m'.gg (more_at h1 (.head _)) (more_at h2 (.tail _ (.head _))) h3⟩
end
noncomputable def RowG (g : Heap) (v : Value) (L : List Th) : Prop := LsG g v (L.map (·.1)) ∧ ThsG g L
theorem RowG.sub {g g' : Heap} {v : Value} {L : List Th} (x : RowG g v L) (S : Sub g g') : RowG g' v L := ⟨x.1.sub S, x.2.sub S⟩
noncomputable def RowsG (g : Heap) (v : Value) (Ks : List (List Th)) : Prop := ∃ vs, LsG g v vs ∧ AllG RowG g vs Ks
theorem RowsG.sub {g g' : Heap} {v : Value} {Ks : List (List Th)} (x : RowsG g v Ks) (S : Sub g g') : RowsG g' v Ks := let ⟨vs, a, b⟩ := x; ⟨vs, a.sub S, AllG.sub (R := RowG) (fun U U U U h S => h.sub S) b S⟩
noncomputable def lamOf (st : Option Stmt) : LamS := match st with
  | some (.Assign _ (.Call _ (.Lambda a e s p :: _) _ _) _) => ⟨a, e, s, p⟩
  | _ => ⟨⟨[], [], none, [], [], none, []⟩, .Constant .none 0 default, default, default⟩
noncomputable def lamJ (w : World) (j : Nat) : LamS := lamOf ((bodyOf (fdOf ((hd.ktop_241 w.params).get 120)))[j]?)
noncomputable abbrev KL (w : World) (j : Nat) : Tb := ⟨(lamJ w j).s.names, GT, true⟩
noncomputable abbrev sumE : PE := .bin .Add (.sub (.v 0) (.neg (.int 1))) (.sub (.v 1) (.int 1))
noncomputable def irLam (sa : Addr) (it : Bool) : PS := .ret (.bin .Add (.v 0) (.list (.cons (.call (.g (.ref sa)) (.cons (.sub (.v 1) (.int 0)) (.cons (match it with | false => sumE | true => .call (.g (.builtin "iter")) (.cons sumE .nil)) (.cons (.v 2) .nil)))) .nil)))
theorem ck_l2 (w : World) : chkB (KL w 2) 40 (irLam 76 false) (.expr (lamJ w 2).e) = true := by kernel_rfl
theorem ck_l3 (w : World) : chkB (KL w 3) 40 (irLam 76 true) (.expr (lamJ w 3).e) = true := by kernel_rfl
theorem ck_l4 (w : World) : chkB (KL w 4) 40 (irLam 82 false) (.expr (lamJ w 4).e) = true := by kernel_rfl
theorem ck_l5 (w : World) : chkB (KL w 5) 40 (irLam 82 true) (.expr (lamJ w 5).e) = true := by kernel_rfl
noncomputable def SelOk (c : Cx) (sa : Addr) (s : Int) (it : Bool) : Prop := ∀ {g : Heap} {k : KA} {L : List Th} {l : Addr} {n : Int} {tn : Tok} {sz : Option Nat}, -1 ≤ n → n ≤ 5 → Gr c.w g → KC c g k → (∃ o, g.get? l = some o ∧ IsLs (L.map (·.1)) o) → ThsG g L → InOrd L → L.length ≤ 900 →
  match it with
  | false => Fn c (.ref sa) [.int n tn, .ref l, .ref k.cls] g [] sz (SelP s n L)
  | true => ∀ I, Fn c (.ref sa) [.int n tn, .ref I, .ref k.cls] g [(I, IsLI l 0)] sz (SelP s n L)
theorem sel76L {c : Cx} (hd : c.d ≤ 319) (hu : c.u ≤ 97) : SelOk c 76 1 false := fun h0 h5 G K hl hT hI hL => c_smallL hd hu h0 h5 G K hl hT hI hL
theorem sel76X {c : Cx} (kf : c.kf = true) (hd : c.d ≤ 319) (hu : c.u ≤ 97) : SelOk c 76 1 true := fun h0 h5 G K hl hT hI hL I => c_smallX kf hd hu h0 h5 G K hl hT hI hL
theorem sel82L {c : Cx} (hd : c.d ≤ 319) (hu : c.u ≤ 97) : SelOk c 82 (-1) false := fun h0 h5 G K hl hT hI hL => c_largeL hd hu h0 h5 G K hl hT hI hL
theorem sel82X {c : Cx} (kf : c.kf = true) (hd : c.d ≤ 319) (hu : c.u ≤ 97) : SelOk c 82 (-1) true := fun h0 h5 G K hl hT hI hL I => c_largeX kf hd hu h0 h5 G K hl hT hI hL
noncomputable def LamP (s : Int) (Ks : List (List Th)) (b : Blk Th) (K : List Th) : Post := fun r g' m' z' => ∃ ys, RowsG g' r (Ks ++ [ys]) ∧ Best (lt2 s) b.w (K ++ b.row) ys
section
variable {c : Cx} {f : Fm} {k : KA} {g : Heap} {Ks : List (List Th)} {K : List Th} {b : Blk Th} {rv bv : Value} {s : Int} {sa : Addr}
theorem w_lamR {it : Bool} (sel : SelOk c sa s it) (pl : ∀ {g}, Gr c.w g → Plain c g (.ref sa)) (G : Gr c.w g) (KK : KC c g k) (hR : RowsG g rv (Ks ++ [K])) (hB : BlkG g bv b) (hw : -1 ≤ b.w ∧ b.w ≤ 5) (hI : InOrd (K ++ b.row)) (hl : (K ++ b.row).length ≤ 900) (hk : Ks.length ≤ 100)
    {vr : List (Option Value)} : wpS c f (irLam sa it) ⟨g, some rv :: some bv :: some (.ref k.cls) :: vr, [], none⟩ (RetQ [] (LamP s (Ks ++ [K]) b K)) := by
  obtain ⟨vs, hv, hA⟩ := hR
  have hvl : vs.length = Ks.length + 1 := by have := hA.1; simpa using this
  obtain ⟨lr, o, rfl, er, qr⟩ := hv
  obtain ⟨vs0, v1, rfl⟩ : Ex2 fun vs0 v1 => vs = vs0 ++ [v1] := ⟨vs.dropLast, vs.getLast (by intro z; rw [z] at hvl; cases hvl), (List.dropLast_concat_getLast _).symm⟩
  have hl0 : vs0.length = Ks.length := by simpa using hvl
  obtain ⟨K', eK, hK⟩ := hA.2 Ks.length v1 (by rw [← hl0]; simp)
  rw [List.getElem?_append_right (Nat.le_refl _)] at eK
  simp only [Nat.sub_self, List.getElem?_cons_zero, Option.some.injEq] at eK
  subst eK
  have fin : ∀ {g2 : Heap} {r : Value} {z : Option Nat} {vs' : List (Option Value)} {led : Ledger}, Sub g g2 → ThsG g2 (K ++ b.row) → SelP s b.w (K ++ b.row) r g2 led z → W c f (newList [r]) ⟨g2, vs', led, z⟩ (kBin2 c f .Add (.ref lr) (kRet (RetQ [] (LamP s (Ks ++ [K]) b K)))) := by
    intro g2 r z vs' led S2 hT2 hs
    obtain ⟨ys, hys, hB2⟩ := hs
    have hyt : ThsG g2 ys := fun t ht => hT2 t (hB2.sub ht)
    refine W_newList (by show (1 : Nat) ≤ _; decide) fun D hD1 hD2 => ?_
    refine L_addL (.inl ⟨o, S2 _ _ er, qr⟩) (.inr (.head _)) (by show (vs0 ++ [v1]).length + 1 ≤ 1000; omega) fun D3 hD3 => ?_
    refine k_ret (k_rq ⟨(D3, IsLs (vs0 ++ [v1] ++ [r])) :: (D, IsLs [r]) :: led, [], by rw [List.append_nil], fun U h => (nomatch h), fun g3 S3 hx => ⟨ys, ⟨vs0 ++ [v1] ++ [r], ?_, ?_⟩, hB2⟩⟩)
    · obtain ⟨o3, e3, q3⟩ := hx _ (.head _)
      exact ⟨D3, o3, rfl, e3, q3⟩
    · exact (AllG.sub (R := RowG) (fun U U U U h S => h.sub S) hA (S2.trans S3)).snoc ⟨hys.sub S3, hyt.sub S3⟩
  unfold irLam
  cases it with
  | false =>
    repeat walk_at "w"
    refine ⟨pl, ?_⟩
    repeat walk_at "w"
    refine L_w hB fun tw => ?_
    repeat walk_at "w"
    refine L_last (.inl ⟨o, er, qr⟩) ?_
    repeat walk_at "w"
    refine L_row hB fun rr hrr hrt => ?_
    repeat walk_at "w"
    obtain ⟨l1, o1, rfl, e1, q1⟩ := hK.1
    obtain ⟨l2, o2, rfl, e2, q2⟩ := hrr
    refine L_addL (.inl ⟨o1, e1, q1⟩) (.inl ⟨o2, e2, q2⟩) (by rw [← List.length_append, ← List.map_append, List.length_map]; omega) fun D hD => ?_
    repeat walk_at "w"
    rw [← List.map_append]
    refine W.frz [(D, IsLs ((K ++ b.row).map (·.1)))] [] (.refl _) fun g2 S2 hx => ?_
    obtain ⟨oD, eD, qD⟩ := hx _ (.head _)
    have hT : ThsG g2 (K ++ b.row) := fun t ht => (List.mem_append.mp ht).elim (fun h => (hK.2 t h).sub S2) fun h => (hrt t h).sub S2
    refine W_fn [] [] _ (.refl _) (sel hw.1 hw.2 (G.sub S2) (KK.sub S2) ⟨oD, eD, qD⟩ hT hI hl) ?_
    rintro r g3 m3 z3 S3 hm3 hs
    rw [List.append_nil]
    repeat walk_at "w"
    exact fin (S2.trans S3) (hT.sub S3) hs
  | true =>
    repeat walk_at "w"
    refine ⟨pl, ?_⟩
    repeat walk_at "w"
    refine L_w hB fun tw => ?_
    repeat walk_at "w"
    refine L_last (.inl ⟨o, er, qr⟩) ?_
    repeat walk_at "w"
    refine L_row hB fun rr hrr hrt => ?_
    repeat walk_at "w"
    obtain ⟨l1, o1, rfl, e1, q1⟩ := hK.1
    obtain ⟨l2, o2, rfl, e2, q2⟩ := hrr
    refine L_addL (.inl ⟨o1, e1, q1⟩) (.inl ⟨o2, e2, q2⟩) (by rw [← List.length_append, ← List.map_append, List.length_map]; omega) fun D hD => ?_
    repeat walk_at "w"
    rw [← List.map_append]
    refine W.frz [(D, IsLs ((K ++ b.row).map (·.1)))] [] (.refl _) fun g2 S2 hx => ?_
    obtain ⟨oD, eD, qD⟩ := hx _ (.head _)
    have hT : ThsG g2 (K ++ b.row) := fun t ht => (List.mem_append.mp ht).elim (fun h => (hK.2 t h).sub S2) fun h => (hrt t h).sub S2
    refine L_iter (L_iterL (c := c.up1) (.inl ⟨oD, eD, qD⟩) fun I hI0 => ?_)
    repeat walk_at "w"
    refine W_fn [(I, IsLI D 0)] [] _ (.refl _) (sel hw.1 hw.2 (G.sub S2) (KK.sub S2) ⟨oD, eD, qD⟩ hT hI hl I) ?_
    rintro r g3 m3 z3 S3 hm3 hs
    rw [List.append_nil]
    repeat walk_at "w"
    exact fin (S2.trans S3) (hT.sub S3) hs
end
noncomputable abbrev sKey : Str := ⟨⟨[107, 101, 121]⟩⟩
noncomputable abbrev bdL (a b : Value) : List (Str × Value) := [("rows", a), ("block", b)]
noncomputable abbrev fvL (w : World) (j : Nat) (x : Value) : List (Option Value) := (KL w j).names.map fun q => bif q.2 == NameKind.free then some x else none
structure LJ (w : World) (j : Nat) (sa : Addr) (it : Bool) : Prop where
  knd : (lamJ w j).s.kind = .function
  gen : (lamJ w j).s.isGenerator = false
  co : (lamJ w j).s.isCoroutine = false
  nd : ((KL w j).names.map (·.1)).Nodup
  ck : chkB (KL w j) 40 (irLam sa it) (.expr (lamJ w j).e) = true
  fr : ((KL w j).names.all fun q => !(q.2 == NameKind.free) || q.1 == sKey) = true
  nc : noK .cell (KL w j).names = true
  clo : ∀ kc, (frNs 0 [(sKey, kc)] (KL w j).names).filterMap (·.2) = [kc]
  ba : ∀ q pm cd ct kc v1 v2, bindArgs (kla_fn "<lambda>" q (lamJ w j).a (lamJ w j).e (lamJ w j).s [(sKey, kc)] pm cd ct) ⟨[v1, v2], []⟩ = pure (bdL v1 v2)
  bc : ∀ v1 v2, bindChk (KL w j).names true [0, 1] (bdL v1 v2) = true
  vs : ∀ v1 v2 x, ∃ vr, setAll (fvL w j x) [0, 1] ((bdL v1 v2).map (·.2)) = some v1 :: some v2 :: some x :: vr
theorem lj2 (w : World) : LJ w 2 76 false := ⟨by kernel_rfl, by kernel_rfl, by kernel_rfl, of_decide_eq_true (by kernel_rfl), ck_l2 w, by kernel_rfl, by kernel_rfl, fun U => by kernel_rfl, fun U U U U U U U => by kernel_rfl, fun U U => by kernel_rfl, fun U U U => ⟨[none], by kernel_rfl⟩⟩
theorem lj3 (w : World) : LJ w 3 76 true := ⟨by kernel_rfl, by kernel_rfl, by kernel_rfl, of_decide_eq_true (by kernel_rfl), ck_l3 w, by kernel_rfl, by kernel_rfl, fun U => by kernel_rfl, fun U U U U U U U => by kernel_rfl, fun U U => by kernel_rfl, fun U U U => ⟨[none, none], by kernel_rfl⟩⟩
theorem lj4 (w : World) : LJ w 4 82 false := ⟨by kernel_rfl, by kernel_rfl, by kernel_rfl, of_decide_eq_true (by kernel_rfl), ck_l4 w, by kernel_rfl, by kernel_rfl, fun U => by kernel_rfl, fun U U U U U U U => by kernel_rfl, fun U U => by kernel_rfl, fun U U U => ⟨[none], by kernel_rfl⟩⟩
theorem lj5 (w : World) : LJ w 5 82 true := ⟨by kernel_rfl, by kernel_rfl, by kernel_rfl, of_decide_eq_true (by kernel_rfl), ck_l5 w, by kernel_rfl, by kernel_rfl, fun U => by kernel_rfl, fun U U U U U U U => by kernel_rfl, fun U U => by kernel_rfl, fun U U U => ⟨[none, none], by kernel_rfl⟩⟩
noncomputable def LamG (w : World) (j : Nat) (fa kc : Addr) (g : Heap) : Prop := Ex5 fun q pm ctv lc cd => g.get? fa = some (kla_obj "<lambda>" q (lamJ w j).a (lamJ w j).e (lamJ w j).s [(sKey, kc)] pm lc ctv) ∧ g.get? lc = some (xCode q cd)
theorem LamG.sub {w : World} {j : Nat} {fa kc : Addr} {g g' : Heap} (x : LamG w j fa kc g) (S : Sub g g') : LamG w j fa kc g' := let ⟨q, pm, ct, lc, cd, a, b⟩ := x; ⟨q, pm, ct, lc, cd, S _ _ a, S _ _ b⟩
section
variable {c : Cx} {k : KA} {g : Heap} {Ks : List (List Th)} {K : List Th} {b : Blk Th} {rv bv : Value} {s : Int} {sa fa kc : Addr} {j : Nat}
theorem c_lamR {it : Bool} (J : LJ c.w j sa it) (hL : LamG c.w j fa kc g) (hc : g.IsCell kc (some (.ref k.cls))) (hd : c.d ≤ 318) (sel : ∀ F, SelOk (c.deep F) sa s it) (pl : ∀ {c g}, Gr c.w g → Plain c g (.ref sa)) (G : Gr c.w g) (KK : KC c g k) (hR : RowsG g rv (Ks ++ [K])) (hB : BlkG g bv b) (hw : -1 ≤ b.w ∧ b.w ≤ 5) (hI : InOrd (K ++ b.row)) (hl : (K ++ b.row).length ≤ 900) (hk : Ks.length ≤ 100) :
    Fn c (.ref fa) [rv, bv] g [] none (LamP s (Ks ++ [K]) b K) := by
  obtain ⟨q, pm, ctv, lc, cd, e1, e2⟩ := hL
  obtain ⟨vr, hvs⟩ := J.vs rv bv (.ref k.cls)
  have fr : ∀ (i : Nat) (x : Str), (KL c.w j).names[i]? = some (x, NameKind.free) → x = sKey := fun i x e => by
    have := List.all_eq_true.mp J.fr _ (List.mem_of_getElem? e)
    simpa using this
  refine fn_run (fd := kla_fn "<lambda>" q (lamJ c.w j).a (lamJ c.w j).e (lamJ c.w j).s [(sKey, kc)] pm (.ref lc) ctv) (K := KL c.w j) (ps := irLam sa it) (n := 40) (fvs := fvL c.w j (.ref k.cls)) (is := [0, 1]) (binds := bdL rv bv)
    (fun G => ⟨⟨_, e1, rfl⟩, J.knd, J.gen, J.co, rfl, rfl, code_x e2⟩) (GTok _) rfl (by have : recursionLimit = 1000 := rfl; omega) rfl J.nd (.inr ⟨J.nc, by rw [J.clo]; simp⟩)
    (fun i x e => ⟨kc, some (.ref k.cls), by rw [fr i x e]; simp, hc, by rw [List.getElem?_map, e]; rfl⟩) (fun i x kd e hk => ?_) (by rw [List.length_map]) (fun U U U => BindsTo.of_eq (J.ba ..)) (J.bc ..) J.ck fun f => ?_
  · rw [List.getElem?_map, e]
    show some (bif kd == NameKind.free then _ else none) = _
    rw [show (kd == NameKind.free) = false from by cases kd <;> first | rfl | exact absurd rfl hk]; rfl
  · rw [hvs]
    exact w_lamR (sel f.F) pl G ⟨KK.gen, KK.kw⟩ hR hB hw hI hl hk
end
noncomputable def CntOk (bs : List (Blk Th)) : Prop := (bs.flatMap (·.row)).Pairwise fun a b => a.2.2 < b.2.2
theorem CntOk.row {bs : List (Blk Th)} (x : CntOk bs) {i : Nat} (hi : i < bs.length) : (bAt bs i).row.Pairwise fun a b => a.2.2 < b.2.2 := by
  have := (List.pairwise_flatMap.mp x).1 (bAt bs i) (by unfold bAt; rw [List.getD_eq_getElem?_getD, List.getElem?_eq_getElem hi]; exact List.getElem_mem hi)
  exact this
theorem CntOk.cross {bs : List (Blk Th)} (x : CntOk bs) {i j : Nat} (hij : i < j) (hj : j < bs.length) : ∀ t ∈ (bAt bs i).row, ∀ u ∈ (bAt bs j).row, t.2.2 < u.2.2 := by
  have e : ∀ i (hi : i < bs.length), bAt bs i = bs[i] := fun i hi => by unfold bAt; rw [List.getD_eq_getElem?_getD, List.getElem?_eq_getElem hi]; rfl
  rw [e i (by omega), e j hj]
  exact List.pairwise_iff_getElem.mp (List.pairwise_flatMap.mp x).2 i j (by omega) hj hij
structure FoldK (s : Int) (bs : List (Blk Th)) (i : Nat) (Ks : List (List Th)) : Prop where
  len : Ks.length = i + 1
  zero : Ks.getD 0 [] = []
  next : ∀ j < i, Best (lt2 s) (bAt bs j).w (Ks.getD j [] ++ (bAt bs j).row) (Ks.getD (j + 1) [])
theorem FoldK.home {s : Int} {bs : List (Blk Th)} {i : Nat} {Ks : List (List Th)} (x : FoldK s bs i Ks) : ∀ j ≤ i, ∀ t ∈ Ks.getD j [], ∃ m < j, t ∈ (bAt bs m).row
  | 0, _, t, h => by rw [x.zero] at h; cases h
  | j + 1, hj, t, h => by
    rcases List.mem_append.mp ((x.next j (by omega)).sub h) with h | h
    · obtain ⟨m, hm, h⟩ := x.home j (by omega) t h; exact ⟨m, by omega, h⟩
    · exact ⟨j, by omega, h⟩
theorem FoldK.ord {s : Int} {bs : List (Blk Th)} {i : Nat} {Ks : List (List Th)} (hC : CntOk bs) (x : FoldK s bs i Ks) (hi : i < bs.length) : InOrd (Ks.getD i [] ++ (bAt bs i).row) := by
  refine List.pairwise_append.mpr ⟨?_, List.Pairwise.imp (S := fun a b : Th => half a.2 = half b.2 → a.2.2 < b.2.2) (fun {a b} h _ => h) (hC.row hi), fun t ht u hu U => ?_⟩
  · cases i with
    | zero => rw [x.zero]; exact .nil
    | succ i =>
      obtain ⟨L, U, hp, e⟩ := x.next i (Nat.lt_succ_self _)
      rw [e]
      refine (hp.sublist (List.take_sublist _ _)).imp fun {a b} h e => ?_
      unfold lt2 thLt at h
      simp only [Bool.or_eq_true, Bool.and_eq_true, decide_eq_true_eq, beq_iff_eq] at h
      rcases h with h | h
      · rw [e, Int.sub_self, Int.zero_mul] at h; omega
      · exact h.2
  · obtain ⟨m, hm, h⟩ := x.home i (Nat.le_refl _) t ht
    exact hC.cross hm hi t h u hu
theorem FoldK.lenK {s : Int} {bs : List (Blk Th)} {i : Nat} {Ks : List (List Th)} (hw : ∀ b ∈ bs, -1 ≤ b.w ∧ b.w ≤ 5) (x : FoldK s bs i Ks) (hi : i ≤ bs.length) : (Ks.getD i []).length ≤ 5 := by
  cases i with
  | zero => rw [x.zero]; exact Nat.zero_le _
  | succ i =>
    obtain ⟨L, U, hp, e⟩ := x.next i (Nat.lt_succ_self _)
    have := (hw (bAt bs i) (by unfold bAt; rw [List.getD_eq_getElem?_getD, List.getElem?_eq_getElem hi]; exact List.getElem_mem hi)).2
    rw [e, List.length_take]; omega
theorem FoldK.snoc {s : Int} {bs : List (Blk Th)} {i : Nat} {Ks : List (List Th)} {ys : List Th} (x : FoldK s bs i Ks) (h : Best (lt2 s) (bAt bs i).w (Ks.getD i [] ++ (bAt bs i).row) ys) : FoldK s bs (i + 1) (Ks ++ [ys]) := by
  have hl := x.len
  have g : ∀ j ≤ i, (Ks ++ [ys]).getD j [] = Ks.getD j [] := fun j hj => by
    simp only [List.getD_eq_getElem?_getD]; rw [List.getElem?_append_left (by omega)]
  refine ⟨by simp [hl], by rw [g 0 (Nat.zero_le _), x.zero], fun j hj => ?_⟩
  by_cases e : j = i
  · subst e
    rw [g j (Nat.le_refl _)]
    have : (Ks ++ [ys]).getD (j + 1) [] = ys := by simp only [List.getD_eq_getElem?_getD]; rw [List.getElem?_append_right (by omega), hl]; simp
    rw [this]; exact h
  · rw [g j (by omega), g (j + 1) (by omega)]; exact x.next j (by omega)
noncomputable def FoldJ (s : Int) (bs : List (Blk Th)) (i : Nat) (v : Value) (g : Heap) : Prop := ∃ Ks, RowsG g v Ks ∧ FoldK s bs i Ks
theorem FoldJ.sub {s : Int} {bs : List (Blk Th)} (i : Nat) (v : Value) (g g' : Heap) (x : FoldJ s bs i v g) (S : Sub g g') : FoldJ s bs i v g' := let ⟨Ks, a, b⟩ := x; ⟨Ks, a.sub S, b⟩
structure BksOk (bs : List (Blk Th)) : Prop where
  w : ∀ b ∈ bs, -1 ≤ b.w ∧ b.w ≤ 5
  cnt : CntOk bs
  row : ∀ b ∈ bs, b.row.length ≤ 20
  len : bs.length ≤ 40
section
variable {c : Cx} {k : KA} {g : Heap} {bs : List (Blk Th)} {bvs : List Value} {s : Int} {sa fa kc : Addr} {j : Nat}
theorem fold_step {it : Bool} (J : LJ c.w j sa it) (hL : LamG c.w j fa kc g) (hc : g.IsCell kc (some (.ref k.cls))) (hd : c.d ≤ 318) (sel : ∀ F, SelOk (c.deep F) sa s it) (pl : ∀ {c g}, Gr c.w g → Plain c g (.ref sa)) (G : Gr c.w g) (KK : KC c g k) (hB : AllG BlkG g bvs bs) (ok : BksOk bs) :
    FoldStep c fa g bvs (FoldJ s bs) := by
  rintro i v x g' S hx ⟨Ks, hR, hK⟩
  obtain ⟨b, eb, hb⟩ := hB.2 i x hx
  have hi := (List.getElem?_eq_some_iff.mp eb).1
  have ebA : bAt bs i = b := by unfold bAt; rw [List.getD_eq_getElem?_getD, eb]; rfl
  have hbm : b ∈ bs := List.mem_of_getElem? eb
  have hl := hK.len
  have hne : Ks ≠ [] := by intro z; rw [z] at hl; cases hl
  have eK : Ks = Ks.dropLast ++ [Ks.getLast hne] := (List.dropLast_concat_getLast hne).symm
  have elast : Ks.getLast hne = Ks.getD i [] := by
    rw [List.getLast_eq_getElem, List.getD_eq_getElem?_getD, List.getElem?_eq_getElem (by omega)]
    show Ks[Ks.length - 1] = Ks[i]
    congr 1; omega
  have hI := hK.ord ok.cnt hi
  rw [ebA, ← elast] at hI
  have h5 := hK.lenK ok.w (Nat.le_of_lt hi)
  rw [← elast] at h5
  have hrow := ok.row b hbm
  obtain ⟨oc, eo, hcd⟩ := hc
  rw [eK] at hR
  refine (c_lamR J (hL.sub S) ⟨oc, S _ _ eo, hcd⟩ hd sel pl (G.sub S) (KK.sub S) hR (hb.sub S) (ok.w b hbm) hI (by rw [List.length_append]; omega) (by rw [List.length_dropLast]; have := ok.len; omega)).mono fun r g2 m2 z2 S2 U h => ?_
  obtain ⟨ys, h1, h2⟩ := h
  rw [← eK] at h1
  rw [elast, ← ebA] at h2
  exact ⟨Ks ++ [ys], h1, hK.snoc h2⟩
theorem fold_step2 {x0 : Value} (st : FoldStep c fa g bvs (FoldJ s bs)) : FoldStep c fa g (x0 :: bvs) fun n v g => ∃ i, n = i + 1 ∧ FoldJ s bs i v g := by
  rintro n v x g' S hx ⟨i, (rfl), h⟩
  exact (st i v x g' S hx h).mono fun r g2 m2 z2 S2 U h => ⟨i + 1, rfl, h⟩
end
structure BSI (n : Nat) (b : BS) : Prop where
  w : ∀ p ∈ b.all, -1 ≤ p.1 ∧ p.1 ≤ 5
  cnt : (b.all.flatMap (·.2)).Pairwise fun a b => a.2 < b.2
  lt : ∀ q ∈ b.all.flatMap (·.2), q.2 < (b.cnt : Int)
  len : b.all.length ≤ n + 1
  row : ∀ p ∈ b.all, p.2.length ≤ n
theorem BSI.start : BSI 0 ⟨[], 3, [], 0⟩ := by
  refine ⟨fun p h => ?_, List.Pairwise.nil, fun q h => ?_, Nat.le_refl _, fun p h => ?_⟩
  · rw [List.mem_singleton.mp h]; decide
  · cases h
  · rw [List.mem_singleton.mp h]; exact Nat.le_refl _
theorem BSI.step {n : Nat} {b : BS} (x : BSI n b) (y : Int) : BSI (n + 1) (b.step y) := by
  obtain ⟨done, w, row, cnt⟩ := b
  have hw7 : -1 ≤ (y.fdiv 3).fmod 7 - 1 ∧ (y.fdiv 3).fmod 7 - 1 ≤ 5 := by
    rw [Int.fmod_eq_emod_of_nonneg _ (by decide)]
    omega
  unfold BS.step
  split
  · have e : (⟨done ++ [(w, row)], (y.fdiv 3).fmod 7 - 1, [], cnt⟩ : BS).all = (done ++ [(w, row)]) ++ [((y.fdiv 3).fmod 7 - 1, [])] := rfl
    have e0 : (⟨done, w, row, cnt⟩ : BS).all = done ++ [(w, row)] := rfl
    refine ⟨fun p h => ?_, ?_, fun q h => ?_, ?_, fun p h => ?_⟩
    · rw [e] at h
      rcases List.mem_append.mp h with h | h
      · exact x.w p h
      · rw [List.mem_singleton.mp h]; exact hw7
    · have z := x.cnt
      rw [e0] at z
      rw [e, List.flatMap_append]; simpa using z
    · rw [e, List.flatMap_append] at h
      refine x.lt q ?_
      rw [e0]; simpa using h
    · rw [e, List.length_append]; have := x.len; rw [e0] at this; simp only [List.length_singleton]; omega
    · rw [e] at h
      rcases List.mem_append.mp h with h | h
      · have := x.row p h; omega
      · rw [List.mem_singleton.mp h]; exact Nat.zero_le _
  · have e0 : (⟨done, w, row, cnt⟩ : BS).all = done ++ [(w, row)] := rfl
    generalize (if y.fmod 3 = 1 then y.fdiv 3 else (y.fdiv 3).fmod 4) = v
    have e : (⟨done, w, row ++ [(v, (cnt : Int))], cnt + 1⟩ : BS).all = done ++ [(w, row ++ [(v, (cnt : Int))])] := rfl
    have ef : (done ++ [(w, row ++ [(v, (cnt : Int))])]).flatMap (·.2) = (done ++ [(w, row)]).flatMap (·.2) ++ [(v, (cnt : Int))] := by simp
    refine ⟨fun p h => ?_, ?_, fun q h => ?_, ?_, fun p h => ?_⟩
    · rw [e] at h
      rcases List.mem_append.mp h with h | h
      · exact x.w p (List.mem_append_left _ h)
      · rw [List.mem_singleton.mp h]; exact x.w (w, row) (List.mem_append_right _ (.head _))
    · rw [e, ef]
      refine List.pairwise_append.mpr ⟨x.cnt, List.pairwise_singleton _ _, fun a ha b hb => ?_⟩
      rw [List.mem_singleton.mp hb]
      exact x.lt a ha
    · rw [e, ef] at h
      show q.2 < ((cnt + 1 : Nat) : Int)
      rcases List.mem_append.mp h with h | h
      · have : q.2 < (cnt : Int) := x.lt q h
        omega
      · rw [List.mem_singleton.mp h]; show (cnt : Int) < _; omega
    · have := x.len; rw [e0, List.length_append] at this; rw [e, List.length_append]; simp only [List.length_singleton] at *; omega
    · rw [e] at h
      rcases List.mem_append.mp h with h | h
      · have := x.row p (List.mem_append_left _ h); omega
      · rw [List.mem_singleton.mp h]
        have : row.length ≤ n := x.row (w, row) (List.mem_append_right _ (.head _))
        show (row ++ [_]).length ≤ _
        rw [List.length_append]; simp only [List.length_singleton]; omega
theorem BSI.fold : ∀ (ns : List Int) (n : Nat) (b : BS), BSI n b → BSI (n + ns.length) (ns.foldl BS.step b)
  | [], n, b, x => x
  | y :: ns, n, b, x => by
    have := BSI.fold ns (n + 1) (b.step y) (x.step y)
    rw [List.length_cons, show n + (ns.length + 1) = n + 1 + ns.length from by omega]
    exact this
theorem bks_of {ns : List Int} {bs : List (Blk Th)} (hn : ns.length ≤ 20) (h : bs.map shp = (BS.of ns).all) : BksOk bs := by
  have x := BSI.fold ns 0 _ BSI.start
  rw [Nat.zero_add] at x
  have e : (ns.foldl BS.step ⟨[], 3, [], 0⟩).all = bs.map shp := h.symm
  have m : ∀ b ∈ bs, shp b ∈ (ns.foldl BS.step ⟨[], 3, [], 0⟩).all := fun b hb => by rw [e]; exact List.mem_map_of_mem hb
  refine ⟨fun b hb => x.w _ (m b hb), ?_, fun b hb => ?_, ?_⟩
  · have := x.cnt
    rw [e, List.flatMap_map] at this
    have e2 : (bs.flatMap fun b => (shp b).2) = (bs.flatMap (·.row)).map (·.2) := by
      rw [List.map_flatMap]; rfl
    rw [e2, List.pairwise_map] at this
    exact this
  · have := x.row _ (m b hb)
    have : (b.row.map (·.2)).length ≤ ns.length := this
    rw [List.length_map] at this; omega
  · have := x.len
    rw [e, List.length_map] at this; omega
theorem CntOk.apart {bs : List (Blk Th)} (x : CntOk bs) : Apart (bAt bs) bs.length where
  nd i hi := (x.row hi).imp fun {a b} h e => by subst e; omega
  dj i hi j hj hij t ht hu := by
    rcases Nat.lt_or_gt_of_ne hij with h | h
    · have := x.cross h hj t ht t hu; omega
    · have := x.cross h hi t hu t ht; omega
theorem fold_law {s : Int} (hs : s = 1 ∨ s = -1) {bs : List (Blk Th)} {Ks : List (List Th)} (hC : CntOk bs) (x : FoldK s bs bs.length Ks) {j : Nat} (hj : j < bs.length) :
    (Ks.getD (j + 1) []).length = (keptAt (lt2 s) (bAt bs) j).length ∧ ∀ p t, (p, t) ∈ keptAt (lt2 s) (bAt bs) j → (Ks.getD (j + 1) [])[p]? = some t :=
  Rows.law (K := fun j => Ks.getD j []) (lt2_good hs) hC.apart ⟨x.zero, fun j hj => x.next j hj⟩ hj
end
section
open _root_.PySem _root_.PySem.W _root_.PySem.W.X _root_.PySem.Calls PyProof.Rows
set_option maxRecDepth 100000
theorem allIn_mem {h : Heap} : ∀ {K : Frag}, (∀ p ∈ K, h.get? p.1 = some p.2) → AllIn h K
  | [], _ => trivial
  | p :: K, e => ⟨e p List.mem_cons_self, allIn_mem fun q hq => e q (List.mem_cons_of_mem _ hq)⟩
theorem lookup_mem {β : Type} : ∀ {l : List (Nat × β)} {a : Nat} {o : β}, (l.map (·.1)).Nodup → (a, o) ∈ l → l.lookup a = some o
  | [], _, _, _, m => (nomatch m)
  | p :: l, a, o, nd, m => by
    have nd := List.nodup_cons.mp nd
    rw [List.lookup_cons]
    rcases List.mem_cons.mp m with e | e
    · subst e
      rw [show (a == a) = true from beq_self_eq_true a]
    · have : (a == p.1) = false := by
        rw [beq_eq_false_iff_ne]
        intro z
        have h2 : a ∈ List.map (fun x : Nat × β => x.1) l := List.mem_map_of_mem (f := fun x : Nat × β => x.1) e
        rw [z] at h2
        exact nd.1 h2
      rw [this]
      exact lookup_mem nd.2 e
theorem mem_fr {l : Frag} {h : Heap} {q : Addr → Bool} (nd : (l.map (·.1)).Nodup) (G : ∀ a o, l.lookup a = some o → q a = true → h.get? a = some o) : AllIn h (l.filter fun p => q p.1) :=
  allIn_mem fun p hp => let ⟨m, n⟩ := List.mem_filter.mp hp; G p.1 p.2 (lookup_mem nd m) n
theorem kk_nd (w : World) : ((KK w).map (·.1)).Nodup := of_decide_eq_true (by kernel_rfl)
theorem kk_84 (w : World) : (KK w).lookup 84 = some (tableObj #[]) := by kernel_rfl
theorem allK {w : World} {h : Heap} (G : Gr w h) (e : h.get? 84 = some (tableObj #[])) : AllIn h (frK w) := by
  refine mem_fr (l := KK w) (q := fun a => !(Nat.beq a 117)) (kk_nd w) fun a o l n => ?_
  by_cases q : a = 84
  · subst q
    have := (kk_84 w).symm.trans l
    rw [e]; exact this
  · refine G a o l ?_
    have n : (!(Nat.beq a 117)) = true := n
    have h1 : (a == 84) = false := beq_eq_false_iff_ne.mpr q
    have h2 : (a == 117) = false := by
      rw [beq_eq_false_iff_ne]
      intro z; subst z; cases n
    rw [h1, h2]; rfl
theorem holds_gen {h : Heap} {K : Frag} {t : X.KT} (e : X.KT.of K = t) (A : AllIn h K) : X.KT.Holds h 1 0 t := e ▸ holds_of A
theorem ok_gen {V : XV} {K : Frag} {t : X.KT} (e : X.KT.of K = t) (hV : V.kt = t) (A : AllIn V.h₀ K) (hz : V.h₀.objs.size = V.n₁) (ht : ∀ a vs, chLook V.tabs a = some vs → ∃ c, V.h₀.TableAt c a vs) : XV.Ok V := ⟨hz, hV ▸ holds_gen e A, ht⟩
theorem ok_VV {prog : Program} {w : World} {h : Heap} {n d u : Nat} {R : Result → Shared → Prop} {dr : Drawn} {t : Nat} {os : OsState} (G : Gr w h) (e : h.get? 84 = some (tableObj #[])) (hz : h.objs.size = n) (ht : ∀ a vs, chLook (VV prog w h n d u R dr t os).tabs a = some vs → ∃ c, h.TableAt c a vs) : XV.Ok (VV prog w h n d u R dr t os) :=
  ok_gen (kt_eq w) rfl (allK G e) hz ht
theorem fn_leaveO {c : Cx} {f : Fm} {F : Addr} {muts : Ledger} {P : Post} {g h : Heap} {R : Value → Shared → Prop} (hnew : ∀ b ∈ f.own, h.get? b = none) (hF : h.get? F = none) (hfs : ∀ b ∈ c.fs, ∃ o, h.get? b = some o)
    (k : ∀ v g' muts' sz' h' tk', Hp c.w c.fs [] [] g' muts' sz' h' → Mv c.fs [] g muts h g' muts' h' → (∀ b ∈ adr muts', b ∈ adr muts) → P v g' muts' sz' → R v (mk c.s h' tk')) (O : List Addr) (hO : ∀ b ∈ O, b ∈ f.own)
    {v : Value} {σ' : St} {h' : Heap} {tk' : Nat} (a' : At (c.deep F) f σ' h') (m' : Mv (c.deep F).fs f.own g muts h σ'.g σ'.led h') (q1 : ∀ b ∈ adr σ'.led, b ∈ adr muts)
    (q : ∀ g', Sub σ'.g g' → (∀ b ∈ O, ∀ o, h'.get? b = some o → g'.get? b = some o) → P v g' σ'.led σ'.sz) : R v (mk c.s h' tk') := by
  have gn : ∀ b, σ'.g.get? b = none → b ∉ O → (more σ'.g h' O).get? b = none := fun b hb hba => by
    cases q : (more σ'.g h' O).get? b with
    | none => rfl
    | some o =>
      rcases more_of a'.hp.sub q with z | z
      · rw [z] at hb; cases hb
      · exact absurd z hba
  refine k v (more σ'.g h' O) σ'.led σ'.sz h' tk' ⟨a'.hp.gr.sub (more_sub a'.hp.sub), more_in, a'.hp.ld, (fun U q => nomatch q), (fun U q => nomatch q), fun b hb => gn b (a'.hp.offL b hb) fun z => a'.hp.ap b (a'.hp.oa b (hO b z)) hb, a'.hp.nd, (fun U q => nomatch q), (fun U q => nomatch q), fun b hb => ?_, a'.hp.sz⟩ ?_ q1 (q _ (more_sub a'.hp.sub) fun b hb o e => more_at e hb)
  · obtain ⟨x1, x2, x3⟩ := a'.hp.frm b (List.mem_cons_of_mem _ hb)
    refine ⟨x1, gn b x2 fun z => ?_, x3⟩
    obtain ⟨o, e⟩ := hfs b hb
    rw [hnew b (hO b z)] at e; cases e
  · refine ⟨m'.gg.trans (more_sub a'.hp.sub), fun b o x U z => ?_, m'.dom, fun b o e => ?_, m'.ld⟩
    · rcases m'.exs b o x (fun w => by rw [hnew b w] at x; cases x) z with q | ⟨q, q2⟩
      · exact .inl q
      · rcases List.mem_cons.mp q with rfl | q
        · rw [hF] at x; cases x
        · exact .inr ⟨q, q2⟩
    · rcases more_of a'.hp.sub e with z | z
      · exact m'.fr b o z
      · exact .inr (.inl (hnew b (hO b z)))
structure CdS where
  bases : List Expr
  x1 : Option Scope
  bind : Str
  rest : List Stmt
noncomputable def cdS (l : List Stmt) : CdS := match l with
  | .ClassDef _ bases _ _ _ _ _ x1 bind _ _ :: rest => ⟨bases, x1, bind, rest⟩
  | _ => ⟨[], none, Str.empty, []⟩
noncomputable def cd89 (w : World) : CdS := cdS (bodyOf (fd89 w))
theorem body89 (w : World) : (FD w 89).body = .stmts (.ClassDef (clsIn (fd89 w)).name (cd89 w).bases [] (clsIn (fd89 w)).body [] [] (clsIn (fd89 w)).scope (cd89 w).x1 (cd89 w).bind (clsIn (fd89 w)).statics (clsIn (fd89 w)).pos :: (cd89 w).rest) := by kernel_rfl
theorem base89 (w : World) : (l1 (cd89 w).bases).any (fun e => chkE (KT w 89) 5 (.g (.type "object")) e) = true := by kernel_rfl
theorem rest89 (w : World) : chkS (KT w 89) 10 (.seq (.ret (.v 1)) .skip) (cd89 w).rest = true := by kernel_rfl
theorem bind89 (w : World) : nmSt (KT w 89).names (KT w 89).cw 1 (cd89 w).bind = true := by kernel_rfl
theorem qual89 (w : World) (L : Nat) : qualnameIn (cEnv w L) (clsIn (fd89 w)).name (cd89 w).bind = ⟨⟨[99,109,112,95,116,111,95,107,101,121,46,60,108,111,99,97,108,115,62,46,75]⟩⟩ := by kernel_rfl
theorem bldc (w : World) : lkIn (obAt w 0) ("__build_class__" : Str) = some (.builtin "__build_class__") := by kernel_rfl
theorem tab84 (w : World) : fieldsOf ((hd.ktop_241 w.params).get 84) = #[] := by kernel_rfl
theorem hd88 (w : World) : hdOk (obAt w 88) 84 = true := by kernel_rfl
theorem fs_89 (w : World) : FnSt w 89 (KT w 89) := fnOk_ (ca := 88) (by kernel_rfl)
theorem evalArgs_b {M : Model} {A : Around} {E : Value → Shared → Prop} {s : Shared} {f : Value} {x : Sem Value} {rest : List (Bool × Sem Value)} {Q : Args → Shared → Prop}
    (h : wpAny M A (spliced ((false, x) :: rest)) (fun vs s' => Q ⟨vs, []⟩ s') E s) : wpAny M A (evalArgs f false ((false, x) :: rest) []) Q E s := by
  unfold evalArgs
  show wpAny M A (spliced ((false, x) :: rest) >>= _) Q E s
  refine wpAny_bind (wpAny_mono h (fun vs s' h' => ?_) fun U U x => x)
  refine wpAny_holding ?_
  exact wpAny_bind (wpAny_pure (wpAny_bind (wpAny_pure (wpAny_pure h'))))
noncomputable def NewC (w : World) (n t : Nat) (h' : Heap) : Prop :=
  h'.get? (n + 13) = some (oCIni n t) ∧ h'.get? (n + 21) = some (oCLt n t) ∧ h'.get? (n + 29) = some (oCGt n t) ∧ h'.get? (n + 37) = some (oCEq n t) ∧ h'.get? (n + 14) = some (oIni w n) ∧ h'.get? (n + 22) = some (oLt w n) ∧ h'.get? (n + 30) = some (oGt w n) ∧ h'.get? (n + 38) = some (oEq w n) ∧ h'.get? (n + 57) = some (oNs w n t) ∧ h'.get? (n + 58) = some (oCls n t) ∧ h'.get? (n + 59) = some (oMem n t) ∧ True
theorem run_class {prog : Program} {w : World} {A : Around} {E : Value → Shared → Prop} {s : Shared} {L : Nat} {Q : Value → Shared → Prop} (hL : RunC (L + 2)) (hg : s.gens = #[]) (hh : A.handled = none) (hdp : A.depth < recursionLimit) (G : Gr w s.heap) (e84 : s.heap.get? 84 = some (tableObj #[])) (hz : s.heap.objs.size = L + 2)
    (q : ∀ h', h'.objs.size = L + 2 + 62 → NewC w (L + 2) s.toks h' → h'.get? 84 = some (tableObj #[rawInt 163, rawInt 4, .ref (L + 2 + 5)]) → Heap.ExtBut 84 s.heap h' → Q (.ref (L + 2 + 58)) { s with heap := h', toks := s.toks + 77 }) :
    wpAny (model prog w) A (buildClass (clsIn (fd89 w)).name ⟨⟨[99,109,112,95,116,111,95,107,101,121,46,60,108,111,99,97,108,115,62,46,75]⟩⟩ [.type "object"] [] (clsIn (fd89 w)).body (clsIn (fd89 w)).scope (clsIn (fd89 w)).statics (clsIn (fd89 w)).pos.line (cEnv w L) (clsIn (fd89 w)).pos none) Q E s := by
  obtain ⟨h, g, dr, t, os⟩ := s
  dsimp only at hg G e84 hz q
  subst hg
  have O : XV.Ok (VV prog w h (L + 2) A.depth A.units (fun r s' => match r with | .ok (.ret v) => Q v s' | _ => False) dr t os) := ok_VV G e84 hz fun a vs e => by
    have e : chLook [(84, fieldsOf ((hd.ktop_241 w.params).get 84))] a = some vs := e
    rw [tab84] at e
    have : a = 84 ∧ vs = #[] := by
      by_cases q : 84 = a
      · subst q
        have e : some #[] = some vs := e
        exact ⟨rfl, (Option.some.inj e).symm⟩
      · have e : (match Nat.beq 84 a with | true => some #[] | false => none) = some vs := e
        rw [show Nat.beq 84 a = false from by cases z : Nat.beq 84 a; rfl; exact absurd (Nat.eq_of_beq_eq_true z) q] at e
        cases e
    obtain ⟨rfl, rfl⟩ := this
    exact ⟨88, (hdOk_ (G.ob (a := 88) (by kernel_rfl) (by decide)) (hd88 w) (by decide)).tab e84⟩
  have z := run_any (A := A) (t₀ := zClass (clsIn (fd89 w)).name ⟨⟨[99,109,112,95,116,111,95,107,101,121,46,60,108,111,99,97,108,115,62,46,75]⟩⟩ [.type "object"] [] (clsIn (fd89 w)).body (clsIn (fd89 w)).scope (clsIn (fd89 w)).statics (clsIn (fd89 w)).pos.line (cEnv w L) (clsIn (fd89 w)).pos none) (Q := Q) (E := E) O 422 [13, 21, 29, 37, 14, 22, 30, 38, 57, 58, 59] [84] hh rfl rfl
    (classY A hdp (clsIn (fd89 w)).name ⟨⟨[99,109,112,95,116,111,95,107,101,121,46,60,108,111,99,97,108,115,62,46,75]⟩⟩ (.type "object") (clsIn (fd89 w)).body (clsIn (fd89 w)).scope (clsIn (fd89 w)).statics (clsIn (fd89 w)).pos.line (cEnv w L) (clsIn (fd89 w)).pos).2 fun cc => by
      refine (hL prog w h A.depth A.units _ dr t os A hdp cc).mpr fun h' hz' hn hf hk => ?_
      refine q h' hz' hn hf.1 fun b o hb e => hk b o e ?_
      show (match Nat.beq 84 b with | true => some _ | false => none) = none
      rw [show Nat.beq 84 b = false from by cases z : Nat.beq 84 b; rfl; exact absurd (Nat.eq_of_beq_eq_true z).symm hb]
  have e : @buildClass = @zClass := ZFast.ze1785580099245652887
  rw [e]
  exact z
theorem NewC.more {w : World} {n t : Nat} {g h' : Heap} (x : NewC w n t h') : NewC w n t (more g h' [n + 13, n + 21, n + 29, n + 37, n + 14, n + 22, n + 30, n + 38, n + 57, n + 58, n + 59]) := by
  obtain ⟨a1, a2, a3, a4, a5, a6, a7, a8, a9, a10, a11, U⟩ := x
  exact ⟨more_at a1 (List.mem_of_getElem? (i := 0) rfl), more_at a2 (List.mem_of_getElem? (i := 1) rfl), more_at a3 (List.mem_of_getElem? (i := 2) rfl), more_at a4 (List.mem_of_getElem? (i := 3) rfl), more_at a5 (List.mem_of_getElem? (i := 4) rfl), more_at a6 (List.mem_of_getElem? (i := 5) rfl), more_at a7 (List.mem_of_getElem? (i := 6) rfl), more_at a8 (List.mem_of_getElem? (i := 7) rfl), more_at a9 (List.mem_of_getElem? (i := 8) rfl), more_at a10 (List.mem_of_getElem? (i := 9) rfl), more_at a11 (List.mem_of_getElem? (i := 10) rfl), trivial⟩
theorem W_class {c : Cx} {f : Fm} {σ : St} {env : Env} {L : Nat} {led' : (Obj → Prop) → Ledger} {Q : Flow → St → Prop} (e : EnvOk f env (KT c.w 89).names (KT c.w 89).cw) (henv : env = cEnv c.w L) (hg : c.s.gens = #[]) (hd : c.d < recursionLimit) (hL : RunC (L + 2)) (hz : σ.sz = some (L + 2))
    (hm : ∀ P', LU σ.led 84 (tabP #[]) P' (led' P'))
    (q : ∀ g' t, Sub σ.g g' → NewC c.w (L + 2) t g' → Q .next ⟨g', σ.vs.set 1 (some (.ref (L + 2 + 58))), led' (tabP #[rawInt 163, rawInt 4, .ref (L + 2 + 5)]), none⟩) :
    W c f (exec (.ClassDef (clsIn (fd89 c.w)).name (cd89 c.w).bases [] (clsIn (fd89 c.w)).body [] [] (clsIn (fd89 c.w)).scope (cd89 c.w).x1 (cd89 c.w).bind (clsIn (fd89 c.w)).statics (clsIn (fd89 c.w)).pos) env) σ Q := by
  intro A E h tk r a
  have G : Gr c.w h := a.hp.gr.sub a.hp.sub
  obtain ⟨b, hb1, hb2⟩ := any_ (base89 c.w)
  obtain ⟨o84, e84, h84⟩ := a.hp.ld _ (hm (tabP #[])).mem
  subst h84
  rw [arm_exec_ClassDef, l1_ hb1]
  refine wpAny_bind (wpAny_pure (wpAny_bind (wpAny_standAt (wpAny_bind ?_))))
  have gb : wpAny (model c.prog c.w) A (buildClassGuard env) (fun U s' => s' = mk c.s h tk) E (mk c.s h tk) := by
    unfold buildClassGuard
    rw [e.bui]
    refine wpAny_bind (wpAny_nsGet (s := mk c.s h tk) G.bui ?_)
    rw [bldc]
    exact wpAny_pure rfl
  refine wpAny_mono gb (fun U s' hs' => ?_) fun U U e => e
  subst hs'
  refine wpAny_bind (wpAny_holding (wpAny_bind ?_))
  have hsp : wpAny (model c.prog c.w) A (spliced (backTo (clsIn (fd89 c.w)).pos (starEach [b] env))) (fun vs s' => vs = [.type "object"] ∧ s' = mk c.s h tk) E (mk c.s h tk) :=
    spliced_more (glob_any e (GTok _) hb2 (s := mk c.s h tk) G (spliced_nil ⟨rfl, rfl⟩)) (glob_star hb2 [] env)
  rw [glob_star hb2 [] env] at hsp ⊢
  refine evalArgs_b (wpAny_mono hsp (fun vs s' q' => ?_) fun U U e => e)
  obtain ⟨rfl, rfl⟩ := q'
  refine wpAny_bind (wpAny_standAt (wpAny_holding ?_))
  have hq : qualnameIn env (clsIn (fd89 c.w)).name (cd89 c.w).bind = ⟨⟨[99,109,112,95,116,111,95,107,101,121,46,60,108,111,99,97,108,115,62,46,75]⟩⟩ := by rw [henv]; exact qual89 c.w L
  rw [hq, henv]
  refine run_class (s := mk c.s h tk) hL hg r.none (Nat.lt_of_le_of_lt r.dep hd) G e84 (a.hp.sz _ hz) fun h' hz' hn h84' hx => ?_
  have hsz := a.hp.sz _ hz
  obtain ⟨a', m'⟩ := a.chgG (hm (tabP #[rawInt 163, rawInt 4, .ref (L + 2 + 5)])) hx h84' rfl (F := [L + 2 + 13, L + 2 + 21, L + 2 + 29, L + 2 + 37, L + 2 + 14, L + 2 + 22, L + 2 + 30, L + 2 + 38, L + 2 + 57, L + 2 + 58, L + 2 + 59]) (z := none) (fun b hb => Heap.get?_none_of_le (by
    rw [hsz]
    obtain ⟨k, U, rfl⟩ := List.mem_map.mp (show b ∈ [13, 21, 29, 37, 14, 22, 30, 38, 57, 58, 59].map (fun k => L + 2 + k) from hb)
    exact Nat.le_add_right _ _)) (fun n e => nomatch e)
  rw [← henv]
  refine wpAny_bind (m := decorate _ _) (wpAny_pure (wpAny_bind (wpAny_standAt (wpAny_bind ?_))))
  refine W_pair (W_bindName (Q := fun _ σ' => σ' = ⟨more σ.g h' _, σ.vs.set 1 (some (.ref (L + 2 + 58))), led' (tabP #[rawInt 163, rawInt 4, .ref (L + 2 + 5)]), none⟩) e (bind89 c.w) rfl) r a' fun _ σ3 h3 tk3 a3 m3 q3 => wpAny_pure ?_
  subst q3
  exact ⟨_, h3, tk3, rfl, a3, m'.trans m3, q _ tk m'.gg hn.more⟩
theorem KW.of {w : World} {h : Heap} {L t : Nat} {fa : Addr} (x : NewC w (L + 2) t h) (hc : h.IsCell (L + 1) (some (.ref fa))) {lamc : Addr} (hl : Ex2 fun q pm => h.get? fa = some (xLam w q lamc pm) ∧ ∃ c, h.get? lamc = some (xCode q c)) :
    KW w h ⟨L + 2 + 58, L + 2 + 57, L + 2 + 59, L + 2 + 14, L + 2 + 22, L + 2 + 30, L + 2 + 38, L + 2 + 13, L + 2 + 21, L + 2 + 29, L + 2 + 37, L + 1, fa, lamc⟩ := by
  obtain ⟨a1, a2, a3, a4, a5, a6, a7, a8, a9, a10, a11, U⟩ := x
  exact ⟨⟨.ref (L + 2), t, t + 9, a10⟩, ⟨⟨t + 8, t + 13, t + 12, t + 11, t + 16, t + 24, t + 33, t + 42, t + 51, t + 60, t + 69, t + 70, t + 72, t + 74, t + 75, .ref (L + 2 + 7), .ref (L + 2 + 46), .ref (L + 2 + 54), .ref (L + 2 + 55)⟩, a9⟩, ⟨t + 73, a11⟩, ⟨_, a5⟩, ⟨.ref (L + 2 + 15), _, a6⟩, ⟨.ref (L + 2 + 23), _, a7⟩, ⟨.ref (L + 2 + 31), _, a8⟩,
    ⟨⟨_, _, _, _, _, _, _, _, _, _, _, _, _, _, _, _, _, _, _⟩, a1⟩, ⟨⟨_, _, _, _, _, _, _, _, _, _, _, _, _, _, _, _, _, _, _⟩, a2⟩, ⟨⟨_, _, _, _, _, _, _, _, _, _, _, _, _, _, _, _, _, _, _⟩, a3⟩, ⟨⟨_, _, _, _, _, _, _, _, _, _, _, _, _, _, _, _, _, _, _⟩, a4⟩, hc, hl⟩
theorem NewC.sub {w : World} {n t : Nat} {h h' : Heap} (x : NewC w n t h) (S : Sub h h') : NewC w n t h' := by
  obtain ⟨a1, a2, a3, a4, a5, a6, a7, a8, a9, a10, a11, U⟩ := x
  exact ⟨S _ _ a1, S _ _ a2, S _ _ a3, S _ _ a4, S _ _ a5, S _ _ a6, S _ _ a7, S _ _ a8, S _ _ a9, S _ _ a10, S _ _ a11, trivial⟩
theorem nm89 (w : World) : (KT w 89).names[0]? = some (sMycmp, NameKind.cell) := by kernel_rfl
theorem sz89 (w : World) (L : Nat) : (some L).map (· + (1 + cellN (KT w 89).names)) = some (L + 2) := by kernel_rfl
theorem vs89 (w : World) (v : Value) : setAll ((KT w 89).names.map fun U => none) [0] ([(sMycmp, v)].map (·.2)) = [some v, none, none] := by kernel_rfl
theorem ba89 (w : World) (v : Value) : bindArgs (FD w 89) ⟨[v], []⟩ = pure [(sMycmp, v)] := by kernel_rfl
theorem bc89 (w : World) (v : Value) : bindChk (KT w 89).names true [0] [(sMycmp, v)] = true := by kernel_rfl
theorem env89 (w : World) (L : Nat) : newEnv (FD w 89).scope L mainGlobals (cellsFrom (L + 1) (KT w 89).names (FD w 89).closure) ((FD w 89).qualname ++ ".<locals>.") (some 89) (FD w 89).code none (FD w 89).builtins = cEnv w L := by kernel_rfl
theorem cel89 (w : World) (L : Nat) : (cEnv w L).cells.lookup sMycmp = some (L + 1) := by kernel_rfl
theorem bt_of {w : World} {g : Heap} {fd : FuncData} {vals : List Value} {binds : List (Str × Value)} (h : bindArgs fd ⟨vals, []⟩ = pure binds) : Gr w g → ∀ s : Shared, Sub g s.heap → BindsTo s fd ⟨vals, []⟩ binds := fun U U U => .of_eq h
theorem fn_enterS {c : Cx} {A : Around} {fd : FuncData} {a : Addr} {names : List (Str × NameKind)} {vals : List Value} {binds : List (Str × Value)} {is : List Nat} {fvs : List (Option Value)} {g h : Heap} {muts : Ledger} {sz : Option Nat} {tk : Nat} {R : Result → Shared → Prop}
    (r : Rk c A) (H : Hp c.w c.fs [] [] g muts sz h) (S : FnG g a fd) (hd : c.d < recursionLimit) (hnm : fd.scope.names = names) (hnd : (names.map (·.1)).Nodup) (hcl : noK .free names = true ∧ fd.closure = [] ∨ noK .cell names = true ∧ ((frNs 0 fd.closure names).filterMap (·.2)).Nodup)
    (hfr : ∀ (i : Nat) (x : Str), names[i]? = some (x, NameKind.free) → Ex2 fun ce v => fd.closure.lookup x = some ce ∧ g.IsCell ce v ∧ fvs[i]? = some v) (hfn : ∀ (i : Nat) (x : Str) (k : NameKind), names[i]? = some (x, k) → k ≠ .free → fvs[i]? = some none) (hfl : fvs.length = names.length)
    {l : List Stmt} (hbody : fd.body = .stmts l) (hba : Gr c.w g → ∀ s : Shared, Sub g s.heap → BindsTo s fd ⟨vals, []⟩ binds) (hb : bindChk names true is binds = true)
    (k : ∀ f env h₀ tk₀ A' (E' : Value → Shared → Prop), EnvOk f env names true → At (c.deep f.F) f ⟨g, setAll fvs is (binds.map (·.2)), muts, sz.map (· + (1 + cellN names))⟩ h₀ → Mv (c.deep f.F).fs f.own g muts h g muts h₀ → (∀ b ∈ f.own, h.get? b = none) → f.L = h.objs.size ∧ f.F = f.L →
      env = newEnv fd.scope h.objs.size mainGlobals (cellsFrom (h.objs.size + 1) names fd.closure) (fd.qualname ++ ".<locals>.") (some a) fd.code none fd.builtins → Rk (c.deep f.F) A' →
      wpAny (model c.prog c.w) A' (execs l env) (fun fl s' => R (.ok (.ret (match fl with | .ret v => v | _ => .none))) s') E' (mk c.s h₀ tk₀)) :
    codeAny (model c.prog c.w) A (.call (.ref a) ⟨vals, []⟩) R (mk c.s h tk) :=
  fn_enter r H S hd hnm hnd hcl hfr hfn hfl hba hb fun f env h₀ tk₀ A' E' e1 e2 e3 e4 e5 e6 e7 => by
    rw [hbody]
    exact k f env h₀ tk₀ A' E' e1 e2 e3 e4 e5 e6 e7
theorem c_cmp {c : Cx} {L : Nat} (hL : RunC (L + 2)) (hg : c.s.gens = #[]) (hd : c.d ≤ 900) {fa lamc : Addr} {g : Heap} (hlam : Ex2 fun q pm => g.get? fa = some (xLam c.w q lamc pm) ∧ ∃ cd, g.get? lamc = some (xCode q cd)) :
    Fn c (.ref 89) [.ref fa] g [(84, tabP #[])] (some L) fun r g' m' z' => m' = [(84, tabP #[rawInt 163, rawInt 4, .ref (L + 2 + 5)])] ∧ ∃ k : KA, r = .ref k.cls ∧ KW c.w g' k := by
  intro A R h tk r H k
  have hrd : c.d < recursionLimit := by have : recursionLimit = 1000 := rfl; omega
  have fs := fs_89 c.w
  refine fn_enterS (fd := FD c.w 89) (l := _) (g := g) (vals := [.ref fa]) (names := (KT c.w 89).names) (binds := [(sMycmp, .ref fa)]) (is := [0]) (fvs := (KT c.w 89).names.map fun U => none) r H (fs.g H.gr) hrd fs.nm fs.nd (.inl ⟨fs.fr, fs.clo⟩) (fun i x e => absurd rfl (noK_ fs.fr _ (List.mem_of_getElem? e))) (fun i x k e U => by rw [List.getElem?_map, e]; rfl) (by simp)
    (body89 c.w) (@bt_of c.w g (FD c.w 89) [.ref fa] [(sMycmp, .ref fa)] (ba89 c.w (.ref fa))) (bc89 c.w (.ref fa)) fun f env h₀ tk₀ A' E' eo at0 mv hnew hL' henv r' => ?_
  rw [sz89, vs89] at at0
  rw [H.sz L rfl, env89] at henv
  have O : Ok (c.deep f.F) f (KT c.w 89) env := ⟨eo, GTok _⟩
  obtain ⟨p0, hp0, U, hc0⟩ := eo.at_ 0 sMycmp .cell (nm89 _)
  obtain ⟨ce, (rfl), hce⟩ := hc0 (.inl rfl)
  have hce1 : ce = L + 1 := by rw [henv, cel89] at hce; exact (Option.some.inj hce).symm
  subst hce1
  have hown := eo.ownC rfl 0 sMycmp _ hp0 (nm89 _)
  refine W_pair (Q := fun fl σ' => Ex2 fun g' t => fl = .ret (.ref (L + 2 + 58)) ∧ σ' = ⟨g', [some (.ref fa), some (.ref (L + 2 + 58)), none], [(84, tabP #[rawInt 163, rawInt 4, .ref (L + 2 + 5)])], none⟩ ∧ NewC c.w (L + 2) t g') (W_Seq (W_class (c := c.deep f.F) (L := L) (led' := fun P => [(84, P)]) eo henv hg (by show c.d + 1 < recursionLimit; have : recursionLimit = 1000 := rfl; omega) hL rfl (fun U => .here) fun g' t S hn => ?_)) r' at0 fun fl σ' h' tk' a' m' q' => ?_
  · exact (sndS O 10 _).s _ _ _ (rest89 c.w) ⟨g', t, rfl, rfl, hn⟩
  · obtain ⟨g', t, (rfl), (rfl), hn⟩ := q'
    have hcel := a'.fr.cel 0 sMycmp _ hp0
    refine fn_leaveO (c := c) (F := f.F) (R := fun v s' => R (.ok (.ret v)) s') hnew (by rw [hL'.2]; exact hnew _ eo.ownL) (fun b hb => let ⟨⟨o, e, _⟩, _⟩ := H.frm b hb; ⟨o, e⟩) k [L + 1] (fun b hb => by rw [List.mem_singleton.mp hb]; exact hown) a' (mv.trans m') (fun b hb => hb) fun g2 S2 hO => ?_
    obtain ⟨o, eo', hd'⟩ := hcel
    obtain ⟨ql, pm, e1, cd, e2⟩ := hlam
    have Sg : Sub g g2 := (mv.trans m').gg.trans S2
    exact ⟨rfl, _, rfl, KW.of (hn.sub S2) ⟨o, hO _ (.head _) o eo', hd'⟩ ⟨ql, pm, Sg _ _ e1, cd, Sg _ _ e2⟩⟩
end
section
open _root_.PySem _root_.PySem.W _root_.PySem.Calls PyProof.Rows
set_option maxHeartbeats 0
set_option maxRecDepth 100000
noncomputable abbrev IsPr (a b : Value) : Obj → Prop := fun o => o = { cls := .type "tuple", data := .seq #[a, b] }
noncomputable abbrev zip5 (h : Heap) (l1 l2 : Addr) : Heap := ((((h.push { cls := .type "list_iterator", data := .fields #[.ref l1, .int 0 0] }).push { cls := .type "list_iterator", data := .fields #[.ref l2, .int 0 0] }).push { cls := .type "tuple", data := .seq #[.ref h.objs.size, .ref (h.objs.size + 1)] }).push { cls := .type "tuple", data := .seq #[.none, .none] }).push
  { cls := .type "zip", data := .fields #[.none, .bool false, .bool false, .ref (h.objs.size + 2), .ref (h.objs.size + 3)] }
theorem meets_zip5 (l1 l2 : Addr) (xs ys : Array Value) :
    Meets (Builtin.«zip.__new__» ⟨[.type "zip", .ref l1, .ref l2], []⟩) (fun U R s => s.heap.IsList l1 xs ∧ s.heap.IsList l2 ys ∧
      R (.ok (.ret (.ref (s.heap.objs.size + 4)))) { s with heap := zip5 s.heap l1 l2 }) :=
  .of_wp fun prog w A R s h => by
    obtain ⟨hp, g, d, tk, os⟩ := s; obtain ⟨hl1, hl2, h⟩ := h
    have hsub := sub_zip
    have hL1 : Heap.IsList (Shared.heap ⟨hp, g, d, tk, os⟩) l1 xs := hl1
    have hL2 : Heap.IsList (Shared.heap ⟨hp.push { cls := .type "list_iterator", data := .fields #[.ref l1, .int 0 0] }, g, d, tk, os⟩) l2 ys := Heap.IsList.push hl2 _
    wp_walk using wpAny_pyIter_list hL1, wpAny_pyIter_list hL2
    refine ⟨_, rfl, ?_⟩
    simp only [Heap.size_push]
    exact h
theorem call_zip5 {prog : Program} {w : World} {A : Around} {E : Value → Shared → Prop} {s : Shared} {l1 l2 : Addr} {xs ys : Array Value} {Q : Value → Shared → Prop} (hl1 : s.heap.IsList l1 xs) (hl2 : s.heap.IsList l2 ys)
    (h : Q (.ref (s.heap.objs.size + 4)) { s with heap := zip5 s.heap l1 l2 }) : wpAny (model prog w) A (call (.type "zip") [.ref l1, .ref l2]) Q E s := by
  refine callType_new F.called_zip (by decide) (F.typeCall_zip_2 _ _) (F.newCall_zip_2 _ _) (fun obj => F.args_object_init_3 obj _ _) F.entry_zip_new (meets_zip5 l1 l2 xs ys) ⟨hl1, hl2, ⟨{ cls := .type "zip", data := .fields #[.none, .bool false, .bool false, .ref (s.heap.objs.size + 2), .ref (s.heap.objs.size + 3)] }, ?_, rfl⟩, h⟩
  have e : s.heap.objs.size + 4 = ((((s.heap.push { cls := .type "list_iterator", data := .fields #[.ref l1, .int 0 0] }).push { cls := .type "list_iterator", data := .fields #[.ref l2, .int 0 0] }).push { cls := .type "tuple", data := .seq #[.ref s.heap.objs.size, .ref (s.heap.objs.size + 1)] }).push { cls := .type "tuple", data := .seq #[.none, .none] }).objs.size := by
    simp only [Heap.size_push]
  show (zip5 _ _ _).get? _ = _
  rw [e]
  exact Heap.get?_push_size _ rfl
section
variable {c : Cx} {f : Fm} {σ : St}
theorem L_zip2 {l1 l2 : Addr} {xs ys : List Value} {Q : Value → St → Prop} (hl1 : ∃ o, σ.g.get? l1 = some o ∧ IsLs xs o) (hl2 : ∃ o, σ.g.get? l2 = some o ∧ IsLs ys o)
    (q : ∀ z TI TO i1 i2 g', Sub σ.g g' → g'.get? TI = some { cls := .type "tuple", data := .seq #[.ref i1, .ref i2] } →
      Q (.ref z) { σ with g := g', led := (z, IsZp TI TO) :: (TO, IsPr .none .none) :: (i2, IsLI l2 0) :: (i1, IsLI l1 0) :: σ.led, sz := none }) : W c f (call (.type "zip") [.ref l1, .ref l2]) σ Q := by
  intro A E h tk rr at0
  obtain ⟨o1, e1, p1⟩ := hl1
  obtain ⟨o2, e2, p2⟩ := hl2
  refine call_zip5 (s := mk c.s h tk) (IsLs.isList ⟨o1, at0.hp.sub _ _ e1, p1⟩) (IsLs.isList ⟨o2, at0.hp.sub _ _ e2, p2⟩) ?_
  obtain ⟨x1, m1⟩ := at0.newL (o := { cls := .type "list_iterator", data := .fields #[.ref l1, .int 0 0] }) (P := IsLI l1 0) rfl ⟨rfl, rfl⟩
  obtain ⟨x2, m2⟩ := x1.newL (o := { cls := .type "list_iterator", data := .fields #[.ref l2, .int 0 0] }) (P := IsLI l2 0) rfl ⟨rfl, rfl⟩
  obtain ⟨x3, m3, S3, g3, U⟩ := x2.newG (o := { cls := .type "tuple", data := .seq #[.ref h.objs.size, .ref (h.objs.size + 1)] }) rfl
  obtain ⟨x4, m4⟩ := x3.newL (o := { cls := .type "tuple", data := .seq #[.none, .none] }) (P := IsPr .none .none) rfl rfl
  obtain ⟨x5, m5⟩ := x4.newL (o := { cls := .type "zip", data := .fields #[.none, .bool false, .bool false, .ref (h.objs.size + 2), .ref (h.objs.size + 3)] }) (P := IsZp (h.objs.size + 2) (h.objs.size + 3)) rfl rfl
  have M := (((m1.trans m2).trans m3).trans m4).trans m5
  simp only [Heap.size_push] at M x5 g3 S3
  exact ⟨_, _, tk, rfl, x5.sz0, M, q _ _ _ _ _ _ S3 g3⟩
theorem IterT_zip2 {z TI TO i1 i2 l1 l2 : Addr} {xs ys : List Value} (hl1 : ∃ o, σ.g.get? l1 = some o ∧ IsLs xs o) (hl2 : ∃ o, σ.g.get? l2 = some o ∧ IsLs ys o) (hT : σ.g.get? TI = some { cls := .type "tuple", data := .seq #[.ref i1, .ref i2] }) :
    IterT c f σ [(z, IsZp TI TO), (TO, IsPr .none .none), (i2, IsLI l2 0), (i1, IsLI l1 0)] (.ref z) (min xs.length ys.length) (fun k vals => Ex2 fun x y => xs[k]? = some x ∧ ys[k]? = some y ∧ vals = #[x, y]) [] := by
  intro A E h tk Q rk at0 k
  obtain ⟨o1, e1, p1⟩ := hl1
  obtain ⟨o2, e2, p2⟩ := hl2
  have hL1 : h.IsList l1 xs.toArray := IsLs.isList ⟨o1, at0.hp.sub _ _ e1, p1⟩
  have hL2 : h.IsList l2 ys.toArray := IsLs.isList ⟨o2, at0.hp.sub _ _ e2, p2⟩
  have hTI := at0.hp.sub _ _ hT
  obtain ⟨U, ez, (rfl)⟩ := at0.hp.ld (z, IsZp TI TO) (.head _)
  obtain ⟨U, eO, (rfl)⟩ := at0.hp.ld (TO, IsPr .none .none) (.tail _ (.head _))
  obtain ⟨oI2, eI2, qI2⟩ := at0.hp.ld (i2, IsLI l2 0) (.tail _ (.tail _ (.head _)))
  obtain ⟨oI1, eI1, qI1⟩ := at0.hp.ld (i1, IsLI l1 0) (.tail _ (.tail _ (.tail _ (.head _))))
  have nd : List.Nodup (z :: TO :: i2 :: i1 :: adr σ.led) := at0.hp.nd
  have ne : ∀ {x b : Addr} {o : Obj}, σ.g.get? x = some o → b ∈ z :: TO :: i2 :: i1 :: adr σ.led → x ≠ b := fun e hb q => nomatch (q ▸ e).symm.trans (at0.hp.offL _ hb)
  have D : ZipApart z TI TO i1 i2 l1 l2 := { TIz := ne hT M0, TOz := Ne.symm (nd_ne nd M0), i1z := Ne.symm (nd_ne nd M2), i2z := Ne.symm (nd_ne nd M1), TITO := ne hT M1, TIi1 := ne hT M3, TIi2 := ne hT M2, TOi1 := nd_ne (nd_tl nd) M1, TOi2 := nd_ne (nd_tl nd) M0, i12 := Ne.symm (nd_ne (nd_tl (nd_tl nd)) M0), l1z := ne e1 M0, l1TO := ne e1 M1, l1i1 := ne e1 M3, l1i2 := ne e1 M2, l2z := ne e2 M0, l2TO := ne e2 M1, l2i1 := ne e2 M3, l2i2 := ne e2 M2 }
  have W := (WalksT.zip2 (prog := c.prog) (w := c.w) (A := A) rk.none z TI TO i1 i2 l1 l2 D xs.toArray ys.toArray).toU
  have hz : min xs.toArray.size ys.toArray.size = min xs.length ys.length := by simp
  rw [hz] at W
  have W1 := WkT.of W
  have W' : WkT c.prog c.w A z [z, TI, TO, i1, i2, l1, l2] [z, TO, i1, i2] (min xs.length ys.length) (fun k vals => Ex2 fun x y => xs[k]? = some x ∧ ys[k]? = some y ∧ vals = #[x, y]) _ _ _ :=
    ⟨W1.sub, W1.frame, fun i s Q E hi st kk => W1.item i s Q E hi st fun T vals h' tk p => kk T vals h' tk (let ⟨x, y, a, b, d⟩ := p; ⟨x, y, by simpa using a, by simpa using b, d⟩), W1.go, W1.apart, W1.done, W1.self, W1.dw, W1.dn⟩
  refine wpAny_pyIter_zip (s := mk c.s h tk) ez (k z _ _ _ _ h tk W' ⟨ez, hTI, ⟨_, _, eO⟩, ⟨oI1, eI1, qI1⟩, ⟨oI2, eI2, qI2⟩, hL1, hL2⟩ (Sub.refl _) (ac (.inr (.inr M0)) (ac (.inl ⟨_, hT⟩) (ac (.inr (.inr M1)) (ac (.inr (.inr M3)) (ac (.inr (.inr M2)) (ac (.inl ⟨_, e1⟩) (ac (.inl ⟨_, e2⟩) an))))))) (ac (.inr M0) (ac (.inr M1) (ac (.inr M3) (ac (.inr M2) an)))) fun i h Z => ?_)
  obtain ⟨q1, q2, ⟨U, U, q3⟩, ⟨U, q4, U⟩, ⟨U, q5, U⟩, ⟨U, q6, U⟩, ⟨U, q7, U⟩⟩ := Z
  exact ac ⟨_, q1⟩ (ac ⟨_, q2⟩ (ac ⟨_, q3⟩ (ac ⟨_, q4⟩ (ac ⟨_, q5⟩ (ac ⟨_, q6⟩ (ac ⟨_, q7⟩ an))))))
end
section
variable {c : Cx} {f : Fm} {σ : St}
theorem Pst.newLS {h : Heap} {tk : Nat} {o : Obj} {P : Obj → Prop} {Q : Value → St → Prop} (a : At c f σ h) (hf : o.isFreed = false) (hP : P o) (q : σ.g.get? h.objs.size = none → Q (.ref h.objs.size) { σ with led := (h.objs.size, P) :: σ.led, sz := szUp σ 1 }) : Pst c f σ h Q (.ref h.objs.size) (mk c.s (h.push o) tk) := by
  obtain ⟨x1, m1⟩ := a.newL hf hP
  refine ⟨_, _, tk, rfl, x1, m1, q ?_⟩
  cases e : σ.g.get? h.objs.size with
  | none => rfl
  | some o => exact absurd (Heap.lt_size (a.hp.sub _ _ e)) (Nat.lt_irrefl _)
theorem L_addS {l b : Addr} {vs ws : List Value} {Q : Value → St → Prop} (hl : Lst σ l vs) (hb : Lst σ b ws) (hz : vs.length + ws.length ≤ 1000) (q : ∀ D, σ.g.get? D = none → Q (.ref D) { σ with led := (D, IsLs (vs ++ ws)) :: σ.led, sz := szUp σ 1 }) :
    W c f (binaryOp .Add (.ref l) (.ref b)) σ Q := by
  intro A E h tk r a
  obtain ⟨⟨cls, dd, data, sl⟩, ho, hc, hdd, n, hd⟩ := hl.at a
  obtain ⟨⟨cls2, dd2, data2, sl2⟩, ho2, hc2, hdd2, n2, hd2⟩ := hb.at a
  simp only at hc hd hc2 hd2
  subst hc hd hc2 hd2
  have e : vs.toArray ++ ws.toArray = (vs ++ ws).toArray := by simp
  refine concat_meets (s := mk c.s h tk) ⟨_, ho, rfl⟩ ⟨_, ho2, rfl⟩ noFill_list_add seq_list_add PySem.F.slot_list_add PySem.F.entry_list_add (PySem.F.args_list_add_2 _ _) (list_addW l b vs.toArray ws.toArray n n2 dd dd2 sl sl2 (Nat.le_trans (by simpa using hz) (by decide))) ⟨ho, ho2, ?_⟩
  rw [e]
  exact Pst.newLS a rfl ⟨rfl, rfl, _, rfl⟩ (q _)
theorem Iter_LsD {l : Addr} {xs : List Value} : Iter c f σ [(l, IsLs xs)] (.ref l) xs.length (fun i v => xs[i]? = some v) true 1 := by
  intro A E h tk Q r a k
  obtain ⟨o, e, q⟩ := a.hp.ld (l, IsLs xs) (.head _)
  have hL : h.IsList l xs.toArray := IsLs.isList ⟨o, e, q⟩
  have hn : h.get? h.objs.size = none := Heap.get?_none_of_le (Nat.le_refl _)
  have hne : l ≠ h.objs.size := fun z => by rw [z, hn] at e; cases e
  refine wpAny_pyIter_list (s := mk c.s h tk) hL ?_
  have W := Wk.list (prog := c.prog) (w := c.w) (A := A) r.none h.objs.size l hne xs.toArray 0 (Nat.zero_le _)
  have hz : xs.toArray.size - 0 = xs.length := by simp
  rw [hz] at W
  have W' : Wk c.prog c.w A h.objs.size [h.objs.size, l] [h.objs.size] xs.length (fun i v => xs[i]? = some v) (fun i h' => h'.IsListIter h.objs.size l (0 + i) ∧ h'.IsList l xs.toArray) true :=
    ⟨W.sub, W.frame, fun i s Q E hi st kk => W.item i s Q E hi st fun v h' tk p => kk v h' tk (by simpa using p), W.done, W.self⟩
  refine k _ _ _ _ _ _ W' ⟨⟨_, Heap.get?_push_size _ rfl, rfl, by simp [rawInt]⟩, hL.push _⟩ (Sub.push _ _) (fun _ => Heap.size_push ..) (fun b hb => ?_) (fun b hb => ?_) fun i h st b hb => ?_
  · rcases List.mem_cons.mp hb with rfl | hb
    · exact .inr (.inl hn)
    · rw [List.mem_singleton.mp hb]; exact .inr (.inr (.head _))
  · rw [List.mem_singleton.mp hb]; exact .inl hn
  · rcases List.mem_cons.mp hb with rfl | hb
    · obtain ⟨o, e, _⟩ := st.1; exact ⟨o, e⟩
    · rw [List.mem_singleton.mp hb]; obtain ⟨o, e, _⟩ := st.2; exact ⟨o, e⟩
end
noncomputable def numsOf (ns : List Int) : List Int := [22, 8, 10, 4] ++ (ns.take 6).map (·.fmod 90) ++ [12, 5, 16, 9, 7]
noncomputable def ir0 : PS := .asg 1 (.call (.g (.ref 105)) (.cons (.bin .Add (.bin .Add (.list (.cons (.int 22) (.cons (.int 8) (.cons (.int 10) (.cons (.int 4) .nil))))) (.compN [(".0", .local), ("x", .local)] [none, none] (.bin .Mod (.v 1) (.int 90)) 1 .nil (.slc (.v 0) .nil (.cons (.int 6) .nil)))) (.list (.cons (.int 12) (.cons (.int 5) (.cons (.int 16) (.cons (.int 9) (.cons (.int 7) .nil))))))) .nil))
theorem Ints.app : ∀ {vs ws : List Value} {ns ms : List Int}, Ints vs ns → Ints ws ms → Ints (vs ++ ws) (ns ++ ms)
  | [], _, [], _, _, h => h
  | v :: vs, _, n :: ns, _, ⟨a, b⟩, h => ⟨a, Ints.app b h⟩
  | [], _, _ :: _, _, h, _ => h.elim
  | _ :: _, _, [], _, h, _ => h.elim
theorem w_st0 {c : Cx} {f : Fm} (hd : c.d ≤ 370) (hu : c.u ≤ 700) {g : Heap} {l : Addr} {vals : List Value} {ns : List Int} (hl : ∃ o, g.get? l = some o ∧ IsLs vals o) (hI : Ints vals ns) (hz : vals.length ≤ 63) {b1 : Option Value} {vr : List (Option Value)} {led : Ledger} {n : Nat} {Q : Flow → St → Prop}
    (q : ∀ g' bv, Sub g g' → (∃ bs, BlksG g' bv bs ∧ bs.map shp = (BS.of (numsOf ns)).all) → Q .next ⟨g', some (.ref l) :: some bv :: vr, led, some (n + 22 + ((numsOf ns).map nObj).sum)⟩) :
    wpS c f ir0 ⟨g, some (.ref l) :: b1 :: vr, led, some n⟩ Q := by
  unfold ir0
  repeat walk_at "w"
  refine ⟨(fs_105 _).plain, ?_⟩
  repeat walk_at "w"
  rename_i t1 t2 t3; rename Tok => t4
  refine W_newList (by show (4 : Nat) ≤ _; decide) fun l1 _ _ => ?_
  repeat walk_at "w"
  refine L_slc (lo := none) (hi := some ((6 : Nat) : Int)) (.inl hl) (by omega) .none (.int _ _) (by rw [slicePick_upto']) fun l2 _ _ => ?_
  have h6 : (vals.take 6).length = (ns.take 6).length := (hI.take 6).length
  refine ⟨[(l2, IsLs (vals.take 6))], _, _, _, _, _, .refl _, Iter_LsD, fun f1 acc _ _ => ⟨fun k σ => Ex3 fun g' b ws => σ = ⟨g', [none, b], [(acc, IsLs ws), (l1, IsLs [.int 22 t1, .int 8 t2, .int 10 t3, .int 4 t4])] ++ led, some (n + 6)⟩ ∧ Sub g g' ∧ Ints ws (((ns.take 6).take k).map (·.fmod 90)),
    Frz.now fun g' S => ⟨g', none, [], rfl, S, trivial⟩, ?_, ?_⟩⟩
  · rintro k v _ hk hv S' ⟨g', b, ws, (rfl), S, hw⟩
    obtain ⟨x, tx, (rfl), hx⟩ := (hI.take 6).get k hv
    repeat walk_at "w"
    refine L_app LU.here (by rw [hw.length, List.length_map, List.length_take, List.length_take]; omega) ?_
    refine Frz.now fun g3 S3 => ⟨g3, _, _, rfl, S.trans S3, ?_⟩
    rw [List.take_add_one, hx, List.map_append]
    exact hw.snoc
  · rintro _ S' ⟨g', b, ws, (rfl), S, hw⟩
    rw [h6, List.take_length] at hw
    refine L_addS (.inr (.tail _ (.head _))) (.inr (.head _)) (by show 4 + ws.length ≤ 1000; rw [hw.length, List.length_map, List.length_take]; omega) fun l3 _ => ?_
    repeat walk_at "w"
    rename_i t5 t6 t7 t8; rename Tok => t9
    refine W_newList (by show (5 : Nat) ≤ _; decide) fun l4 _ _ => ?_
    repeat walk_at "w"
    refine L_addS (.inr (.tail _ (.head _))) (.inr (.head _)) (by show (_ ++ ws).length + 5 ≤ 1000; rw [List.length_append, hw.length, List.length_map, List.length_take]; show 4 + _ + 5 ≤ 1000; omega) fun l5 _ => ?_
    repeat walk_at "w"
    have hN : Ints ([.int 22 t1, .int 8 t2, .int 10 t3, .int 4 t4] ++ ws ++ [.int 12 t5, .int 5 t6, .int 16 t7, .int 9 t8, .int 7 t9]) (numsOf ns) :=
      Ints.app (Ints.app (⟨⟨_, rfl⟩, ⟨_, rfl⟩, ⟨_, rfl⟩, ⟨_, rfl⟩, trivial⟩ : Ints [.int 22 t1, .int 8 t2, .int 10 t3, .int 4 t4] [22, 8, 10, 4]) hw) (⟨⟨_, rfl⟩, ⟨_, rfl⟩, ⟨_, rfl⟩, ⟨_, rfl⟩, ⟨_, rfl⟩, trivial⟩ : Ints [.int 12 t5, .int 5 t6, .int 16 t7, .int 9 t8, .int 7 t9] [12, 5, 16, 9, 7])
    have hnl : (numsOf ns).length ≤ 100 := by unfold numsOf; simp only [List.length_append, List.length_map, List.length_take]; show 4 + _ + 5 ≤ 100; omega
    refine W.frz [(l5, _), (l4, _), (l3, _), (acc, _), (l1, _)] led (.refl _) fun g2 S2 hx => ?_
    obtain ⟨o5, e5, q5⟩ := hx _ (.head _)
    refine W_fn [] led _ (.refl _) (c_blocks (n := n + 11) (by omega) (by omega) ⟨l5, o5, rfl, e5, q5⟩ hN hnl) ?_
    rintro v g3 m3 z3 S3 - ⟨hbs, (rfl), (rfl)⟩
    repeat walk_at "w"
    have ez : n + 11 + 11 + ((numsOf ns).map nObj).sum = n + 22 + ((numsOf ns).map nObj).sum := by omega
    have := q g3 v (S.trans (S2.trans S3)) hbs
    rw [← ez] at this
    exact this
end
section
open _root_.PySem _root_.PySem.W _root_.PySem.Calls PyProof.Rows
set_option maxRecDepth 100000
structure LamA where
  x : Str
  px : Pos
  fx : Str
  pf : Pos
  rest : List Expr
  pc : Pos
  pa : Pos
noncomputable def lamA (st : Option Stmt) : LamA := match st with
  | some (.Assign [.Name x px] (.Call (.Name fx pf) (.Lambda _ _ _ _ :: rest) _ pc) pa) => ⟨x, px, fx, pf, rest, pc, pa⟩
  | _ => ⟨Str.empty, default, Str.empty, default, [], default, default⟩
noncomputable def lawL (w : World) : List Stmt := bodyOf (fdOf ((hd.ktop_241 w.params).get 120))
noncomputable def laA (w : World) (j : Nat) : LamA := lamA (lawL w)[j]?
noncomputable def laSt (w : World) (j : Nat) : Stmt := .Assign [.Name (laA w j).x (laA w j).px] (.Call (.Name (laA w j).fx (laA w j).pf) (.Lambda (lamJ w j).a (lamJ w j).e (lamJ w j).s (lamJ w j).p :: (laA w j).rest) [] (laA w j).pc) (laA w j).pa
noncomputable def st0_ (l : List Stmt) : Stmt := match l with
  | s :: _ => s
  | [] => .Pass default
theorem body120 (w : World) : (FD w 120).body = .stmts (st0_ (lawL w) :: laSt w 1 :: laSt w 2 :: laSt w 3 :: laSt w 4 :: laSt w 5 :: (lawL w).drop 6) := by kernel_rfl
theorem fs_120 (w : World) : FnSt w 120 (KT w 120) := fnOk_ (ca := 119) (by kernel_rfl)
theorem ck_st0 (w : World) : chk1 (KT w 120) 40 ir0 (st0_ (lawL w)) = true := by kernel_rfl
noncomputable def lEnv (w : World) (L : Nat) : Env := { scope := (FD w 120).scope, locals := L, globals := 3, cells := [(sKey, L + 1)], qual := ⟨⟨[108, 97, 119, 46, 60, 108, 111, 99, 97, 108, 115, 62, 46]⟩⟩, func := some 120, code := .ref 119, frame := some L, builtins := 0 }
theorem env120 (w : World) (L : Nat) : newEnv (FD w 120).scope L mainGlobals (cellsFrom (L + 1) (KT w 120).names (FD w 120).closure) ((FD w 120).qualname ++ ".<locals>.") (some 120) (FD w 120).code none (FD w 120).builtins = lEnv w L := by kernel_rfl
theorem nm120 (w : World) : (KT w 120).names[14]? = some (sKey, NameKind.cell) := by kernel_rfl
theorem vs120 (w : World) (v : Value) : ∃ vr, setAll ((KT w 120).names.map fun U => none) [0] ([(("script" : Str), v)].map (·.2)) = some v :: none :: none :: none :: none :: none :: none :: none :: none :: none :: none :: none :: none :: none :: none :: vr := ⟨[none, none, none, none, none, none], by kernel_rfl⟩
theorem sz120 (w : World) (n : Nat) : (some n).map (· + (1 + cellN (KT w 120).names)) = some (n + 2) := by kernel_rfl
theorem ba120 (w : World) (v : Value) : bindArgs (FD w 120) ⟨[v], []⟩ = pure [(("script" : Str), v)] := by kernel_rfl
theorem bc120 (w : World) (v : Value) : bindChk (KT w 120).names true [0] [(("script" : Str), v)] = true := by kernel_rfl
noncomputable def ptab : List (Pos × Addr) → List Value
  | [] => []
  | p :: l => rawInt p.1.line :: rawInt p.1.col :: .ref p.2 :: ptab l
theorem ptab_snoc (l : List (Pos × Addr)) (p : Pos) (a : Addr) : ptab (l ++ [(p, a)]) = ptab l ++ [rawInt p.line, rawInt p.col, .ref a] := by
  induction l with
  | nil => rfl
  | cons q l ih => show _ :: _ :: _ :: ptab (l ++ [(p, a)]) = _; rw [ih]; rfl
theorem ptab_ok : ∀ l : List (Pos × Addr), TriplesOk (ptab l)
  | [] => trivial
  | p :: l => ptab_ok l
structure LX (w : World) (j i : Nat) (fa : Addr) (pe : PE) (cl : Bool) : Prop where
  x : nmSt (KT w 120).names (!cl) i (laA w j).x = true
  g : chkE ⟨(KT w 120).names, GT, !cl⟩ 5 (.g (.ref fa)) (.Name (laA w j).fx (laA w j).pf) = true
  r : chkL ⟨(KT w 120).names, GT, !cl⟩ 20 pe (laA w j).rest = true
  d : ∀ env, defaultsOf (lamJ w j).a env = ([], [])
  c : ∀ L, closureFor (lamJ w j).s (lEnv w L) = pure (bif cl then [(sKey, L + 1)] else [])
  o : (localNames (lamJ w j).a (lamJ w j).s (.expr (lamJ w j).e)).isSome = true
noncomputable abbrev peL : PE := .cons (.v 1) (.cons (.list (.cons (.list .nil) .nil)) .nil)
noncomputable abbrev peX : PE := .cons (.bin .Add (.list (.cons (.list (.cons (.list .nil) .nil)) .nil)) (.v 1)) .nil
theorem lx1 (w : World) : LX w 1 14 89 .nil false := ⟨by kernel_rfl, by kernel_rfl, by kernel_rfl, fun U => by kernel_rfl, fun U => by kernel_rfl, by kernel_rfl⟩
theorem lx2 (w : World) : LX w 2 2 98 peL true := ⟨by kernel_rfl, by kernel_rfl, by kernel_rfl, fun U => by kernel_rfl, fun U => by kernel_rfl, by kernel_rfl⟩
theorem lx3 (w : World) : LX w 3 3 98 peX true := ⟨by kernel_rfl, by kernel_rfl, by kernel_rfl, fun U => by kernel_rfl, fun U => by kernel_rfl, by kernel_rfl⟩
theorem lx4 (w : World) : LX w 4 4 98 peL true := ⟨by kernel_rfl, by kernel_rfl, by kernel_rfl, fun U => by kernel_rfl, fun U => by kernel_rfl, by kernel_rfl⟩
theorem lx5 (w : World) : LX w 5 5 98 peX true := ⟨by kernel_rfl, by kernel_rfl, by kernel_rfl, fun U => by kernel_rfl, fun U => by kernel_rfl, by kernel_rfl⟩
theorem pn1 (w : World) : codeAmong (lamJ w 1).p (ptab []) = none := by kernel_rfl
theorem pn2 (w : World) (a1 : Addr) : codeAmong (lamJ w 2).p (ptab [((lamJ w 1).p, a1)]) = none := by kernel_rfl
theorem pn3 (w : World) (a1 a2 : Addr) : codeAmong (lamJ w 3).p (ptab [((lamJ w 1).p, a1), ((lamJ w 2).p, a2)]) = none := by kernel_rfl
theorem pn4 (w : World) (a1 a2 a3 : Addr) : codeAmong (lamJ w 4).p (ptab [((lamJ w 1).p, a1), ((lamJ w 2).p, a2), ((lamJ w 3).p, a3)]) = none := by kernel_rfl
theorem pn5 (w : World) (a1 a2 a3 a4 : Addr) : codeAmong (lamJ w 5).p (ptab [((lamJ w 1).p, a1), ((lamJ w 2).p, a2), ((lamJ w 3).p, a3), ((lamJ w 4).p, a4)]) = none := by kernel_rfl
section
variable {c : Cx} {f : Fm} {σ : St} {cw : Bool}
theorem W_lamAsg {L : Nat} {j i : Nat} {fa : Addr} {pe : PE} {cl : Bool} (X : LX c.w j i fa pe cl) (O : Ok c f ⟨(KT c.w 120).names, GT, !cl⟩ (lEnv c.w L)) (pl : Gr c.w σ.g → Plain c σ.g (.ref fa)) {tb : List (Pos × Addr)} (hnf : codeAmong (lamJ c.w j).p (ptab tb) = none) {led' : Addr → Ledger} {Q : Flow → St → Prop}
    (hm : ∀ c', LU σ.led 117 (tabP (ptab tb).toArray) (tabP (ptab (tb ++ [((lamJ c.w j).p, c')])).toArray) (led' c'))
    (q : ∀ c' a ctv cd pm g' ql, Sub σ.g g' → g'.get? c' = some (xCode ql cd) → g'.get? a = some (kla_obj "<lambda>" ql (lamJ c.w j).a (lamJ c.w j).e (lamJ c.w j).s (bif cl then [(sKey, L + 1)] else []) pm c' ctv) → ((bif cl then [(sKey, L + 1)] else []) = [] → ctv = .none) →
      wpL c f pe ⟨g', σ.vs, led' c', szUp σ (bif cl then 8 else 7)⟩ fun vs σ2 => W c f (call (.ref fa) (.ref a :: vs)) σ2 fun r σ3 => Q .next { σ3 with vs := σ3.vs.set i (some r) }) :
    W c f (exec (laSt c.w j) (lEnv c.w L)) σ Q := by
  refine W_AssignN O.e X.x rfl (W_Call rfl (chkL_plain (env := lEnv c.w L) X.r) ((snd O 5 _).e _ _ _ X.g ⟨pl, W_spliced rfl ?_⟩))
  have hm' : ∀ c', LU σ.led 117 (tabP (ptab tb).toArray) (tabP ((ptab tb).toArray ++ #[rawInt (lamJ c.w j).p.line, rawInt (lamJ c.w j).p.col, .ref c'])) (led' c') := fun c' => by
    have e : (ptab tb).toArray ++ #[rawInt (lamJ c.w j).p.line, rawInt (lamJ c.w j).p.col, .ref c'] = (ptab (tb ++ [((lamJ c.w j).p, c')])).toArray := by rw [ptab_snoc]; simp
    rw [e]; exact hm c'
  refine W_lam (K := ⟨(KT c.w 120).names, GT, !cl⟩) O.e rfl (X.d _) (X.c L) hnf (ptab_ok tb) X.o hm' fun c' a ctv cd pm g' S e1 e2 e3 => ?_
  have e8 : (if (bif cl then [(sKey, L + 1)] else []).isEmpty = true then 7 else 8) = bif cl then 8 else 7 := by cases cl <;> rfl
  rw [e8]
  exact (snd O 20 _).l _ _ _ _ X.r (q c' a ctv cd pm g' _ S e1 e2 e3)
end
theorem lam1 (w : World) : lamJ w 1 = lamK w := by kernel_rfl
section
variable {c : Cx} {f : Fm}
theorem w_st1 {L n : Nat} (O : Ok c f (KT c.w 120) (lEnv c.w L)) (hL : RunC (n + 7 + 2)) (hg : c.s.gens = #[]) (hd : c.d ≤ 900) {g : Heap} {vs : List (Option Value)} :
    W c f (exec (laSt c.w 1) (lEnv c.w L)) ⟨g, vs, [(84, tabP #[]), (117, tabP #[])], some n⟩ fun fl σ' => fl = .next ∧ Ex5 fun g' k ps z c1 => σ' = ⟨g', vs.set 14 (some (.ref k.cls)), [(84, tabP ps), (117, tabP (ptab [((lamJ c.w 1).p, c1)]).toArray)], z⟩ ∧ KW c.w g' k := by
  refine W_lamAsg (lx1 c.w) O (fs_89 c.w).plain (tb := []) (pn1 c.w) (led' := fun c' => [(84, tabP #[]), (117, tabP (ptab [((lamJ c.w 1).p, c')]).toArray)]) (fun c' => .there .here) fun c' a ctv cd pm g' ql S e1 e2 e3 => ?_
  have e3 := e3 rfl
  subst e3
  have e2' : g'.get? a = some (xLam c.w ql c' pm) := by rw [e2, lam1]; rfl
  refine W_fn [(84, tabP #[])] [(117, tabP (ptab [((lamJ c.w 1).p, c')]).toArray)] _ (.refl _) (c_cmp (L := n + 7) hL hg hd ⟨ql, pm, e2', cd, e1⟩) ?_
  rintro r g2 m2 z2 S2 hm ⟨rfl, k, rfl, hk⟩
  exact ⟨rfl, g2, k, _, z2, c', rfl, hk⟩
end
noncomputable abbrev Fm.ro (f : Fm) : Fm := { f with own := [f.L] }
theorem EnvOk.ro {f : Fm} {env : Env} {names : List (Str × NameKind)} {cw : Bool} (e : EnvOk f env names cw) : EnvOk f.ro env names false :=
  ⟨e.loc, e.frm, .head _, (fun h => nomatch h), e.knd, e.nm, e.glo, e.bui, e.len, e.ndA, e.at_⟩
theorem At.cellG {c : Cx} {f : Fm} {σ : St} {h : Heap} {i : Nat} {x : Str} {kc : Addr} (a : At c f σ h) (hL : f.L ∈ f.own) (nd : f.all.Nodup) (hk : f.ns[i]? = some (x, some kc)) :
    At c f.ro ⟨more σ.g h [kc], σ.vs, σ.led, none⟩ h ∧ (more σ.g h [kc]).IsCell kc ((σ.vs[i]?).join) ∧ Sub σ.g (more σ.g h [kc]) := by
  have hka : kc ∈ f.ns.filterMap (·.2) := List.mem_filterMap.mpr ⟨(x, some kc), List.mem_of_getElem? hk, rfl⟩
  have hne : f.L ≠ kc := fun z => by
    have := (List.nodup_cons.mp nd).1
    rw [z] at this; exact this hka
  have gn : ∀ b, σ.g.get? b = none → b ≠ kc → (more σ.g h [kc]).get? b = none := fun b hb hba => by
    cases q : (more σ.g h [kc]).get? b with
    | none => rfl
    | some o =>
      rcases more_of a.hp.sub q with z | z
      · rw [z] at hb; cases hb
      · exact absurd (List.mem_singleton.mp z) hba
  obtain ⟨o, eo, hd⟩ := a.fr.cel i x kc hk
  refine ⟨⟨⟨a.hp.gr.sub (more_sub a.hp.sub), more_in, a.hp.ld, a.hp.here, fun b hb => ?_, fun b hb => gn b (a.hp.offL b hb) fun z => ?_, a.hp.nd, a.hp.ap, fun b hb => ?_, fun b hb => ?_, fun n e => nomatch e⟩, ⟨a.fr.len, a.fr.ns, a.fr.cel⟩⟩, ⟨o, more_at eo (.head _), hd⟩, more_sub a.hp.sub⟩
  · rw [List.mem_singleton.mp hb]; exact gn _ (a.hp.offO _ hL) hne
  · rw [z] at hb; exact a.hp.ap _ (List.mem_cons_of_mem _ hka) hb
  · rw [List.mem_singleton.mp hb]; exact .head _
  · obtain ⟨⟨o', e', ⟨es, ep, hdd⟩⟩, q2, q3⟩ := a.hp.frm b hb
    refine ⟨⟨o', e', es, ep, hdd⟩, gn b q2 fun z => ?_, q3⟩
    rw [z, eo] at e'
    cases e'
    rw [hd] at hdd; cases hdd
section
variable {c : Cx} {f : Fm} {g : Heap} {k : KA} {bs : List (Blk Th)} {bv : Value} {s : Int} {sa kc : Addr} {j : Nat}
theorem FoldJ.zero {g : Heap} {s : Int} {bs : List (Blk Th)} {r1 r2 : Addr} (h1 : ∃ o, g.get? r1 = some o ∧ IsLs [] o) (h2 : ∃ o, g.get? r2 = some o ∧ IsLs [.ref r1] o) : FoldJ s bs 0 (.ref r2) g := by
  obtain ⟨o1, e1, p1⟩ := h1
  obtain ⟨o2, e2, p2⟩ := h2
  refine ⟨[[]], ⟨[.ref r1], ⟨r2, o2, rfl, e2, p2⟩, rfl, fun i v e => ?_⟩, rfl, rfl, fun j hj => absurd hj (Nat.not_lt_zero _)⟩
  cases i with
  | zero => cases e; exact ⟨[], rfl, ⟨r1, o1, rfl, e1, p1⟩, fun t h => nomatch h⟩
  | succ i => cases e
theorem FoldJ.subS {s : Int} {bs : List (Blk Th)} (n : Nat) (v : Value) (g g' : Heap) (x : ∃ i, n = i + 1 ∧ FoldJ s bs i v g) (S : Sub g g') : ∃ i, n = i + 1 ∧ FoldJ s bs i v g' := let ⟨i, e, y⟩ := x; ⟨i, e, y.sub _ _ _ _ S⟩
end
theorem c90 (w : World) : ((obAt w 90).cls == Value.type "list") = false := by kernel_rfl
section
variable {c : Cx} {f : Fm} {g : Heap} {k : KA} {bs : List (Blk Th)} {bv : Value} {s : Int} {sa kc : Addr} {j i L : Nat} {tb : List (Pos × Addr)} {v0 : Option Value} {vr : List (Option Value)} {Q : Flow → St → Prop}
noncomputable abbrev tabL (tb : List (Pos × Addr)) : Ledger := [(117, tabP (ptab tb).toArray)]
theorem w_foldL (X : LX c.w j i 98 peL true) (J : LJ c.w j sa false) (O : Ok c f ⟨(KT c.w 120).names, GT, false⟩ (lEnv c.w L)) (hnf : codeAmong (lamJ c.w j).p (ptab tb) = none) (hd : c.d ≤ 316) (sel : ∀ F F', SelOk ((c.deep F).deep F') sa s false) (pl : ∀ {c g}, Gr c.w g → Plain c g (.ref sa))
    (hc : g.IsCell (L + 1) (some (.ref k.cls))) (KK : KC c g k) (hB : BlksG g bv bs) (ok : BksOk bs)
    {z0 : Option Nat} (q : ∀ g' r c' z, Sub g g' → FoldJ s bs bs.length r g' → Q .next ⟨g', (v0 :: some bv :: vr).set i (some r), tabL (tb ++ [((lamJ c.w j).p, c')]), z⟩) :
    W c f (exec (laSt c.w j) (lEnv c.w L)) ⟨g, v0 :: some bv :: vr, tabL tb, z0⟩ Q := by
  obtain ⟨vs, hl, hA⟩ := hB
  obtain ⟨lb, ob, rfl, eb, qb⟩ := hl
  refine W.sz0 (W_lamAsg X O (fs_98 c.w).plain hnf (led' := fun c' => tabL (tb ++ [((lamJ c.w j).p, c')])) (fun c' => .here) fun c' a ctv cd pm g' ql S e1 e2 U => ?_)
  repeat walk_at "w"
  refine W_newList (by decide) fun r1 U U => ?_
  repeat walk_at "w"
  refine W_newList (by show (1 : Nat) ≤ _; decide) fun r2 U U => ?_
  repeat walk_at "w"
  refine W.frz [(r2, IsLs [.ref r1]), (r1, IsLs [])] (tabL (tb ++ [((lamJ c.w j).p, c')])) (.refl _) fun g2 S2 hx => ?_
  have S02 := S.trans S2
  obtain ⟨o2, eo2, qo2⟩ := hx _ (.head _)
  have h1 := hx _ (.tail _ (.head _))
  have eb2 := S02 _ _ eb
  have ea2 := S2 _ _ e2
  have hL : LamG c.w j a (L + 1) g2 := ⟨ql, pm, ctv, c', cd, ea2, S2 _ _ e1⟩
  obtain ⟨oc, eoc, hcd⟩ := hc
  refine W.gr fun G => W_fn [] (tabL (tb ++ [((lamJ c.w j).p, c')])) _ (.refl _) (c_reduce3 (xs := vs) (J := FoldJ s bs) (by omega) FoldJ.sub ⟨_, _, ea2, rfl⟩ ⟨ob, eb2, qb⟩ (fun F => fold_step (c := c.deep F) J hL ⟨oc, S02 _ _ eoc, hcd⟩ (by show c.d + 1 ≤ 318; omega) (sel F) pl G ⟨KK.gen, KK.kw.sub S02⟩ (AllG.sub (R := BlkG) (fun U U U U h S => h.sub S) hA S02) ok) eo2 ?_ ?_ (FoldJ.zero h1 ⟨o2, eo2, qo2⟩)) ?_
  · intro z
    have e90 := G.ob (a := 90) (by kernel_rfl) (by decide)
    rw [z] at eo2
    have e := Option.some.inj (eo2.symm.trans e90)
    have := c90 c.w
    rw [← e, qo2.1] at this
    exact absurd this (by decide)
  · rw [qo2.1]; decide
  · rintro r g3 m3 z3 S3 hm3 hJ
    have em : m3 = [] := by
      cases m3 with
      | nil => rfl
      | cons p _ => exact absurd (hm3 p.1 (.head _)) (fun h => nomatch h)
    subst em
    rw [hA.1] at hJ
    exact q g3 r c' z3 (S02.trans S3) hJ
theorem w_foldX (X : LX c.w j i 98 peX true) (J : LJ c.w j sa true) (O : Ok c f ⟨(KT c.w 120).names, GT, false⟩ (lEnv c.w L)) (hnf : codeAmong (lamJ c.w j).p (ptab tb) = none) (hd : c.d ≤ 316) (sel : ∀ F F', SelOk ((c.deep F).deep F') sa s true) (pl : ∀ {c g}, Gr c.w g → Plain c g (.ref sa))
    (hc : g.IsCell (L + 1) (some (.ref k.cls))) (KK : KC c g k) (hB : BlksG g bv bs) (ok : BksOk bs)
    {z0 : Option Nat} (q : ∀ g' r c' z, Sub g g' → FoldJ s bs bs.length r g' → Q .next ⟨g', (v0 :: some bv :: vr).set i (some r), tabL (tb ++ [((lamJ c.w j).p, c')]), z⟩) :
    W c f (exec (laSt c.w j) (lEnv c.w L)) ⟨g, v0 :: some bv :: vr, tabL tb, z0⟩ Q := by
  obtain ⟨vs, hl, hA⟩ := hB
  obtain ⟨lb, ob, rfl, eb, qb⟩ := hl
  have hvl : vs.length ≤ 40 := by rw [hA.1]; exact ok.len
  refine W.sz0 (W_lamAsg X O (fs_98 c.w).plain hnf (led' := fun c' => tabL (tb ++ [((lamJ c.w j).p, c')])) (fun c' => .here) fun c' a ctv cd pm g' ql S e1 e2 U => ?_)
  repeat walk_at "w"
  refine W_newList (by decide) fun r1 U U => ?_
  repeat walk_at "w"
  refine W_newList (by show (1 : Nat) ≤ _; decide) fun r2 U U => ?_
  repeat walk_at "w"
  refine W_newList (by show (1 : Nat) ≤ _; decide) fun r3 U U => ?_
  repeat walk_at "w"
  refine L_addL (.inr (.head _)) (.inl ⟨ob, S _ _ eb, qb⟩) (by show 1 + vs.length ≤ 1000; omega) fun D U => ?_
  repeat walk_at "w"
  refine W.frz [(D, IsLs ([.ref r2] ++ vs)), (r3, IsLs [.ref r2]), (r2, IsLs [.ref r1]), (r1, IsLs [])] (tabL (tb ++ [((lamJ c.w j).p, c')])) (.refl _) fun g2 S2 hx => ?_
  have S02 := S.trans S2
  obtain ⟨oD, eoD, qoD⟩ := hx _ (.head _)
  have h2 := hx _ (.tail _ (.tail _ (.head _)))
  have h1 := hx _ (.tail _ (.tail _ (.tail _ (.head _))))
  have ea2 := S2 _ _ e2
  have hL : LamG c.w j a (L + 1) g2 := ⟨ql, pm, ctv, c', cd, ea2, S2 _ _ e1⟩
  obtain ⟨oc, eoc, hcd⟩ := hc
  refine W.gr fun G => W_fn [] (tabL (tb ++ [((lamJ c.w j).p, c')])) _ (.refl _) (c_reduce2 (xs := .ref r2 :: vs) (x := .ref r2) (J := fun n v g => ∃ i, n = i + 1 ∧ FoldJ s bs i v g) (by omega) FoldJ.subS ⟨_, _, ea2, rfl⟩ ⟨oD, eoD, qoD⟩
    (fun F => fold_step2 (x0 := .ref r2) (fold_step (c := c.deep F) J hL ⟨oc, S02 _ _ eoc, hcd⟩ (by show c.d + 1 ≤ 318; omega) (sel F) pl G ⟨KK.gen, KK.kw.sub S02⟩ (AllG.sub (R := BlkG) (fun U U U U h S => h.sub S) hA S02) ok)) rfl ⟨0, rfl, FoldJ.zero h1 h2⟩) ?_
  rintro r g3 m3 z3 S3 hm3 ⟨i', ei, hJ⟩
  have em : m3 = [] := by
    cases m3 with
    | nil => rfl
    | cons p _ => exact absurd (hm3 p.1 (.head _)) (fun h => nomatch h)
  subst em
  have ei : vs.length + 1 = i' + 1 := ei
  rw [hA.1] at ei
  rw [← Nat.succ.inj ei] at hJ
  exact q g3 r c' z3 (S02.trans S3) hJ
end
noncomputable abbrev lenE (e : PE) : PE := .call (.g (.builtin "len")) (.cons e .nil)
noncomputable abbrev retF : PS := .seq (.ret (.tt false)) .skip
noncomputable def ir7c : PS := .seq (.ifS (.cmp .IsNot (.sub (.v 10) (.v 12)) (.v 13)) retF .skip) .skip
noncomputable def ir7b : PS := .seq (.ifS (.cmp .NotEq (lenE (.v 10)) (lenE (.v 11))) retF .skip) (.seq (.forT [12, 13] (.v 11) ir7c) .skip)
noncomputable def ir7a : PS := .seq (.ifS (.cmp .NotEq (lenE (.v 8)) (.bin .Add (lenE (.v 1)) (.int 1))) retF .skip) (.seq (.forT [10, 11] (.call (.g (.type "zip")) (.cons (.slc (.v 8) (.cons (.int 1) .nil) .nil) (.cons (.v 9) .nil))) ir7b) .skip)
noncomputable abbrev tup2 (i j : Nat) : PE := .tup (.cons (.v i) (.cons (.v j) .nil))
noncomputable def ir7 : PS := .seq (.forT [8, 9] (.list (.cons (tup2 2 6) (.cons (tup2 3 6) (.cons (tup2 4 7) (.cons (tup2 5 7) .nil))))) ir7a) (.seq (.ret (.tt true)) .skip)
noncomputable abbrev keptE (e : PE) : PE := .call (.g (.ref 115)) (.cons (.v 1) (.cons e .nil))
noncomputable def ir6 : PS := .seq (.asgS 6 7 (.tup (.cons (keptE (.int 1)) (.cons (keptE (.neg (.int 1))) .nil)))) ir7
theorem ck_6 (w : World) : chkS ⟨(KT w 120).names, GT, false⟩ 40 ir6 ((lawL w).drop 6) = true := by kernel_rfl
theorem choose2 {n : Nat} {P : Nat → Addr → List Value → Prop} (h : ∀ i, i < n → Ex2 fun T v => P i T v) : Ex2 fun (Ts : Nat → Addr) (vs : Nat → List Value) => ∀ i, i < n → P i (Ts i) (vs i) := by
  have h' : ∀ i, ∃ T, ∃ v, i < n → P i T v := fun i => if q : i < n then (match h i q with | ⟨T, v, p⟩ => ⟨T, v, fun U => p⟩) else ⟨0, [], fun k => absurd k q⟩
  exact ⟨fun i => (h' i).choose, fun i => (h' i).choose_spec.choose, fun i hi => (h' i).choose_spec.choose_spec hi⟩
section
variable {c : Cx} {f : Fm} {g : Heap} {Q : Flow → St → Prop} {v0 v1 v2 v3 v4 v5 v6 v7 v8 v9 b10 b11 b12 b13 : Option Value} {vr : List (Option Value)} {led : Ledger} {z : Option Nat}
theorem W_isNotS {σ : St} {x : Addr} {Q : Value → St → Prop} (q : Q (.bool false) σ) : W c f (compareOp .IsNot (.ref x) (.ref x)) σ Q := fun U U U U U a => wpAny_isNot_ref_self (.here a q)
theorem w_rowB {xv yv : Value} {L : List Th} {ds : List Value} {D : List (Nat × Th)} (hrow : RowG g xv L) (hy : LsG g yv ds) (hd : AllG DueG g ds D) (hlen : L.length = D.length) (hin : ∀ p t, (p, t) ∈ D → L[p]? = some t) (hz : L.length ≤ 100)
    (q : ∀ g' b12 b13 z, Sub g g' → Q .next ⟨g', v0 :: v1 :: v2 :: v3 :: v4 :: v5 :: v6 :: v7 :: v8 :: v9 :: some xv :: some yv :: b12 :: b13 :: vr, led, z⟩) :
    wpS c f ir7b ⟨g, v0 :: v1 :: v2 :: v3 :: v4 :: v5 :: v6 :: v7 :: v8 :: v9 :: some xv :: some yv :: b12 :: b13 :: vr, led, z⟩ Q := by
  have hdl := hd.1
  unfold ir7b
  repeat walk_at "w"
  refine L_lenG hrow.1 (by rw [List.length_map]; omega) fun U => ?_
  repeat walk_at "w"
  refine L_lenG hy (by omega) fun U => ?_
  repeat walk_at "w"
  refine W_neI ?_
  have e : (((L.map (·.1)).length : Int) != (ds.length : Nat)) = false := by rw [List.length_map, hdl, hlen]; simp
  rw [e]
  repeat walk_at "w"
  obtain ⟨ly, oy, rfl, ey, qy⟩ := id hy
  obtain ⟨Ts, vals, hTs⟩ := choose2 (n := ds.length) (P := fun i T v => ds[i]? = some (.ref T) ∧ (∃ o, g.get? T = some o ∧ IsT v o) ∧ Ex3 fun (p : Nat) (t : Th) (tok : Tok) => D[i]? = some (p, t) ∧ v = [.int p tok, t.1]) fun i hi => by
    obtain ⟨⟨p, t⟩, e1, T, o, tok, e2, e3, e4⟩ := hd.2 i ds[i] (List.getElem?_eq_getElem hi)
    exact ⟨T, _, by rw [List.getElem?_eq_getElem hi, e2], ⟨o, e3, e4⟩, p, t, tok, e1, rfl⟩
  refine s_forT ?_
  repeat walk_at "w"
  refine ⟨[], _, _, _, _, .refl _, IterT_tups ⟨oy, ey, qy⟩ Ts vals (fun i hi => ⟨(hTs i hi).1, (hTs i hi).2.1⟩), fun k σ => Ex3 fun g' b12 b13 => σ = ⟨g', v0 :: v1 :: v2 :: v3 :: v4 :: v5 :: v6 :: v7 :: v8 :: v9 :: some xv :: some (.ref ly) :: b12 :: b13 :: vr, led, none⟩ ∧ Sub g g', Frz.now fun g' S => ⟨g', _, _, rfl, S⟩, ?_, ?_⟩
  · rintro k U U hk rfl S' ⟨g', b12, b13, rfl, S⟩
    obtain ⟨U, U, p, t, tok, e1, e2⟩ := hTs k hk
    rw [e2]
    refine ⟨rfl, ?_⟩
    show wpS c f ir7c ⟨g', v0 :: v1 :: v2 :: v3 :: v4 :: v5 :: v6 :: v7 :: v8 :: v9 :: some xv :: some (.ref ly) :: some (.int p tok) :: some t.1 :: vr, led, none⟩ _
    have hp := hin p t (List.mem_of_getElem? e1)
    have hpl := (List.getElem?_eq_some_iff.mp hp).1
    obtain ⟨U, U, lt, ot, et, U, U⟩ := hrow.2 t (List.mem_of_getElem? hp)
    unfold ir7c
    repeat walk_at "w"
    refine L_itemG (hrow.1.sub S) (by omega) (by rw [List.length_map]; omega) (by rw [List.length_map]; omega) ?_
    have ei : (L.map (·.1)).getD ((p : Nat) : Int).toNat .none = t.1 := by
      rw [Int.toNat_natCast, List.getD_eq_getElem?_getD, List.getElem?_map, hp]; rfl
    rw [ei]
    repeat walk_at "w"
    rw [et]
    refine W_isNotS ?_
    repeat walk_at "w"
    exact Frz.now fun g3 S3 => ⟨g3, _, _, rfl, S.trans S3⟩
  · rintro _ S' ⟨g', b12, b13, rfl, S⟩
    repeat walk_at "w"
    exact q _ _ _ _ S
end
theorem FoldK.lenJ {s : Int} {bs : List (Blk Th)} {i : Nat} {Ks : List (List Th)} (hw : ∀ b ∈ bs, -1 ≤ b.w ∧ b.w ≤ 5) (x : FoldK s bs i Ks) (hi : i ≤ bs.length) {j : Nat} (hj : j ≤ i) : (Ks.getD j []).length ≤ 5 := by
  cases j with
  | zero => rw [x.zero]; exact Nat.zero_le _
  | succ j =>
    obtain ⟨L, U, hp, e⟩ := x.next j hj
    have := (hw (bAt bs j) (by unfold bAt; rw [List.getD_eq_getElem?_getD, List.getElem?_eq_getElem (by omega)]; exact List.getElem_mem _)).2
    rw [e, List.length_take]; omega
theorem pick_from {xs : List Value} {a : Nat} : (slicePick xs.toArray (some (a : Int)) none none).toList = xs.drop a := by rw [slicePick_from']
noncomputable def PairG (g : Heap) (bs : List (Blk Th)) (rv kv : Value) : Prop := Ex2 fun s Ks => (s = 1 ∨ s = -1) ∧ RowsG g rv Ks ∧ FoldK s bs bs.length Ks ∧ KeptG g kv bs.length (keptAt (lt2 s) (bAt bs))
theorem PairG.sub {g g' : Heap} {bs : List (Blk Th)} {rv kv : Value} (x : PairG g bs rv kv) (S : Sub g g') : PairG g' bs rv kv := let ⟨s, Ks, h, a, b, d⟩ := x; ⟨s, Ks, h, a.sub S, b, d.sub S⟩
section
variable {c : Cx} {f : Fm} {g : Heap} {Q : Flow → St → Prop} {v0 v2 v3 v4 v5 v6 v7 b8 b9 b10 b11 b12 b13 : Option Value} {vr : List (Option Value)} {led : Ledger} {z : Option Nat} {bs : List (Blk Th)} {bv rv kv : Value}
theorem w_pairB (hB : BlksG g bv bs) (ok : BksOk bs) (hP : PairG g bs rv kv)
    (q : ∀ g' b10 b11 b12 b13 z, Sub g g' → Q .next ⟨g', v0 :: some bv :: v2 :: v3 :: v4 :: v5 :: v6 :: v7 :: some rv :: some kv :: b10 :: b11 :: b12 :: b13 :: vr, led, z⟩) :
    wpS c f ir7a ⟨g, v0 :: some bv :: v2 :: v3 :: v4 :: v5 :: v6 :: v7 :: some rv :: some kv :: b10 :: b11 :: b12 :: b13 :: vr, led, z⟩ Q := by
  obtain ⟨s, Ks, hs, ⟨vsR, hR, hRA⟩, hK, vsK, hKv, hKl, hKA⟩ := hP
  obtain ⟨vs, hl, hA⟩ := hB
  have hbl := ok.len
  have hRl : vsR.length = bs.length + 1 := by rw [hRA.1, hK.len]
  unfold ir7a
  repeat walk_at "w"
  refine L_lenG hR (by omega) fun U => ?_
  repeat walk_at "w"
  refine L_lenG hl (by rw [hA.1]; omega) fun U => ?_
  repeat walk_at "w"
  refine W_neI ?_
  have e : ((vsR.length : Int) != ((vs.length : Nat) : Int) + 1) = false := by rw [hRl, hA.1]; simp
  rw [e]
  repeat walk_at "w"
  refine s_forT ?_
  repeat walk_at "w"
  obtain ⟨lR, oR, rfl, eR, qR⟩ := id hR
  obtain ⟨lK, oK, rfl, eK, qK⟩ := id hKv
  refine L_slc (lo := some ((1 : Nat) : Int)) (hi := none) (.inl ⟨oR, eR, qR⟩) (by omega) (.int _ _) .none pick_from fun D U U => ?_
  repeat walk_at "w"
  refine W.frz [(D, IsLs (vsR.drop 1))] led (.refl _) fun g1 S1 hx => ?_
  refine L_zip2 (hx _ (.head _)) ⟨oK, S1 _ _ eK, qK⟩ fun U TI TO i1 i2 g2 S2 eT => ?_
  have S02 := S1.trans S2
  obtain ⟨oD, eD, qD⟩ := hx _ (.head _)
  refine ⟨[(U, IsZp TI TO), (TO, IsPr .none .none), (i2, IsLI lK 0), (i1, IsLI D 0)], led, _, _, _, .refl _, IterT_zip2 ⟨oD, S2 _ _ eD, qD⟩ ⟨oK, S02 _ _ eK, qK⟩ eT,
    fun k σ => Ex5 fun g' b10 b11 b12 b13 => σ = ⟨g', v0 :: some bv :: v2 :: v3 :: v4 :: v5 :: v6 :: v7 :: some (.ref lR) :: some (.ref lK) :: b10 :: b11 :: b12 :: b13 :: vr, led, none⟩ ∧ Sub g g', Frz.now fun g' S => ⟨g', _, _, _, _, rfl, S02.trans S⟩, ?_, ?_⟩
  · rintro k U U hk ⟨xv, yv, ex, ey, rfl⟩ S' ⟨g', b10, b11, b12, b13, rfl, S⟩
    refine ⟨rfl, ?_⟩
    show wpS c f ir7b ⟨g', v0 :: some bv :: v2 :: v3 :: v4 :: v5 :: v6 :: v7 :: some (.ref lR) :: some (.ref lK) :: some xv :: some yv :: b12 :: b13 :: vr, led, none⟩ _
    have hkn : k < bs.length := by
      have := (List.getElem?_eq_some_iff.mp ey).1
      omega
    rw [List.getElem?_drop, Nat.add_comm] at ex
    obtain ⟨L, eL, hrow⟩ := hRA.2 (k + 1) xv ex
    have eLg : Ks.getD (k + 1) [] = L := by rw [List.getD_eq_getElem?_getD, eL]; rfl
    obtain ⟨ds, hds, hdA⟩ := hKA k hkn
    have eyv : vsK.getD k .none = yv := by rw [List.getD_eq_getElem?_getD, ey]; rfl
    rw [eyv] at hds
    obtain ⟨h1, h2⟩ := fold_law hs ok.cnt hK hkn
    rw [eLg] at h1 h2
    have h5 := hK.lenJ ok.w (Nat.le_refl _) (j := k + 1) hkn
    rw [eLg] at h5
    refine w_rowB (hrow.sub S) (hds.sub S) (AllG.sub (R := DueG) (fun U U U U h S => h.sub S) hdA S) h1 h2 (by omega) fun g3 b12 b13 z S3 => ?_
    repeat walk_at "w"
    exact Frz.now fun g4 S4 => ⟨g4, _, _, _, _, rfl, S.trans (S3.trans S4)⟩
  · rintro _ S' ⟨g', b10, b11, b12, b13, rfl, S⟩
    repeat walk_at "w"
    exact q _ _ _ _ _ _ S
end
section
variable {c : Cx} {f : Fm} {g : Heap} {Q : Flow → St → Prop} {v0 b6 b7 b8 b9 b10 b11 b12 b13 : Option Value} {vr : List (Option Value)} {led : Ledger} {z : Option Nat} {bs : List (Blk Th)} {bv r2 r3 r4 r5 k6 k7 : Value}
theorem w_pairs (hB : BlksG g bv bs) (ok : BksOk bs) (h2 : PairG g bs r2 k6) (h3 : PairG g bs r3 k6) (h4 : PairG g bs r4 k7) (h5 : PairG g bs r5 k7) (q : ∀ g vs z, Q (.ret (.bool true)) ⟨g, vs, led, z⟩) :
    wpS c f ir7 ⟨g, v0 :: some bv :: some r2 :: some r3 :: some r4 :: some r5 :: some k6 :: some k7 :: b8 :: b9 :: b10 :: b11 :: b12 :: b13 :: vr, led, z⟩ Q := by
  unfold ir7
  repeat walk_at "w"
  refine s_forT ?_
  repeat walk_at "w"
  refine W_newTuple (by show (2 : Nat) ≤ _; decide) fun g1 T1 o1 S1 U e1 p1 => ?_
  repeat walk_at "w"
  refine W_newTuple (by show (2 : Nat) ≤ _; decide) fun g2 T2 o2 S2 U e2 p2 => ?_
  repeat walk_at "w"
  refine W_newTuple (by show (2 : Nat) ≤ _; decide) fun g3 T3 o3 S3 U e3 p3 => ?_
  repeat walk_at "w"
  refine W_newTuple (by show (2 : Nat) ≤ _; decide) fun g4 T4 o4 S4 U e4 p4 => ?_
  repeat walk_at "w"
  refine W_newList (by show (4 : Nat) ≤ _; decide) fun l U U => ?_
  repeat walk_at "w"
  have S34 := S3.trans S4
  have S24 := S2.trans S34
  have S14 := S1.trans S24
  have e1' := S24 _ _ e1
  have e2' := S34 _ _ e2
  have e3' := S4 _ _ e3
  have hC := choose2 (n := 4) (P := fun i T v => ([.ref T1, .ref T2, .ref T3, .ref T4] : List Value)[i]? = some (.ref T) ∧ (∃ o, g4.get? T = some o ∧ IsT v o) ∧ Ex2 fun x y => v = [x, y] ∧ PairG g bs x y) fun i hi => by
    match i, hi with
    | 0, _ => exact ⟨T1, _, rfl, ⟨o1, e1', p1⟩, _, _, rfl, h2⟩
    | 1, _ => exact ⟨T2, _, rfl, ⟨o2, e2', p2⟩, _, _, rfl, h3⟩
    | 2, _ => exact ⟨T3, _, rfl, ⟨o3, e3', p3⟩, _, _, rfl, h4⟩
    | 3, _ => exact ⟨T4, _, rfl, ⟨o4, e4, p4⟩, _, _, rfl, h5⟩
  obtain ⟨Ts, vals, hTs⟩ := hC
  refine ⟨[(l, IsLs [.ref T1, .ref T2, .ref T3, .ref T4])], led, _, _, _, .refl _, IterT_tupsL Ts vals (fun i hi => ⟨(hTs i hi).1, (hTs i hi).2.1⟩),
    fun k σ => Ex7 fun g' b8 b9 b10 b11 b12 b13 => σ = ⟨g', v0 :: some bv :: some r2 :: some r3 :: some r4 :: some r5 :: some k6 :: some k7 :: b8 :: b9 :: b10 :: b11 :: b12 :: b13 :: vr, led, none⟩ ∧ Sub g g', Frz.now fun g' S => ⟨g', _, _, _, _, _, _, rfl, S14.trans S⟩, ?_, ?_⟩
  · rintro k U U hk rfl S' ⟨g', b8, b9, b10, b11, b12, b13, (rfl), S⟩
    obtain ⟨U, U, x, y, e, hP⟩ := hTs k hk
    rw [e]
    refine ⟨rfl, ?_⟩
    show wpS c f ir7a ⟨g', v0 :: some bv :: some r2 :: some r3 :: some r4 :: some r5 :: some k6 :: some k7 :: some x :: some y :: b10 :: b11 :: b12 :: b13 :: vr, led, none⟩ _
    refine w_pairB (hB.sub S) ok (hP.sub S) fun g3 b10 b11 b12 b13 z S3 => ?_
    repeat walk_at "w"
    exact Frz.now fun g4 S4 => ⟨g4, _, _, _, _, _, _, rfl, S.trans (S3.trans S4)⟩
  · rintro _ S' ⟨g', b8, b9, b10, b11, b12, b13, (rfl), S⟩
    repeat walk_at "w"
    exact q _ _ _
theorem w_st6 (hd : c.d ≤ 370) (hu : c.u ≤ 700) (hB : BlksG g bv bs) (ok : BksOk bs) (h2 : FoldJ 1 bs bs.length r2 g) (h3 : FoldJ 1 bs bs.length r3 g) (h4 : FoldJ (-1) bs bs.length r4 g) (h5 : FoldJ (-1) bs bs.length r5 g) (q : ∀ g vs z, Q (.ret (.bool true)) ⟨g, vs, led, z⟩) :
    wpS c f ir6 ⟨g, v0 :: some bv :: some r2 :: some r3 :: some r4 :: some r5 :: b6 :: b7 :: b8 :: b9 :: b10 :: b11 :: b12 :: b13 :: vr, led, z⟩ Q := by
  unfold ir6
  repeat walk_at "w"
  refine ⟨(fs_115 _).plain, ?_⟩
  repeat walk_at "w"
  refine W_fn [] led _ (.refl _) (c_kept hd hu ok.len ok.row (by decide) hB) ?_
  rintro k6 g1 m1 z1 S1 - ⟨hk6, rfl⟩
  repeat walk_at "w"
  refine ⟨(fs_115 _).plain, ?_⟩
  repeat walk_at "w"
  refine W_fn [] led _ (.refl _) (c_kept hd hu ok.len ok.row (by decide) (hB.sub S1)) ?_
  rintro k7 g2 m2 z2 S2 - ⟨hk7, rfl⟩
  repeat walk_at "w"
  refine W_newTuple (by show (2 : Nat) ≤ _; decide) fun g3 T o S3 U eT pT => ?_
  have S13 := S2.trans S3
  have S03 := S1.trans S13
  have mkP : ∀ {s : Int} {rv kv : Value}, (s = 1 ∨ s = -1) → FoldJ s bs bs.length rv g3 → KeptG g3 kv bs.length (keptAt (lt2 s) (bAt bs)) → PairG g3 bs rv kv := fun hs ⟨Ks, a, b⟩ k => ⟨_, Ks, hs, a, b, k⟩
  refine ⟨T, _, _, o, rfl, eT, pT, ?_⟩
  repeat walk_at "w"
  exact w_pairs (hB.sub S03) ok (mkP (.inl rfl) (h2.sub _ _ _ _ S03) (hk6.sub S13)) (mkP (.inl rfl) (h3.sub _ _ _ _ S03) (hk6.sub S13)) (mkP (.inr rfl) (h4.sub _ _ _ _ S03) (hk7.sub S3)) (mkP (.inr rfl) (h5.sub _ _ _ _ S03) (hk7.sub S3)) q
end
theorem nObj_sum : ∀ l : List Int, l.length ≤ (l.map nObj).sum ∧ (l.map nObj).sum ≤ 2 * l.length
  | [] => ⟨Nat.le_refl _, Nat.le_refl _⟩
  | x :: l => by
    have := nObj_sum l
    have h : 1 ≤ nObj x ∧ nObj x ≤ 2 := by unfold nObj; split <;> decide
    simp only [List.map_cons, List.sum_cons, List.length_cons]
    omega
theorem nums_sum (ns : List Int) : 11 ≤ ((numsOf ns).map nObj).sum ∧ ((numsOf ns).map nObj).sum ≤ 23 := by
  have h := nObj_sum ((ns.take 6).map (·.fmod 90))
  have hl : ((ns.take 6).map (·.fmod 90)).length ≤ 6 := by rw [List.length_map, List.length_take]; omega
  have e1 : (([22, 8, 10, 4] : List Int).map nObj).sum = 4 := by decide
  have e2 : (([12, 5, 16, 9, 7] : List Int).map nObj).sum = 7 := by decide
  unfold numsOf
  rw [List.map_append, List.map_append, List.sum_append, List.sum_append, e1, e2]
  omega
theorem nums_len (ns : List Int) : (numsOf ns).length ≤ 20 := by
  unfold numsOf
  simp only [List.length_append, List.length_map, List.length_take]
  show 4 + _ + 5 ≤ 20
  omega
section
variable {c : Cx} {f : Fm} {g : Heap} {k : KA} {bs : List (Blk Th)} {bv : Value} {v0 b2 b3 b4 b5 b6 b7 b8 b9 b10 b11 b12 b13 : Option Value} {vr : List (Option Value)} {L : Nat} {c1 : Addr} {z : Option Nat}
theorem w_rest (O : Ok c f ⟨(KT c.w 120).names, GT, false⟩ (lEnv c.w L)) (hd : c.d ≤ 310) (hu : c.u ≤ 50) (kf : c.kf = true) (hc : g.IsCell (L + 1) (some (.ref k.cls))) (KK : KC c g k) (hB : BlksG g bv bs) (ok : BksOk bs) :
    W c f (execs (laSt c.w 2 :: laSt c.w 3 :: laSt c.w 4 :: laSt c.w 5 :: (lawL c.w).drop 6) (lEnv c.w L)) ⟨g, v0 :: some bv :: b2 :: b3 :: b4 :: b5 :: b6 :: b7 :: b8 :: b9 :: b10 :: b11 :: b12 :: b13 :: vr, tabL [((lamJ c.w 1).p, c1)], z⟩ fun fl σ' => fl = .ret (.bool true) ∧ ∃ tb, σ'.led = tabL tb := by
  have hdd : ∀ F F', ((c.deep F).deep F').d ≤ 319 := fun F F' => by show c.d + 1 + 1 ≤ 319; omega
  have huu : ∀ F F', ((c.deep F).deep F').u ≤ 97 := fun F F' => by show c.u + 3 + 3 ≤ 97; omega
  refine W_Seq (w_foldL (lx2 c.w) (lj2 c.w) O (pn2 c.w _) (by omega) (fun F F' => sel76L (hdd F F') (huu F F')) (fs_76 _).plain hc KK hB ok fun g2 r2 c2 z2 S2 h2 => ?_)
  have hc2 : g2.IsCell (L + 1) (some (.ref k.cls)) := let ⟨o, e, x⟩ := hc; ⟨o, S2 _ _ e, x⟩
  refine W_Seq (w_foldX (lx3 c.w) (lj3 c.w) O (pn3 c.w _ _) (by omega) (fun F F' => sel76X (c := (c.deep F).deep F') kf (hdd F F') (huu F F')) (fs_76 _).plain hc2 (KK.sub S2) (hB.sub S2) ok fun g3 r3 c3 z3 S3 h3 => ?_)
  have S23 := S2.trans S3
  have hc3 : g3.IsCell (L + 1) (some (.ref k.cls)) := let ⟨o, e, x⟩ := hc2; ⟨o, S3 _ _ e, x⟩
  refine W_Seq (w_foldL (lx4 c.w) (lj4 c.w) O (pn4 c.w _ _ _) (by omega) (fun F F' => sel82L (hdd F F') (huu F F')) (fs_82 _).plain hc3 (KK.sub S23) (hB.sub S23) ok fun g4 r4 c4 z4 S4 h4 => ?_)
  have S24 := S23.trans S4
  have hc4 : g4.IsCell (L + 1) (some (.ref k.cls)) := let ⟨o, e, x⟩ := hc3; ⟨o, S4 _ _ e, x⟩
  refine W_Seq (w_foldX (lx5 c.w) (lj5 c.w) O (pn5 c.w _ _ _ _) (by omega) (fun F F' => sel82X (c := (c.deep F).deep F') kf (hdd F F') (huu F F')) (fs_82 _).plain hc4 (KK.sub S24) (hB.sub S24) ok fun g5 r5 c5 z5 S5 h5 => ?_)
  exact (sndS O 40 _).s _ _ _ (ck_6 c.w) (w_st6 (by omega) (by omega) (hB.sub (S24.trans S5)) ok (h2.sub _ _ _ _ (S3.trans (S4.trans S5))) (h3.sub _ _ _ _ (S4.trans S5)) (h4.sub _ _ _ _ S5) h5 fun g vs z => ⟨rfl, _, rfl⟩)
end
theorem c_law {c : Cx} {A : Around} {h : Heap} {tk : Nat} {g : Heap} {l : Addr} {vals : List Value} {ns : List Int} {R : Result → Shared → Prop} (hR : ∀ e, e ≤ 12 → RunC (166 + e)) (r : Rk c A) (H : Hp c.w c.fs [] [] g [(84, tabP #[]), (117, tabP #[])] (some 122) h) (hg : c.s.gens = #[])
    (hd : c.d ≤ 305) (hu : c.u ≤ 40) (kf : c.kf = true) (hl : ∃ o, g.get? l = some o ∧ IsLs vals o) (hI : Ints vals ns) (hz : vals.length ≤ 63) (hfs : c.fs = []) (k : ∀ h' tk', (∀ b o, h.get? b = some o → b ≠ 84 → b ≠ 117 → h'.get? b = some o) → (∃ ps, h'.get? 84 = some (tabObj ps)) → (∃ ps, h'.get? 117 = some (tabObj ps)) → R (.ok (.ret (.bool true))) (mk c.s h' tk')) :
    codeAny (model c.prog c.w) A (.call (.ref 120) ⟨[.ref l], []⟩) R (mk c.s h tk) := by
  have fs := fs_120 c.w
  refine fn_enterS (fd := FD c.w 120) (l := _) (g := g) (vals := [.ref l]) (names := (KT c.w 120).names) (binds := [(("script" : Str), .ref l)]) (is := [0]) (fvs := (KT c.w 120).names.map fun U => none) r H (fs.g H.gr) (by have : recursionLimit = 1000 := rfl; omega) fs.nm fs.nd (.inl ⟨fs.fr, fs.clo⟩) (fun i x e => absurd rfl (noK_ fs.fr _ (List.mem_of_getElem? e))) (fun i x k e U => by rw [List.getElem?_map, e]; rfl) (by simp)
    (body120 c.w) (@bt_of c.w g (FD c.w 120) [.ref l] [(("script" : Str), .ref l)] (ba120 c.w (.ref l))) (bc120 c.w (.ref l)) fun f env h₀ tk₀ A' E' eo at0 mv hnew hL' henv r' => ?_
  obtain ⟨vr, hvs⟩ := vs120 c.w (.ref l)
  rw [sz120, hvs] at at0
  rw [H.sz 122 rfl, env120] at henv
  subst henv
  have O : Ok (c.deep f.F) f (KT c.w 120) (lEnv c.w 122) := ⟨eo, GTok _⟩
  obtain ⟨p0, hp0, U, hc0⟩ := eo.at_ 14 sKey .cell (nm120 _)
  obtain ⟨ce, (rfl), hce⟩ := hc0 (.inl rfl)
  have hce1 : ce = 123 := (Option.some.inj hce).symm
  subst hce1
  have hsum := nums_sum ns
  have hnl := nums_len ns
  refine wpAny_execs_cons (W_pair (Q := fun fl σ' => fl = .next ∧ Ex2 fun g' bv => Sub g g' ∧ (∃ bs, BlksG g' bv bs ∧ bs.map shp = (BS.of (numsOf ns)).all) ∧ σ' = ⟨g', some (.ref l) :: some bv :: none :: none :: none :: none :: none :: none :: none :: none :: none :: none :: none :: none :: none :: vr, [(84, tabP #[]), (117, tabP #[])], some (124 + 22 + ((numsOf ns).map nObj).sum)⟩)
    ((sndS O 40 _).i _ _ _ (ck_st0 c.w) (w_st0 (c := c.deep f.F) (by show c.d + 1 ≤ 370; omega) (by show c.u + 3 ≤ 700; omega) hl hI hz fun g' bv S hb => ⟨rfl, g', bv, S, hb, rfl⟩)) r' at0 fun fl σ1 h1 tk1 a1 m1 q1 => ?_)
  obtain ⟨(rfl), g1, bv, S1, ⟨bs, hB, hbs⟩, (rfl)⟩ := q1
  have hRn : RunC (124 + 22 + ((numsOf ns).map nObj).sum + 7 + 2) := by
    have := hR (((numsOf ns).map nObj).sum - 11) (by omega)
    rw [show 166 + (((numsOf ns).map nObj).sum - 11) = 124 + 22 + ((numsOf ns).map nObj).sum + 7 + 2 from by omega] at this
    exact this
  refine wpAny_execs_cons (W_pair (w_st1 (c := c.deep f.F) O hRn hg (by show c.d + 1 ≤ 900; omega)) r' a1 fun fl σ2 h2 tk2 a2 m2 q2 => ?_)
  obtain ⟨(rfl), g2, k2, ps, z, c1, (rfl), hk⟩ := q2
  obtain ⟨a3, hcell, S3⟩ := a2.cellG eo.ownL eo.ndA hp0
  have S12 : Sub g1 g2 := m2.gg
  have O3 : Ok (c.deep f.F) f.ro ⟨(KT c.w 120).names, GT, false⟩ (lEnv c.w 122) := ⟨eo.ro, GTok _⟩
  have hcell : (more g2 h2 [123]).IsCell 123 (some (.ref k2.cls)) := hcell
  refine W_pair (Q := fun fl σ' => fl = .ret (.bool true) ∧ (∃ tb, σ'.led = tabL tb) ∧ ∃ o, σ'.g.get? 84 = some o ∧ tabP ps o) (c := c.deep f.F) (f := f.ro) (W.frz (c := c.deep f.F) (f := f.ro) (σ := ⟨more g2 h2 [123], _, [(84, tabP ps), (117, tabP (ptab [((lamJ c.w 1).p, c1)]).toArray)], none⟩) [(84, tabP ps)] (tabL [((lamJ c.w 1).p, c1)]) (.refl _) fun g4 S4 hx => ?_) r' a3 fun fl σ5 h5 tk5 a5 m5 q5 => ?_
  · obtain ⟨oc, ec, hcd⟩ := hcell
    obtain ⟨ot, et, ht⟩ := hx _ (.head _)
    exact (w_rest (c := c.deep f.F) (f := f.ro) (k := k2) (bv := bv) (v0 := some (.ref l)) (b2 := none) (b3 := none) (b4 := none) (b5 := none) (b6 := none) (b7 := none) (b8 := none) (b9 := none) (b10 := none) (b11 := none) (b12 := none) (b13 := none) (vr := some (.ref k2.cls) :: vr) O3 (by show c.d + 1 ≤ 310; omega) (by show c.u + 3 ≤ 50; omega) kf ⟨oc, S4 _ _ ec, hcd⟩ ⟨hg, (hk.sub S3).sub S4⟩ (hB.sub (S12.trans (S3.trans S4))) (bks_of hnl hbs)).mono
      fun fl σ' S5 q => ⟨q.1, q.2, ot, S5 _ _ et, ht⟩
  · obtain ⟨(rfl), ⟨tb, hled⟩, o84, e84, h84⟩ := q5
    subst h84
    have h117 : ∃ o, h5.get? 117 = some o ∧ tabP (ptab tb).toArray o := a5.hp.ld (117, tabP (ptab tb).toArray) (by rw [hled]; exact .head _)
    obtain ⟨o117, e117, h117⟩ := h117
    subst h117
    refine k h5 tk5 (fun b o e n1 n2 => ?_) ⟨_, a5.hp.sub _ _ e84⟩ ⟨_, e117⟩
    have no : b ∉ f.own := fun w => by rw [hnew b w] at e; cases e
    have nF : b ∉ (c.deep f.F).fs := fun w => by
      rcases List.mem_cons.mp (show b ∈ f.F :: c.fs from w) with w | w
      · rw [w, hL'.2, hnew _ eo.ownL] at e; cases e
      · rw [hfs] at w; cases w
    have nl : ∀ {P P' : Obj → Prop}, b ∉ adr [(84, P), (117, P')] := fun w => by
      rcases List.mem_cons.mp w with w | w
      · exact n1 w
      · exact n2 (List.mem_singleton.mp w)
    have e0 := mv.ext b o e no nl nF
    have e1 := m1.ext b o e0 no nl nF
    have e2 := m2.ext b o e1 no nl nF
    exact m5.ext b o e2 (fun w => no (by rw [List.mem_singleton.mp w]; exact eo.ownL)) nl nF
end
section
open _root_.PySem _root_.PySem.W _root_.PySem.W.X _root_.PySem.Calls PyProof.Rows
set_option maxRecDepth 100000
theorem runCs : ∀ e, e ≤ 12 → RunC (166 + e)
  | 0, _ => fun prog w h d u R dr t os A hd c => by kernel_rfl
  | 1, _ => fun prog w h d u R dr t os A hd c => by kernel_rfl
  | 2, _ => fun prog w h d u R dr t os A hd c => by kernel_rfl
  | 3, _ => fun prog w h d u R dr t os A hd c => by kernel_rfl
  | 4, _ => fun prog w h d u R dr t os A hd c => by kernel_rfl
  | 5, _ => fun prog w h d u R dr t os A hd c => by kernel_rfl
  | 6, _ => fun prog w h d u R dr t os A hd c => by kernel_rfl
  | 7, _ => fun prog w h d u R dr t os A hd c => by kernel_rfl
  | 8, _ => fun prog w h d u R dr t os A hd c => by kernel_rfl
  | 9, _ => fun prog w h d u R dr t os A hd c => by kernel_rfl
  | 10, _ => fun prog w h d u R dr t os A hd c => by kernel_rfl
  | 11, _ => fun prog w h d u R dr t os A hd c => by kernel_rfl
  | 12, _ => fun prog w h d u R dr t os A hd c => by kernel_rfl
  | e + 13, h => absurd h (by omega)
theorem allIn_get {h : Heap} : ∀ {K : Frag}, AllIn h K → ∀ p ∈ K, h.get? p.1 = some p.2
  | [], _, _, m => nomatch m
  | q :: K, ⟨a, b⟩, p, m => by
    rcases List.mem_cons.mp m with rfl | m
    · exact a
    · exact allIn_get b p m
theorem lookup_in {l : Frag} {a : Addr} {o : Obj} (e : l.lookup a = some o) : (a, o) ∈ l := by
  induction l with
  | nil => cases e
  | cons p r ih =>
    obtain ⟨b, q⟩ := p
    simp only [List.lookup] at e
    split at e
    · rename_i hq; cases e; rw [beq_iff_eq.mp hq]; exact .head _
    · exact .tail _ (ih e)
theorem Ints.of : ∀ {vs : List Value} {ns : List Int}, IntsAre vs ns → Ints vs ns
  | _, _, .nil => trivial
  | _, _, .cons n t r => ⟨⟨t, rfl⟩, Ints.of r⟩
noncomputable abbrev lawN : Str := ⟨⟨[108, 97, 119]⟩⟩
theorem glob_law (w : World) : lkIn (obAt w 3) lawN = some (.ref 120) := by kernel_rfl
theorem kk84 (w : World) : (KK w).lookup 84 = some (tabObj #[]) := by kernel_rfl
theorem kk117 (w : World) : (KK w).lookup 117 = some (tabObj #[]) := by kernel_rfl
theorem hd119 (w : World) : hdOk (obAt w 119) 117 = true := by kernel_rfl
noncomputable def base (h : Heap) : Heap := only h fun b => !(Nat.beq b 84 || Nat.beq b 117)
theorem base_get {h : Heap} {b : Addr} {o : Obj} (e : h.get? b = some o) (h1 : b ≠ 84) (h2 : b ≠ 117) : (base h).get? b = some o := by
  refine only_get e ?_
  have e1 : Nat.beq b 84 = false := by cases z : Nat.beq b 84; rfl; exact absurd (Nat.eq_of_beq_eq_true z) h1
  have e2 : Nat.beq b 117 = false := by cases z : Nat.beq b 117; rfl; exact absurd (Nat.eq_of_beq_eq_true z) h2
  rw [e1, e2]; rfl
theorem base_no {h : Heap} {b : Addr} (hb : b = 84 ∨ b = 117) : (base h).get? b = none := by
  cases q : (base h).get? b with
  | none => rfl
  | some o =>
    have := only_p q
    rcases hb with rfl | rfl <;> cases this
theorem run_law {prog : Program} {w : World} {s₀ s₁ : Shared} {mg : Str → Option Value} {fa l : Addr} {vals : List Value} {ns : List Int} {E : Value → Shared → Prop} (hA : AllIn s₀.heap (KK w)) (hs0 : s₀.heap.objs.size = 121) (hk : Sub s₀.heap s₁.heap) (hs1 : s₁.heap.objs.size = s₀.heap.objs.size + 1) (hg : s₁.gens = #[])
    (hkg : s₁.heap.Ns mainGlobals mg) (hmg : mg lawN = some (.ref fa)) (ho : s₁.heap.get? l = some { cls := .type "list", data := .seq vals.toArray }) (hl : l = s₀.heap.objs.size) (hI : IntsAre vals ns) (hz : ns.length ≤ 63) :
    wpAny (model prog w) callerA (call (.ref fa) [.ref l]) (fun v s' => v = .bool true ∧ OldK s₁.heap s'.heap ∧ s'.os = s₁.os ∧ AllBare s'.gens) E s₁ := by
  have hin : ∀ a o, (KK w).lookup a = some o → s₁.heap.get? a = some o := fun a o e => hk _ _ (allIn_get hA _ (lookup_in e))
  have hgr : Gr w s₁.heap := fun a o e _ => hin a o e
  have e84 := hin 84 _ (kk84 w)
  have e117 := hin 117 _ (kk117 w)
  have hm : mg = lkIn (obAt w 3) := by rw [hkg.eq_nsMap, hgr.glob.eq_nsMap]
  have hfa : fa = 120 := by
    rw [hm, glob_law] at hmg
    cases hmg; rfl
  subst hfa
  have hne : l ≠ 84 ∧ l ≠ 117 := by rw [hl, hs0]; decide
  let c : Cx := ⟨prog, w, s₁, 301, 4, [], true⟩
  have hG : Gr w (base s₁.heap) := fun a o e n => by
    rw [Bool.or_eq_false_iff] at n
    exact base_get (hin a o e) (fun z => by rw [z] at n; exact absurd n.1 (by decide)) (fun z => by rw [z] at n; exact absurd n.2 (by decide))
  have H : Hp c.w c.fs [] [] (base s₁.heap) [(84, tabP #[]), (117, tabP #[])] (some 122) s₁.heap := by
    refine ⟨hG, only_sub, fun p hp => ?_, (fun _ q => nomatch q), (fun _ q => nomatch q), fun b hb => ?_, ?_, (fun _ q => nomatch q), (fun _ q => nomatch q), (fun _ q => nomatch q), fun n e => ?_⟩
    · rcases List.mem_cons.mp hp with rfl | hp
      · exact ⟨_, e84, rfl⟩
      · rw [List.mem_singleton.mp hp]; exact ⟨_, e117, rfl⟩
    · refine base_no ?_
      rcases List.mem_cons.mp hb with hb | hb
      · exact .inl hb
      · exact .inr (List.mem_singleton.mp hb)
    · show [84, 117].Nodup; decide
    · cases e; rw [hs1, hs0]
  have r : Rk c callerA := ⟨rfl, Nat.le_refl 301, Nat.le_refl 4, fun _ => ⟨[], rfl, rfl, fun _ h => nomatch h⟩⟩
  refine wpAny_call (c_law (c := c) (tk := s₁.toks) (ns := ns) runCs r H hg (show 301 ≤ 305 by decide) (show 4 ≤ 40 by decide) rfl ⟨_, base_get ho hne.1 hne.2, rfl, rfl, _, rfl⟩ (Ints.of hI) ?_ rfl fun h' tk' keep k84 k117 => ⟨rfl, ⟨fun b o e => ?_, fun b o e => ?_⟩, rfl, ?_⟩)
  · rw [(Ints.of hI).length]; exact hz
  · by_cases h1 : b = 84
    · subst h1
      cases e84.symm.trans e
      obtain ⟨ps, e'⟩ := k84
      exact .inr (.inl ⟨((hdOk_ (hgr.ob (a := 88) (by kernel_rfl) (by decide)) (hd88 w) (by decide)).tab e84).isCodeTable, rfl, #[], ps, rfl, by rw [e']; simp⟩)
    · by_cases h2 : b = 117
      · subst h2
        cases e117.symm.trans e
        obtain ⟨ps, e'⟩ := k117
        exact .inr (.inl ⟨((hdOk_ (hgr.ob (a := 119) (by kernel_rfl) (by decide)) (hd119 w) (by decide)).tab e117).isCodeTable, rfl, #[], ps, rfl, by rw [e']; simp⟩)
      · exact .inl (keep b o e h1 h2)
  · by_cases h1 : b = 84
    · obtain ⟨ps, e'⟩ := k84; exact ⟨_, by rw [h1]; exact e'⟩
    · by_cases h2 : b = 117
      · obtain ⟨ps, e'⟩ := k117; exact ⟨_, by rw [h2]; exact e'⟩
      · exact ⟨o, keep b o e h1 h2⟩
  · exact AllBare.of_eq hg
end
section
open _root_.PySem _root_.PySem.W _root_.PySem.W.X PyProof.Rows
set_option maxHeartbeats 0
set_option maxRecDepth 100000
theorem and_fst {a b c : Prop} (h : a ∧ b → c) (l : a) : b → c := fun r => h ⟨l, r⟩
theorem top : type_of% (and_fst hd ?l) := by
  refine and_fst hd fun w => ?_
  kernel_rfl
theorem h121 : ∀ P : Params, [0, 1, 2, 3, 4, 5, 6, 7, 8, 9, 10, 11, 12, 13, 14, 15, 16, 17, 18, 19, 20, 21, 22, 23, 24, 25, 26, 27, 28, 29, 30, 31, 32, 33, 34, 35, 36, 37, 38, 39, 40, 41, 42, 43, 44, 45, 46, 47, 48, 49, 50, 51, 52, 53, 54, 55, 56, 57, 58, 59, 60, 61, 62, 63, 64, 65, 66, 67, 68, 69, 70, 71, 72, 73, 74, 75, 76, 77, 78, 79, 80, 81, 82, 83, 84, 85, 86, 87, 88, 89, 90, 91, 92, 93, 94, 95, 96, 97, 98, 99, 100, 101, 102, 103, 104, 105, 106, 107, 108, 109, 110, 111, 112, 113, 114, 115, 116, 117, 118, 119, 120] = (hd.heap_121 P).map (·.1) := fun _ => by rfl
theorem tt : PySem.Challenge.rw_mg0049_01.Holds := by
  refine Mine.top ?_
  k_fill
  intro w s₀ s₁ mg mb G y fa o pm cd doc dV kV ho hd hcd hD hmg hg args vals as L hpre hlay hrd hwl hlo
  refine Ground.open G ?_
  intro T B D TE TW
  have hkg := T.g
  wrow_args hpre hlay hrd hwl hlo
  obtain ⟨hat, hsz⟩ := script_at L
  obtain ⟨hA, _, hs0, _⟩ := z_facts Mine.h121 y
  rename_i hIs _ _
  have hob := script_obj L (by assumption)
  have hzz : ∀ {ns : List Int}, ¬ ((63 : Nat) : Int) < (ns.length : Int) → ns.length ≤ 63 := fun h => by omega
  refine wpAny_mono (Mine.run_law hA hs0 L.keeps hsz hg hkg hmg hob hat (by assumption) (hzz (by assumption))) (fun v s' hv => ?_) fun _ _ e => e
  obtain ⟨rfl, hK, hos, hb⟩ := hv
  refine ⟨.inl ⟨_, .bool true, [], rfl, fun _ => rfl, .bool true, ?_, fun _ => ⟨List.nodup_nil, fun _ h => nomatch h⟩⟩, hK, hos, hb⟩
  wrow_post

end
end Mine
theorem PySem.Challenge.cw_mg0049_01_holds : PySem.Challenge.rw_mg0049_01.Holds :=
  Mine.tt
