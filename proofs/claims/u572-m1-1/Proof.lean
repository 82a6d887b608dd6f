import JvmDerived
import JvmDerived.Pilot.@@N@@Statement
import JvmDerived.Pilot.@@N@@Code
set_option linter.unusedVariables false
set_option linter.unusedSimpArgs false
@@BLOCK:NumsL.lean.txt@@
namespace Jvm.RoadKit
open Sem ClassFile Op Lib Jvm.Stand Jvm.Free Jvm.LawKit
section New
variable {p : Program} {l : Launch} {e : Env} {R : Room} {s : State} {m : MethodId} {args : Array Value} {below : List Frame} {meth : Method} {c : Code} {T : State} {locs : List Loc} {cells slots : Nat}
theorem retI (X : Stand p l e R s m args below meth c T locs cells slots) (hx : p.tables.exec = Jvm.exec) {pc : Nat} {Ls : Array Slot} {z : Int32} {rest : List Value} (hret : meth.sig.returnType = some .int) (hd : decode c.code pc = .ok (.ireturn, 1)) {fs : List Frame}
    (hl : ∀ (f : JFrame) (acts : List Action), f.method = m → f.locked = none → f.entered = [] → (doReturn e (T.setTop f) acts (some (.int z))).1 = T.setFrames fs) : Steps p.tables e below (T.setTop (mkF m pc Ls (.int z :: rest))) (T.setFrames fs) := by
  have hm' : T.vm.method? m = some meth := X.method'
  have hn : narrow .int (.int z) = .int z := rfl
  show Steps p.tables e below (T.setTop { method := m, pc := pc, locals := Ls, stack := _ :: rest, locked := none }) _
  jvm_step X.here [X.here.top, hx, hd, hm', hret, hn]
  first | (intro acts; rw [hl _ acts rfl rfl rfl]) | rw [hl _ _ rfl rfl rfl]
  exact Steps.refl _
end New
end Jvm.RoadKit
namespace Jvm.Pilot.@@N@@
open Jvm Jvm.ClassFile Sem Op Lib Jvm.Free Jvm.Stand Jvm.LawKit Jvm.RoadKit Bundle Jvm.Pilot.@@N@@.Jvm.D
section Own
variable {args : Array Value} {first s : State} {o : Option Outcome} {idx : List Nat} {t u : Term} {n : Int32} {b : Addr}
theorem own_eqI (h : (Jvm.Cond.eq t (.int n)).value args first o s idx = some true) : t.eval args first o idx s = some (.int n) := by
  simp only [Cond.value, Term.eval] at h
  cases ht : t.eval args first o idx s with
  | none => simp [ht] at h
  | some x => cases x <;> simp [ht] at h ⊢; exact h
theorem own_eqR (h : (Jvm.Cond.eq t u).value args first o s idx = some true) (hu : u.eval args first o idx s = some (.ref b)) : t.eval args first o idx s = some (.ref b) := by
  simp only [Cond.value, hu] at h
  cases ht : t.eval args first o idx s with
  | none => simp [ht] at h
  | some x => cases x <;> simp [ht] at h ⊢; exact h
theorem own_len {Z : State} {args : Array Value} {t : Term} {z : Int32} {a : Addr} {ty : FieldType} (ev : t.eval args Z none [] Z = some (.ref a)) (hA : (Jvm.Cond.arrayOf t ty).value args Z none Z [] = some true) (hl : (Jvm.Cond.eq (.length t) (.int z)).value args Z none Z [] = some true) :
    ∃ c : Cell, Arr Z Z.heap a c ty ∧ c.slots.size.toInt32 = z ∧ c.slots.size < 2 ^ 31 := by
  obtain ⟨c, A⟩ := Arr.start ev hA
  have e := own_eqI hl
  have ha : Z.arrayAt? a = some c := A.fin (Vm.Alike.refl _)
  by_cases q : c.slots.size < 2 ^ 31
  · rw [len_f ev ha q] at e
    exact ⟨c, A, by injection e with e; injection e, q⟩
  · simp [Term.eval, ev, ha, q] at e
end Own
def QS (V : Value) (h0 : Heap) (n0 : Nat) (v : Option Value) (h : Heap) (L : List Loc) : Prop := v = some V ∧ Fr n0 L ∧ h = h0
def QE (V : Value) (h0 : Heap) (n0 : Nat) (v : Option Value) (h : Heap) (L : List Loc) : Prop := v = some V ∧ Fr n0 L ∧ Ext h0 h
def QL (n0 : Nat) (v : Option Value) (h : Heap) (L : List Loc) : Prop := v = some (.int (1 : Int32)) ∧ Fr n0 L
def Facts (Z : State) (ad : Nat → Addr) : Prop :=
  (Exa Z Z.heap (ad 0) "com/example/pivotlex/pivotlex/terminology/IssueCode") ∧
  (Exa Z Z.heap (ad 1) "com/example/pivotlex/pivotlex/terminology/IssueCode") ∧
  (Exa Z Z.heap (ad 2) "com/example/pivotlex/pivotlex/terminology/IssueCode") ∧
  (Exa Z Z.heap (ad 3) "com/example/pivotlex/pivotlex/terminology/IssueCode") ∧
  (Exa Z Z.heap (ad 4) "com/example/pivotlex/pivotlex/terminology/IssueCode") ∧
  (Exa Z Z.heap (ad 5) "com/example/pivotlex/pivotlex/terminology/IssueCode") ∧
  (Exa Z Z.heap (ad 6) "com/example/pivotlex/pivotlex/terminology/IssueCode") ∧
  (Exa Z Z.heap (ad 7) "com/example/pivotlex/pivotlex/terminology/IssueCode") ∧
  (Exa Z Z.heap (ad 8) "com/example/pivotlex/pivotlex/terminology/IssueCode") ∧
  (Exa Z Z.heap (ad 9) "com/example/pivotlex/pivotlex/terminology/IssueCode") ∧
  (Exa Z Z.heap (ad 10) "com/example/pivotlex/pivotlex/terminology/IssueCode") ∧
  (Exa Z Z.heap (ad 11) "com/example/pivotlex/pivotlex/terminology/IssueCode") ∧
  (Exa Z Z.heap (ad 12) "com/example/pivotlex/pivotlex/terminology/IssueCode") ∧
  (Exa Z Z.heap (ad 13) "com/example/pivotlex/pivotlex/terminology/IssueCode") ∧
  (Exa Z Z.heap (ad 14) "com/example/pivotlex/pivotlex/terminology/IssueCode") ∧
  (Exa Z Z.heap (ad 15) "com/example/pivotlex/pivotlex/terminology/IssueCode") ∧
  (Exa Z Z.heap (ad 16) "com/example/pivotlex/pivotlex/terminology/IssueCode") ∧
  (Exa Z Z.heap (ad 17) "com/example/pivotlex/pivotlex/terminology/IssueCode") ∧
  (Exa Z Z.heap (ad 18) "com/example/pivotlex/pivotlex/terminology/IssueCode") ∧
  (Exa Z Z.heap (ad 19) "com/example/pivotlex/pivotlex/terminology/IssueCode") ∧
  (Exa Z Z.heap (ad 20) "com/example/pivotlex/pivotlex/terminology/IssueCode") ∧
  (Exa Z Z.heap (ad 21) "com/example/pivotlex/pivotlex/terminology/IssueCode") ∧
  (Exa Z Z.heap (ad 22) "com/example/pivotlex/pivotlex/terminology/IssueCode") ∧
  (Exa Z Z.heap (ad 23) "com/example/pivotlex/pivotlex/terminology/IssueCode") ∧
  (Exa Z Z.heap (ad 24) "com/example/pivotlex/pivotlex/terminology/IssueCode") ∧
  (Exa Z Z.heap (ad 25) "com/example/pivotlex/pivotlex/terminology/IssueCode") ∧
  (Exa Z Z.heap (ad 26) "com/example/pivotlex/pivotlex/terminology/IssueCode") ∧
  (Exa Z Z.heap (ad 27) "com/example/pivotlex/pivotlex/terminology/IssueCode") ∧
  (Exa Z Z.heap (ad 28) "com/example/pivotlex/pivotlex/terminology/IssueCode") ∧
  (Exa Z Z.heap (ad 29) "com/example/pivotlex/pivotlex/terminology/IssueCode") ∧
  (Sta Z Z.heap "com/example/pivotlex/pivotlex/terminology/IssueCode" "ERR_CODE_SYSTEM_NOT_FOUND" "Lcom/example/pivotlex/pivotlex/terminology/IssueCode;" (.ref (ad 0))) ∧
  (Sta Z Z.heap "com/example/pivotlex/pivotlex/terminology/IssueCode" "ERR_CODE_SYSTEM_VERSION_NOT_FOUND" "Lcom/example/pivotlex/pivotlex/terminology/IssueCode;" (.ref (ad 1))) ∧
  (Sta Z Z.heap "com/example/pivotlex/pivotlex/terminology/IssueCode" "ERR_CONCEPT_NOT_FOUND" "Lcom/example/pivotlex/pivotlex/terminology/IssueCode;" (.ref (ad 2))) ∧
  (Sta Z Z.heap "com/example/pivotlex/pivotlex/terminology/IssueCode" "ERR_DESIGNATION_NOT_FOUND" "Lcom/example/pivotlex/pivotlex/terminology/IssueCode;" (.ref (ad 3))) ∧
  (Sta Z Z.heap "com/example/pivotlex/pivotlex/terminology/IssueCode" "ERR_CODE_SYSTEM_NOT_INFERRED" "Lcom/example/pivotlex/pivotlex/terminology/IssueCode;" (.ref (ad 4))) ∧
  (Sta Z Z.heap "com/example/pivotlex/pivotlex/terminology/IssueCode" "ERR_DISPLAY_INVALID" "Lcom/example/pivotlex/pivotlex/terminology/IssueCode;" (.ref (ad 5))) ∧
  (Sta Z Z.heap "com/example/pivotlex/pivotlex/terminology/IssueCode" "ERR_NOT_IN_VALUE_SET" "Lcom/example/pivotlex/pivotlex/terminology/IssueCode;" (.ref (ad 6))) ∧
  (Sta Z Z.heap "com/example/pivotlex/pivotlex/terminology/IssueCode" "ERR_MAPPING_INVALID" "Lcom/example/pivotlex/pivotlex/terminology/IssueCode;" (.ref (ad 7))) ∧
  (Sta Z Z.heap "com/example/pivotlex/pivotlex/terminology/IssueCode" "ERR_MAPPING_AMBIGUOUS" "Lcom/example/pivotlex/pivotlex/terminology/IssueCode;" (.ref (ad 8))) ∧
  (Sta Z Z.heap "com/example/pivotlex/pivotlex/terminology/IssueCode" "ERR_TARGET_NOT_FOUND" "Lcom/example/pivotlex/pivotlex/terminology/IssueCode;" (.ref (ad 9))) ∧
  (Sta Z Z.heap "com/example/pivotlex/pivotlex/terminology/IssueCode" "ERR_CONCEPT_MAP_NOT_FOUND" "Lcom/example/pivotlex/pivotlex/terminology/IssueCode;" (.ref (ad 10))) ∧
  (Sta Z Z.heap "com/example/pivotlex/pivotlex/terminology/IssueCode" "ERR_CONCEPT_MAP_VERSION_NOT_FOUND" "Lcom/example/pivotlex/pivotlex/terminology/IssueCode;" (.ref (ad 11))) ∧
  (Sta Z Z.heap "com/example/pivotlex/pivotlex/terminology/IssueCode" "ERR_VALUE_SET_NOT_FOUND" "Lcom/example/pivotlex/pivotlex/terminology/IssueCode;" (.ref (ad 12))) ∧
  (Sta Z Z.heap "com/example/pivotlex/pivotlex/terminology/IssueCode" "ERR_VALUE_SET_VERSION_NOT_FOUND" "Lcom/example/pivotlex/pivotlex/terminology/IssueCode;" (.ref (ad 13))) ∧
  (Sta Z Z.heap "com/example/pivotlex/pivotlex/terminology/IssueCode" "ERR_VALUE_SET_INVALID" "Lcom/example/pivotlex/pivotlex/terminology/IssueCode;" (.ref (ad 14))) ∧
  (Sta Z Z.heap "com/example/pivotlex/pivotlex/terminology/IssueCode" "ERR_VALUE_SET_TOO_COSTLY" "Lcom/example/pivotlex/pivotlex/terminology/IssueCode;" (.ref (ad 15))) ∧
  (Sta Z Z.heap "com/example/pivotlex/pivotlex/terminology/IssueCode" "ERR_CODE_SYSTEM_VERSION_REFUSED" "Lcom/example/pivotlex/pivotlex/terminology/IssueCode;" (.ref (ad 16))) ∧
  (Sta Z Z.heap "com/example/pivotlex/pivotlex/terminology/IssueCode" "ERR_SUPPLEMENT_NOT_FOUND" "Lcom/example/pivotlex/pivotlex/terminology/IssueCode;" (.ref (ad 17))) ∧
  (Sta Z Z.heap "com/example/pivotlex/pivotlex/terminology/IssueCode" "ERR_DOCUMENT_TYPE_UNKNOWN" "Lcom/example/pivotlex/pivotlex/terminology/IssueCode;" (.ref (ad 18))) ∧
  (Sta Z Z.heap "com/example/pivotlex/pivotlex/terminology/IssueCode" "ERR_REQUIRED_ELEMENT_MISSING" "Lcom/example/pivotlex/pivotlex/terminology/IssueCode;" (.ref (ad 19))) ∧
  (Sta Z Z.heap "com/example/pivotlex/pivotlex/terminology/IssueCode" "ERR_REQUIRED_ELEMENT_NOT_TRANSFORMED" "Lcom/example/pivotlex/pivotlex/terminology/IssueCode;" (.ref (ad 20))) ∧
  (Sta Z Z.heap "com/example/pivotlex/pivotlex/terminology/IssueCode" "ERR_DOCUMENT_NOT_TRANSFORMED" "Lcom/example/pivotlex/pivotlex/terminology/IssueCode;" (.ref (ad 21))) ∧
  (Sta Z Z.heap "com/example/pivotlex/pivotlex/terminology/IssueCode" "WARN_CODE_SYSTEM_NAME_MISMATCH" "Lcom/example/pivotlex/pivotlex/terminology/IssueCode;" (.ref (ad 22))) ∧
  (Sta Z Z.heap "com/example/pivotlex/pivotlex/terminology/IssueCode" "WARN_VALUE_SET_MISMATCH" "Lcom/example/pivotlex/pivotlex/terminology/IssueCode;" (.ref (ad 23))) ∧
  (Sta Z Z.heap "com/example/pivotlex/pivotlex/terminology/IssueCode" "WARN_NO_PREFERRED_DESIGNATION" "Lcom/example/pivotlex/pivotlex/terminology/IssueCode;" (.ref (ad 24))) ∧
  (Sta Z Z.heap "com/example/pivotlex/pivotlex/terminology/IssueCode" "WARN_CONCEPT_NOT_CURRENT" "Lcom/example/pivotlex/pivotlex/terminology/IssueCode;" (.ref (ad 25))) ∧
  (Sta Z Z.heap "com/example/pivotlex/pivotlex/terminology/IssueCode" "WARN_ELEMENT_TYPE" "Lcom/example/pivotlex/pivotlex/terminology/IssueCode;" (.ref (ad 26))) ∧
  (Sta Z Z.heap "com/example/pivotlex/pivotlex/terminology/IssueCode" "WARN_NOT_TRANSCODED" "Lcom/example/pivotlex/pivotlex/terminology/IssueCode;" (.ref (ad 27))) ∧
  (Sta Z Z.heap "com/example/pivotlex/pivotlex/terminology/IssueCode" "WARN_NOT_TRANSLATED" "Lcom/example/pivotlex/pivotlex/terminology/IssueCode;" (.ref (ad 28))) ∧
  (Sta Z Z.heap "com/example/pivotlex/pivotlex/terminology/IssueCode" "WARN_NOT_IN_LIST" "Lcom/example/pivotlex/pivotlex/terminology/IssueCode;" (.ref (ad 29))) ∧
  (Fld Z Z.heap (ad 0) "java/lang/Enum" "ordinal" "I" (.int (0 : Int32))) ∧
  (Fld Z Z.heap (ad 12) "java/lang/Enum" "ordinal" "I" (.int (12 : Int32))) ∧
  (Fld Z Z.heap (ad 13) "java/lang/Enum" "ordinal" "I" (.int (13 : Int32))) ∧
  (Fld Z Z.heap (ad 14) "java/lang/Enum" "ordinal" "I" (.int (14 : Int32))) ∧
  (Fld Z Z.heap (ad 15) "java/lang/Enum" "ordinal" "I" (.int (15 : Int32))) ∧
  (Fld Z Z.heap (ad 3) "java/lang/Enum" "ordinal" "I" (.int (3 : Int32))) ∧
  (Fld Z Z.heap (ad 20) "java/lang/Enum" "ordinal" "I" (.int (20 : Int32))) ∧
  (Fld Z Z.heap (ad 21) "java/lang/Enum" "ordinal" "I" (.int (21 : Int32))) ∧
  (Fld Z Z.heap (ad 7) "java/lang/Enum" "ordinal" "I" (.int (7 : Int32))) ∧
  (Fld Z Z.heap (ad 2) "java/lang/Enum" "ordinal" "I" (.int (2 : Int32))) ∧
  (Fld Z Z.heap (ad 11) "java/lang/Enum" "ordinal" "I" (.int (11 : Int32))) ∧
  (Fld Z Z.heap (ad 10) "java/lang/Enum" "ordinal" "I" (.int (10 : Int32))) ∧
  (Fld Z Z.heap (ad 8) "java/lang/Enum" "ordinal" "I" (.int (8 : Int32))) ∧
  (Fld Z Z.heap (ad 1) "java/lang/Enum" "ordinal" "I" (.int (1 : Int32))) ∧
  (Fld Z Z.heap (ad 29) "java/lang/Enum" "ordinal" "I" (.int (29 : Int32))) ∧
  (Fld Z Z.heap (ad 25) "java/lang/Enum" "ordinal" "I" (.int (25 : Int32))) ∧
  (Fld Z Z.heap (ad 16) "java/lang/Enum" "ordinal" "I" (.int (16 : Int32))) ∧
  (Fld Z Z.heap (ad 27) "java/lang/Enum" "ordinal" "I" (.int (27 : Int32))) ∧
  (Fld Z Z.heap (ad 19) "java/lang/Enum" "ordinal" "I" (.int (19 : Int32))) ∧
  (Fld Z Z.heap (ad 26) "java/lang/Enum" "ordinal" "I" (.int (26 : Int32))) ∧
  (Fld Z Z.heap (ad 18) "java/lang/Enum" "ordinal" "I" (.int (18 : Int32))) ∧
  (Fld Z Z.heap (ad 5) "java/lang/Enum" "ordinal" "I" (.int (5 : Int32))) ∧
  (Fld Z Z.heap (ad 6) "java/lang/Enum" "ordinal" "I" (.int (6 : Int32))) ∧
  (Fld Z Z.heap (ad 9) "java/lang/Enum" "ordinal" "I" (.int (9 : Int32))) ∧
  (Fld Z Z.heap (ad 17) "java/lang/Enum" "ordinal" "I" (.int (17 : Int32))) ∧
  (Fld Z Z.heap (ad 28) "java/lang/Enum" "ordinal" "I" (.int (28 : Int32))) ∧
  (Fld Z Z.heap (ad 4) "java/lang/Enum" "ordinal" "I" (.int (4 : Int32))) ∧
  (Fld Z Z.heap (ad 22) "java/lang/Enum" "ordinal" "I" (.int (22 : Int32))) ∧
  (Fld Z Z.heap (ad 24) "java/lang/Enum" "ordinal" "I" (.int (24 : Int32))) ∧
  (Fld Z Z.heap (ad 23) "java/lang/Enum" "ordinal" "I" (.int (23 : Int32))) ∧ True
theorem ft_0 {Z : State} {ad : Nat → Addr} (h : Facts Z ad) : Exa Z Z.heap (ad 0) "com/example/pivotlex/pivotlex/terminology/IssueCode" := h.1
theorem ft_1 {Z : State} {ad : Nat → Addr} (h : Facts Z ad) : Exa Z Z.heap (ad 1) "com/example/pivotlex/pivotlex/terminology/IssueCode" := h.2.1
theorem ft_2 {Z : State} {ad : Nat → Addr} (h : Facts Z ad) : Exa Z Z.heap (ad 2) "com/example/pivotlex/pivotlex/terminology/IssueCode" := h.2.2.1
theorem ft_3 {Z : State} {ad : Nat → Addr} (h : Facts Z ad) : Exa Z Z.heap (ad 3) "com/example/pivotlex/pivotlex/terminology/IssueCode" := h.2.2.2.1
theorem ft_4 {Z : State} {ad : Nat → Addr} (h : Facts Z ad) : Exa Z Z.heap (ad 4) "com/example/pivotlex/pivotlex/terminology/IssueCode" := h.2.2.2.2.1
theorem ft_5 {Z : State} {ad : Nat → Addr} (h : Facts Z ad) : Exa Z Z.heap (ad 5) "com/example/pivotlex/pivotlex/terminology/IssueCode" := h.2.2.2.2.2.1
theorem ft_6 {Z : State} {ad : Nat → Addr} (h : Facts Z ad) : Exa Z Z.heap (ad 6) "com/example/pivotlex/pivotlex/terminology/IssueCode" := h.2.2.2.2.2.2.1
theorem ft_7 {Z : State} {ad : Nat → Addr} (h : Facts Z ad) : Exa Z Z.heap (ad 7) "com/example/pivotlex/pivotlex/terminology/IssueCode" := h.2.2.2.2.2.2.2.1
theorem ft_8 {Z : State} {ad : Nat → Addr} (h : Facts Z ad) : Exa Z Z.heap (ad 8) "com/example/pivotlex/pivotlex/terminology/IssueCode" := h.2.2.2.2.2.2.2.2.1
theorem ft_9 {Z : State} {ad : Nat → Addr} (h : Facts Z ad) : Exa Z Z.heap (ad 9) "com/example/pivotlex/pivotlex/terminology/IssueCode" := h.2.2.2.2.2.2.2.2.2.1
theorem ft_10 {Z : State} {ad : Nat → Addr} (h : Facts Z ad) : Exa Z Z.heap (ad 10) "com/example/pivotlex/pivotlex/terminology/IssueCode" := h.2.2.2.2.2.2.2.2.2.2.1
theorem ft_11 {Z : State} {ad : Nat → Addr} (h : Facts Z ad) : Exa Z Z.heap (ad 11) "com/example/pivotlex/pivotlex/terminology/IssueCode" := h.2.2.2.2.2.2.2.2.2.2.2.1
theorem ft_12 {Z : State} {ad : Nat → Addr} (h : Facts Z ad) : Exa Z Z.heap (ad 12) "com/example/pivotlex/pivotlex/terminology/IssueCode" := h.2.2.2.2.2.2.2.2.2.2.2.2.1
theorem ft_13 {Z : State} {ad : Nat → Addr} (h : Facts Z ad) : Exa Z Z.heap (ad 13) "com/example/pivotlex/pivotlex/terminology/IssueCode" := h.2.2.2.2.2.2.2.2.2.2.2.2.2.1
theorem ft_14 {Z : State} {ad : Nat → Addr} (h : Facts Z ad) : Exa Z Z.heap (ad 14) "com/example/pivotlex/pivotlex/terminology/IssueCode" := h.2.2.2.2.2.2.2.2.2.2.2.2.2.2.1
theorem ft_15 {Z : State} {ad : Nat → Addr} (h : Facts Z ad) : Exa Z Z.heap (ad 15) "com/example/pivotlex/pivotlex/terminology/IssueCode" := h.2.2.2.2.2.2.2.2.2.2.2.2.2.2.2.1
theorem ft_16 {Z : State} {ad : Nat → Addr} (h : Facts Z ad) : Exa Z Z.heap (ad 16) "com/example/pivotlex/pivotlex/terminology/IssueCode" := h.2.2.2.2.2.2.2.2.2.2.2.2.2.2.2.2.1
theorem ft_17 {Z : State} {ad : Nat → Addr} (h : Facts Z ad) : Exa Z Z.heap (ad 17) "com/example/pivotlex/pivotlex/terminology/IssueCode" := h.2.2.2.2.2.2.2.2.2.2.2.2.2.2.2.2.2.1
theorem ft_18 {Z : State} {ad : Nat → Addr} (h : Facts Z ad) : Exa Z Z.heap (ad 18) "com/example/pivotlex/pivotlex/terminology/IssueCode" := h.2.2.2.2.2.2.2.2.2.2.2.2.2.2.2.2.2.2.1
theorem ft_19 {Z : State} {ad : Nat → Addr} (h : Facts Z ad) : Exa Z Z.heap (ad 19) "com/example/pivotlex/pivotlex/terminology/IssueCode" := h.2.2.2.2.2.2.2.2.2.2.2.2.2.2.2.2.2.2.2.1
theorem ft_20 {Z : State} {ad : Nat → Addr} (h : Facts Z ad) : Exa Z Z.heap (ad 20) "com/example/pivotlex/pivotlex/terminology/IssueCode" := h.2.2.2.2.2.2.2.2.2.2.2.2.2.2.2.2.2.2.2.2.1
theorem ft_21 {Z : State} {ad : Nat → Addr} (h : Facts Z ad) : Exa Z Z.heap (ad 21) "com/example/pivotlex/pivotlex/terminology/IssueCode" := h.2.2.2.2.2.2.2.2.2.2.2.2.2.2.2.2.2.2.2.2.2.1
theorem ft_22 {Z : State} {ad : Nat → Addr} (h : Facts Z ad) : Exa Z Z.heap (ad 22) "com/example/pivotlex/pivotlex/terminology/IssueCode" := h.2.2.2.2.2.2.2.2.2.2.2.2.2.2.2.2.2.2.2.2.2.2.1
theorem ft_23 {Z : State} {ad : Nat → Addr} (h : Facts Z ad) : Exa Z Z.heap (ad 23) "com/example/pivotlex/pivotlex/terminology/IssueCode" := h.2.2.2.2.2.2.2.2.2.2.2.2.2.2.2.2.2.2.2.2.2.2.2.1
theorem ft_24 {Z : State} {ad : Nat → Addr} (h : Facts Z ad) : Exa Z Z.heap (ad 24) "com/example/pivotlex/pivotlex/terminology/IssueCode" := h.2.2.2.2.2.2.2.2.2.2.2.2.2.2.2.2.2.2.2.2.2.2.2.2.1
theorem ft_25 {Z : State} {ad : Nat → Addr} (h : Facts Z ad) : Exa Z Z.heap (ad 25) "com/example/pivotlex/pivotlex/terminology/IssueCode" := h.2.2.2.2.2.2.2.2.2.2.2.2.2.2.2.2.2.2.2.2.2.2.2.2.2.1
theorem ft_26 {Z : State} {ad : Nat → Addr} (h : Facts Z ad) : Exa Z Z.heap (ad 26) "com/example/pivotlex/pivotlex/terminology/IssueCode" := h.2.2.2.2.2.2.2.2.2.2.2.2.2.2.2.2.2.2.2.2.2.2.2.2.2.2.1
theorem ft_27 {Z : State} {ad : Nat → Addr} (h : Facts Z ad) : Exa Z Z.heap (ad 27) "com/example/pivotlex/pivotlex/terminology/IssueCode" := h.2.2.2.2.2.2.2.2.2.2.2.2.2.2.2.2.2.2.2.2.2.2.2.2.2.2.2.1
theorem ft_28 {Z : State} {ad : Nat → Addr} (h : Facts Z ad) : Exa Z Z.heap (ad 28) "com/example/pivotlex/pivotlex/terminology/IssueCode" := h.2.2.2.2.2.2.2.2.2.2.2.2.2.2.2.2.2.2.2.2.2.2.2.2.2.2.2.2.1
theorem ft_29 {Z : State} {ad : Nat → Addr} (h : Facts Z ad) : Exa Z Z.heap (ad 29) "com/example/pivotlex/pivotlex/terminology/IssueCode" := h.2.2.2.2.2.2.2.2.2.2.2.2.2.2.2.2.2.2.2.2.2.2.2.2.2.2.2.2.2.1
theorem ft_30 {Z : State} {ad : Nat → Addr} (h : Facts Z ad) : Sta Z Z.heap "com/example/pivotlex/pivotlex/terminology/IssueCode" "ERR_CODE_SYSTEM_NOT_FOUND" "Lcom/example/pivotlex/pivotlex/terminology/IssueCode;" (.ref (ad 0)) := h.2.2.2.2.2.2.2.2.2.2.2.2.2.2.2.2.2.2.2.2.2.2.2.2.2.2.2.2.2.2.1
theorem ft_31 {Z : State} {ad : Nat → Addr} (h : Facts Z ad) : Sta Z Z.heap "com/example/pivotlex/pivotlex/terminology/IssueCode" "ERR_CODE_SYSTEM_VERSION_NOT_FOUND" "Lcom/example/pivotlex/pivotlex/terminology/IssueCode;" (.ref (ad 1)) := h.2.2.2.2.2.2.2.2.2.2.2.2.2.2.2.2.2.2.2.2.2.2.2.2.2.2.2.2.2.2.2.1
theorem ft_32 {Z : State} {ad : Nat → Addr} (h : Facts Z ad) : Sta Z Z.heap "com/example/pivotlex/pivotlex/terminology/IssueCode" "ERR_CONCEPT_NOT_FOUND" "Lcom/example/pivotlex/pivotlex/terminology/IssueCode;" (.ref (ad 2)) := h.2.2.2.2.2.2.2.2.2.2.2.2.2.2.2.2.2.2.2.2.2.2.2.2.2.2.2.2.2.2.2.2.1
theorem ft_33 {Z : State} {ad : Nat → Addr} (h : Facts Z ad) : Sta Z Z.heap "com/example/pivotlex/pivotlex/terminology/IssueCode" "ERR_DESIGNATION_NOT_FOUND" "Lcom/example/pivotlex/pivotlex/terminology/IssueCode;" (.ref (ad 3)) := h.2.2.2.2.2.2.2.2.2.2.2.2.2.2.2.2.2.2.2.2.2.2.2.2.2.2.2.2.2.2.2.2.2.1
theorem ft_34 {Z : State} {ad : Nat → Addr} (h : Facts Z ad) : Sta Z Z.heap "com/example/pivotlex/pivotlex/terminology/IssueCode" "ERR_CODE_SYSTEM_NOT_INFERRED" "Lcom/example/pivotlex/pivotlex/terminology/IssueCode;" (.ref (ad 4)) := h.2.2.2.2.2.2.2.2.2.2.2.2.2.2.2.2.2.2.2.2.2.2.2.2.2.2.2.2.2.2.2.2.2.2.1
theorem ft_35 {Z : State} {ad : Nat → Addr} (h : Facts Z ad) : Sta Z Z.heap "com/example/pivotlex/pivotlex/terminology/IssueCode" "ERR_DISPLAY_INVALID" "Lcom/example/pivotlex/pivotlex/terminology/IssueCode;" (.ref (ad 5)) := h.2.2.2.2.2.2.2.2.2.2.2.2.2.2.2.2.2.2.2.2.2.2.2.2.2.2.2.2.2.2.2.2.2.2.2.1
theorem ft_36 {Z : State} {ad : Nat → Addr} (h : Facts Z ad) : Sta Z Z.heap "com/example/pivotlex/pivotlex/terminology/IssueCode" "ERR_NOT_IN_VALUE_SET" "Lcom/example/pivotlex/pivotlex/terminology/IssueCode;" (.ref (ad 6)) := h.2.2.2.2.2.2.2.2.2.2.2.2.2.2.2.2.2.2.2.2.2.2.2.2.2.2.2.2.2.2.2.2.2.2.2.2.1
theorem ft_37 {Z : State} {ad : Nat → Addr} (h : Facts Z ad) : Sta Z Z.heap "com/example/pivotlex/pivotlex/terminology/IssueCode" "ERR_MAPPING_INVALID" "Lcom/example/pivotlex/pivotlex/terminology/IssueCode;" (.ref (ad 7)) := h.2.2.2.2.2.2.2.2.2.2.2.2.2.2.2.2.2.2.2.2.2.2.2.2.2.2.2.2.2.2.2.2.2.2.2.2.2.1
theorem ft_38 {Z : State} {ad : Nat → Addr} (h : Facts Z ad) : Sta Z Z.heap "com/example/pivotlex/pivotlex/terminology/IssueCode" "ERR_MAPPING_AMBIGUOUS" "Lcom/example/pivotlex/pivotlex/terminology/IssueCode;" (.ref (ad 8)) := h.2.2.2.2.2.2.2.2.2.2.2.2.2.2.2.2.2.2.2.2.2.2.2.2.2.2.2.2.2.2.2.2.2.2.2.2.2.2.1
theorem ft_39 {Z : State} {ad : Nat → Addr} (h : Facts Z ad) : Sta Z Z.heap "com/example/pivotlex/pivotlex/terminology/IssueCode" "ERR_TARGET_NOT_FOUND" "Lcom/example/pivotlex/pivotlex/terminology/IssueCode;" (.ref (ad 9)) := h.2.2.2.2.2.2.2.2.2.2.2.2.2.2.2.2.2.2.2.2.2.2.2.2.2.2.2.2.2.2.2.2.2.2.2.2.2.2.2.1
theorem ft_40 {Z : State} {ad : Nat → Addr} (h : Facts Z ad) : Sta Z Z.heap "com/example/pivotlex/pivotlex/terminology/IssueCode" "ERR_CONCEPT_MAP_NOT_FOUND" "Lcom/example/pivotlex/pivotlex/terminology/IssueCode;" (.ref (ad 10)) := h.2.2.2.2.2.2.2.2.2.2.2.2.2.2.2.2.2.2.2.2.2.2.2.2.2.2.2.2.2.2.2.2.2.2.2.2.2.2.2.2.1
theorem ft_41 {Z : State} {ad : Nat → Addr} (h : Facts Z ad) : Sta Z Z.heap "com/example/pivotlex/pivotlex/terminology/IssueCode" "ERR_CONCEPT_MAP_VERSION_NOT_FOUND" "Lcom/example/pivotlex/pivotlex/terminology/IssueCode;" (.ref (ad 11)) := h.2.2.2.2.2.2.2.2.2.2.2.2.2.2.2.2.2.2.2.2.2.2.2.2.2.2.2.2.2.2.2.2.2.2.2.2.2.2.2.2.2.1
theorem ft_42 {Z : State} {ad : Nat → Addr} (h : Facts Z ad) : Sta Z Z.heap "com/example/pivotlex/pivotlex/terminology/IssueCode" "ERR_VALUE_SET_NOT_FOUND" "Lcom/example/pivotlex/pivotlex/terminology/IssueCode;" (.ref (ad 12)) := h.2.2.2.2.2.2.2.2.2.2.2.2.2.2.2.2.2.2.2.2.2.2.2.2.2.2.2.2.2.2.2.2.2.2.2.2.2.2.2.2.2.2.1
theorem ft_43 {Z : State} {ad : Nat → Addr} (h : Facts Z ad) : Sta Z Z.heap "com/example/pivotlex/pivotlex/terminology/IssueCode" "ERR_VALUE_SET_VERSION_NOT_FOUND" "Lcom/example/pivotlex/pivotlex/terminology/IssueCode;" (.ref (ad 13)) := h.2.2.2.2.2.2.2.2.2.2.2.2.2.2.2.2.2.2.2.2.2.2.2.2.2.2.2.2.2.2.2.2.2.2.2.2.2.2.2.2.2.2.2.1
theorem ft_44 {Z : State} {ad : Nat → Addr} (h : Facts Z ad) : Sta Z Z.heap "com/example/pivotlex/pivotlex/terminology/IssueCode" "ERR_VALUE_SET_INVALID" "Lcom/example/pivotlex/pivotlex/terminology/IssueCode;" (.ref (ad 14)) := h.2.2.2.2.2.2.2.2.2.2.2.2.2.2.2.2.2.2.2.2.2.2.2.2.2.2.2.2.2.2.2.2.2.2.2.2.2.2.2.2.2.2.2.2.1
theorem ft_45 {Z : State} {ad : Nat → Addr} (h : Facts Z ad) : Sta Z Z.heap "com/example/pivotlex/pivotlex/terminology/IssueCode" "ERR_VALUE_SET_TOO_COSTLY" "Lcom/example/pivotlex/pivotlex/terminology/IssueCode;" (.ref (ad 15)) := h.2.2.2.2.2.2.2.2.2.2.2.2.2.2.2.2.2.2.2.2.2.2.2.2.2.2.2.2.2.2.2.2.2.2.2.2.2.2.2.2.2.2.2.2.2.1
theorem ft_46 {Z : State} {ad : Nat → Addr} (h : Facts Z ad) : Sta Z Z.heap "com/example/pivotlex/pivotlex/terminology/IssueCode" "ERR_CODE_SYSTEM_VERSION_REFUSED" "Lcom/example/pivotlex/pivotlex/terminology/IssueCode;" (.ref (ad 16)) := h.2.2.2.2.2.2.2.2.2.2.2.2.2.2.2.2.2.2.2.2.2.2.2.2.2.2.2.2.2.2.2.2.2.2.2.2.2.2.2.2.2.2.2.2.2.2.1
theorem ft_47 {Z : State} {ad : Nat → Addr} (h : Facts Z ad) : Sta Z Z.heap "com/example/pivotlex/pivotlex/terminology/IssueCode" "ERR_SUPPLEMENT_NOT_FOUND" "Lcom/example/pivotlex/pivotlex/terminology/IssueCode;" (.ref (ad 17)) := h.2.2.2.2.2.2.2.2.2.2.2.2.2.2.2.2.2.2.2.2.2.2.2.2.2.2.2.2.2.2.2.2.2.2.2.2.2.2.2.2.2.2.2.2.2.2.2.1
theorem ft_48 {Z : State} {ad : Nat → Addr} (h : Facts Z ad) : Sta Z Z.heap "com/example/pivotlex/pivotlex/terminology/IssueCode" "ERR_DOCUMENT_TYPE_UNKNOWN" "Lcom/example/pivotlex/pivotlex/terminology/IssueCode;" (.ref (ad 18)) := h.2.2.2.2.2.2.2.2.2.2.2.2.2.2.2.2.2.2.2.2.2.2.2.2.2.2.2.2.2.2.2.2.2.2.2.2.2.2.2.2.2.2.2.2.2.2.2.2.1
theorem ft_49 {Z : State} {ad : Nat → Addr} (h : Facts Z ad) : Sta Z Z.heap "com/example/pivotlex/pivotlex/terminology/IssueCode" "ERR_REQUIRED_ELEMENT_MISSING" "Lcom/example/pivotlex/pivotlex/terminology/IssueCode;" (.ref (ad 19)) := h.2.2.2.2.2.2.2.2.2.2.2.2.2.2.2.2.2.2.2.2.2.2.2.2.2.2.2.2.2.2.2.2.2.2.2.2.2.2.2.2.2.2.2.2.2.2.2.2.2.1
theorem ft_50 {Z : State} {ad : Nat → Addr} (h : Facts Z ad) : Sta Z Z.heap "com/example/pivotlex/pivotlex/terminology/IssueCode" "ERR_REQUIRED_ELEMENT_NOT_TRANSFORMED" "Lcom/example/pivotlex/pivotlex/terminology/IssueCode;" (.ref (ad 20)) := h.2.2.2.2.2.2.2.2.2.2.2.2.2.2.2.2.2.2.2.2.2.2.2.2.2.2.2.2.2.2.2.2.2.2.2.2.2.2.2.2.2.2.2.2.2.2.2.2.2.2.1
theorem ft_51 {Z : State} {ad : Nat → Addr} (h : Facts Z ad) : Sta Z Z.heap "com/example/pivotlex/pivotlex/terminology/IssueCode" "ERR_DOCUMENT_NOT_TRANSFORMED" "Lcom/example/pivotlex/pivotlex/terminology/IssueCode;" (.ref (ad 21)) := h.2.2.2.2.2.2.2.2.2.2.2.2.2.2.2.2.2.2.2.2.2.2.2.2.2.2.2.2.2.2.2.2.2.2.2.2.2.2.2.2.2.2.2.2.2.2.2.2.2.2.2.1
theorem ft_52 {Z : State} {ad : Nat → Addr} (h : Facts Z ad) : Sta Z Z.heap "com/example/pivotlex/pivotlex/terminology/IssueCode" "WARN_CODE_SYSTEM_NAME_MISMATCH" "Lcom/example/pivotlex/pivotlex/terminology/IssueCode;" (.ref (ad 22)) := h.2.2.2.2.2.2.2.2.2.2.2.2.2.2.2.2.2.2.2.2.2.2.2.2.2.2.2.2.2.2.2.2.2.2.2.2.2.2.2.2.2.2.2.2.2.2.2.2.2.2.2.2.1
theorem ft_53 {Z : State} {ad : Nat → Addr} (h : Facts Z ad) : Sta Z Z.heap "com/example/pivotlex/pivotlex/terminology/IssueCode" "WARN_VALUE_SET_MISMATCH" "Lcom/example/pivotlex/pivotlex/terminology/IssueCode;" (.ref (ad 23)) := h.2.2.2.2.2.2.2.2.2.2.2.2.2.2.2.2.2.2.2.2.2.2.2.2.2.2.2.2.2.2.2.2.2.2.2.2.2.2.2.2.2.2.2.2.2.2.2.2.2.2.2.2.2.1
theorem ft_54 {Z : State} {ad : Nat → Addr} (h : Facts Z ad) : Sta Z Z.heap "com/example/pivotlex/pivotlex/terminology/IssueCode" "WARN_NO_PREFERRED_DESIGNATION" "Lcom/example/pivotlex/pivotlex/terminology/IssueCode;" (.ref (ad 24)) := h.2.2.2.2.2.2.2.2.2.2.2.2.2.2.2.2.2.2.2.2.2.2.2.2.2.2.2.2.2.2.2.2.2.2.2.2.2.2.2.2.2.2.2.2.2.2.2.2.2.2.2.2.2.2.1
theorem ft_55 {Z : State} {ad : Nat → Addr} (h : Facts Z ad) : Sta Z Z.heap "com/example/pivotlex/pivotlex/terminology/IssueCode" "WARN_CONCEPT_NOT_CURRENT" "Lcom/example/pivotlex/pivotlex/terminology/IssueCode;" (.ref (ad 25)) := h.2.2.2.2.2.2.2.2.2.2.2.2.2.2.2.2.2.2.2.2.2.2.2.2.2.2.2.2.2.2.2.2.2.2.2.2.2.2.2.2.2.2.2.2.2.2.2.2.2.2.2.2.2.2.2.1
theorem ft_56 {Z : State} {ad : Nat → Addr} (h : Facts Z ad) : Sta Z Z.heap "com/example/pivotlex/pivotlex/terminology/IssueCode" "WARN_ELEMENT_TYPE" "Lcom/example/pivotlex/pivotlex/terminology/IssueCode;" (.ref (ad 26)) := h.2.2.2.2.2.2.2.2.2.2.2.2.2.2.2.2.2.2.2.2.2.2.2.2.2.2.2.2.2.2.2.2.2.2.2.2.2.2.2.2.2.2.2.2.2.2.2.2.2.2.2.2.2.2.2.2.1
theorem ft_57 {Z : State} {ad : Nat → Addr} (h : Facts Z ad) : Sta Z Z.heap "com/example/pivotlex/pivotlex/terminology/IssueCode" "WARN_NOT_TRANSCODED" "Lcom/example/pivotlex/pivotlex/terminology/IssueCode;" (.ref (ad 27)) := h.2.2.2.2.2.2.2.2.2.2.2.2.2.2.2.2.2.2.2.2.2.2.2.2.2.2.2.2.2.2.2.2.2.2.2.2.2.2.2.2.2.2.2.2.2.2.2.2.2.2.2.2.2.2.2.2.2.1
theorem ft_58 {Z : State} {ad : Nat → Addr} (h : Facts Z ad) : Sta Z Z.heap "com/example/pivotlex/pivotlex/terminology/IssueCode" "WARN_NOT_TRANSLATED" "Lcom/example/pivotlex/pivotlex/terminology/IssueCode;" (.ref (ad 28)) := h.2.2.2.2.2.2.2.2.2.2.2.2.2.2.2.2.2.2.2.2.2.2.2.2.2.2.2.2.2.2.2.2.2.2.2.2.2.2.2.2.2.2.2.2.2.2.2.2.2.2.2.2.2.2.2.2.2.2.1
theorem ft_59 {Z : State} {ad : Nat → Addr} (h : Facts Z ad) : Sta Z Z.heap "com/example/pivotlex/pivotlex/terminology/IssueCode" "WARN_NOT_IN_LIST" "Lcom/example/pivotlex/pivotlex/terminology/IssueCode;" (.ref (ad 29)) := h.2.2.2.2.2.2.2.2.2.2.2.2.2.2.2.2.2.2.2.2.2.2.2.2.2.2.2.2.2.2.2.2.2.2.2.2.2.2.2.2.2.2.2.2.2.2.2.2.2.2.2.2.2.2.2.2.2.2.2.1
theorem ft_60 {Z : State} {ad : Nat → Addr} (h : Facts Z ad) : Fld Z Z.heap (ad 0) "java/lang/Enum" "ordinal" "I" (.int (0 : Int32)) := h.2.2.2.2.2.2.2.2.2.2.2.2.2.2.2.2.2.2.2.2.2.2.2.2.2.2.2.2.2.2.2.2.2.2.2.2.2.2.2.2.2.2.2.2.2.2.2.2.2.2.2.2.2.2.2.2.2.2.2.2.1
theorem ft_61 {Z : State} {ad : Nat → Addr} (h : Facts Z ad) : Fld Z Z.heap (ad 12) "java/lang/Enum" "ordinal" "I" (.int (12 : Int32)) := h.2.2.2.2.2.2.2.2.2.2.2.2.2.2.2.2.2.2.2.2.2.2.2.2.2.2.2.2.2.2.2.2.2.2.2.2.2.2.2.2.2.2.2.2.2.2.2.2.2.2.2.2.2.2.2.2.2.2.2.2.2.1
theorem ft_62 {Z : State} {ad : Nat → Addr} (h : Facts Z ad) : Fld Z Z.heap (ad 13) "java/lang/Enum" "ordinal" "I" (.int (13 : Int32)) := h.2.2.2.2.2.2.2.2.2.2.2.2.2.2.2.2.2.2.2.2.2.2.2.2.2.2.2.2.2.2.2.2.2.2.2.2.2.2.2.2.2.2.2.2.2.2.2.2.2.2.2.2.2.2.2.2.2.2.2.2.2.2.1
theorem ft_63 {Z : State} {ad : Nat → Addr} (h : Facts Z ad) : Fld Z Z.heap (ad 14) "java/lang/Enum" "ordinal" "I" (.int (14 : Int32)) := h.2.2.2.2.2.2.2.2.2.2.2.2.2.2.2.2.2.2.2.2.2.2.2.2.2.2.2.2.2.2.2.2.2.2.2.2.2.2.2.2.2.2.2.2.2.2.2.2.2.2.2.2.2.2.2.2.2.2.2.2.2.2.2.1
theorem ft_64 {Z : State} {ad : Nat → Addr} (h : Facts Z ad) : Fld Z Z.heap (ad 15) "java/lang/Enum" "ordinal" "I" (.int (15 : Int32)) := h.2.2.2.2.2.2.2.2.2.2.2.2.2.2.2.2.2.2.2.2.2.2.2.2.2.2.2.2.2.2.2.2.2.2.2.2.2.2.2.2.2.2.2.2.2.2.2.2.2.2.2.2.2.2.2.2.2.2.2.2.2.2.2.2.1
theorem ft_65 {Z : State} {ad : Nat → Addr} (h : Facts Z ad) : Fld Z Z.heap (ad 3) "java/lang/Enum" "ordinal" "I" (.int (3 : Int32)) := h.2.2.2.2.2.2.2.2.2.2.2.2.2.2.2.2.2.2.2.2.2.2.2.2.2.2.2.2.2.2.2.2.2.2.2.2.2.2.2.2.2.2.2.2.2.2.2.2.2.2.2.2.2.2.2.2.2.2.2.2.2.2.2.2.2.1
theorem ft_66 {Z : State} {ad : Nat → Addr} (h : Facts Z ad) : Fld Z Z.heap (ad 20) "java/lang/Enum" "ordinal" "I" (.int (20 : Int32)) := h.2.2.2.2.2.2.2.2.2.2.2.2.2.2.2.2.2.2.2.2.2.2.2.2.2.2.2.2.2.2.2.2.2.2.2.2.2.2.2.2.2.2.2.2.2.2.2.2.2.2.2.2.2.2.2.2.2.2.2.2.2.2.2.2.2.2.1
theorem ft_67 {Z : State} {ad : Nat → Addr} (h : Facts Z ad) : Fld Z Z.heap (ad 21) "java/lang/Enum" "ordinal" "I" (.int (21 : Int32)) := h.2.2.2.2.2.2.2.2.2.2.2.2.2.2.2.2.2.2.2.2.2.2.2.2.2.2.2.2.2.2.2.2.2.2.2.2.2.2.2.2.2.2.2.2.2.2.2.2.2.2.2.2.2.2.2.2.2.2.2.2.2.2.2.2.2.2.2.1
theorem ft_68 {Z : State} {ad : Nat → Addr} (h : Facts Z ad) : Fld Z Z.heap (ad 7) "java/lang/Enum" "ordinal" "I" (.int (7 : Int32)) := h.2.2.2.2.2.2.2.2.2.2.2.2.2.2.2.2.2.2.2.2.2.2.2.2.2.2.2.2.2.2.2.2.2.2.2.2.2.2.2.2.2.2.2.2.2.2.2.2.2.2.2.2.2.2.2.2.2.2.2.2.2.2.2.2.2.2.2.2.1
theorem ft_69 {Z : State} {ad : Nat → Addr} (h : Facts Z ad) : Fld Z Z.heap (ad 2) "java/lang/Enum" "ordinal" "I" (.int (2 : Int32)) := h.2.2.2.2.2.2.2.2.2.2.2.2.2.2.2.2.2.2.2.2.2.2.2.2.2.2.2.2.2.2.2.2.2.2.2.2.2.2.2.2.2.2.2.2.2.2.2.2.2.2.2.2.2.2.2.2.2.2.2.2.2.2.2.2.2.2.2.2.2.1
theorem ft_70 {Z : State} {ad : Nat → Addr} (h : Facts Z ad) : Fld Z Z.heap (ad 11) "java/lang/Enum" "ordinal" "I" (.int (11 : Int32)) := h.2.2.2.2.2.2.2.2.2.2.2.2.2.2.2.2.2.2.2.2.2.2.2.2.2.2.2.2.2.2.2.2.2.2.2.2.2.2.2.2.2.2.2.2.2.2.2.2.2.2.2.2.2.2.2.2.2.2.2.2.2.2.2.2.2.2.2.2.2.2.1
theorem ft_71 {Z : State} {ad : Nat → Addr} (h : Facts Z ad) : Fld Z Z.heap (ad 10) "java/lang/Enum" "ordinal" "I" (.int (10 : Int32)) := h.2.2.2.2.2.2.2.2.2.2.2.2.2.2.2.2.2.2.2.2.2.2.2.2.2.2.2.2.2.2.2.2.2.2.2.2.2.2.2.2.2.2.2.2.2.2.2.2.2.2.2.2.2.2.2.2.2.2.2.2.2.2.2.2.2.2.2.2.2.2.2.1
theorem ft_72 {Z : State} {ad : Nat → Addr} (h : Facts Z ad) : Fld Z Z.heap (ad 8) "java/lang/Enum" "ordinal" "I" (.int (8 : Int32)) := h.2.2.2.2.2.2.2.2.2.2.2.2.2.2.2.2.2.2.2.2.2.2.2.2.2.2.2.2.2.2.2.2.2.2.2.2.2.2.2.2.2.2.2.2.2.2.2.2.2.2.2.2.2.2.2.2.2.2.2.2.2.2.2.2.2.2.2.2.2.2.2.2.1
theorem ft_73 {Z : State} {ad : Nat → Addr} (h : Facts Z ad) : Fld Z Z.heap (ad 1) "java/lang/Enum" "ordinal" "I" (.int (1 : Int32)) := h.2.2.2.2.2.2.2.2.2.2.2.2.2.2.2.2.2.2.2.2.2.2.2.2.2.2.2.2.2.2.2.2.2.2.2.2.2.2.2.2.2.2.2.2.2.2.2.2.2.2.2.2.2.2.2.2.2.2.2.2.2.2.2.2.2.2.2.2.2.2.2.2.2.1
theorem ft_74 {Z : State} {ad : Nat → Addr} (h : Facts Z ad) : Fld Z Z.heap (ad 29) "java/lang/Enum" "ordinal" "I" (.int (29 : Int32)) := h.2.2.2.2.2.2.2.2.2.2.2.2.2.2.2.2.2.2.2.2.2.2.2.2.2.2.2.2.2.2.2.2.2.2.2.2.2.2.2.2.2.2.2.2.2.2.2.2.2.2.2.2.2.2.2.2.2.2.2.2.2.2.2.2.2.2.2.2.2.2.2.2.2.2.1
theorem ft_75 {Z : State} {ad : Nat → Addr} (h : Facts Z ad) : Fld Z Z.heap (ad 25) "java/lang/Enum" "ordinal" "I" (.int (25 : Int32)) := h.2.2.2.2.2.2.2.2.2.2.2.2.2.2.2.2.2.2.2.2.2.2.2.2.2.2.2.2.2.2.2.2.2.2.2.2.2.2.2.2.2.2.2.2.2.2.2.2.2.2.2.2.2.2.2.2.2.2.2.2.2.2.2.2.2.2.2.2.2.2.2.2.2.2.2.1
theorem ft_76 {Z : State} {ad : Nat → Addr} (h : Facts Z ad) : Fld Z Z.heap (ad 16) "java/lang/Enum" "ordinal" "I" (.int (16 : Int32)) := h.2.2.2.2.2.2.2.2.2.2.2.2.2.2.2.2.2.2.2.2.2.2.2.2.2.2.2.2.2.2.2.2.2.2.2.2.2.2.2.2.2.2.2.2.2.2.2.2.2.2.2.2.2.2.2.2.2.2.2.2.2.2.2.2.2.2.2.2.2.2.2.2.2.2.2.2.1
theorem ft_77 {Z : State} {ad : Nat → Addr} (h : Facts Z ad) : Fld Z Z.heap (ad 27) "java/lang/Enum" "ordinal" "I" (.int (27 : Int32)) := h.2.2.2.2.2.2.2.2.2.2.2.2.2.2.2.2.2.2.2.2.2.2.2.2.2.2.2.2.2.2.2.2.2.2.2.2.2.2.2.2.2.2.2.2.2.2.2.2.2.2.2.2.2.2.2.2.2.2.2.2.2.2.2.2.2.2.2.2.2.2.2.2.2.2.2.2.2.1
theorem ft_78 {Z : State} {ad : Nat → Addr} (h : Facts Z ad) : Fld Z Z.heap (ad 19) "java/lang/Enum" "ordinal" "I" (.int (19 : Int32)) := h.2.2.2.2.2.2.2.2.2.2.2.2.2.2.2.2.2.2.2.2.2.2.2.2.2.2.2.2.2.2.2.2.2.2.2.2.2.2.2.2.2.2.2.2.2.2.2.2.2.2.2.2.2.2.2.2.2.2.2.2.2.2.2.2.2.2.2.2.2.2.2.2.2.2.2.2.2.2.1
theorem ft_79 {Z : State} {ad : Nat → Addr} (h : Facts Z ad) : Fld Z Z.heap (ad 26) "java/lang/Enum" "ordinal" "I" (.int (26 : Int32)) := h.2.2.2.2.2.2.2.2.2.2.2.2.2.2.2.2.2.2.2.2.2.2.2.2.2.2.2.2.2.2.2.2.2.2.2.2.2.2.2.2.2.2.2.2.2.2.2.2.2.2.2.2.2.2.2.2.2.2.2.2.2.2.2.2.2.2.2.2.2.2.2.2.2.2.2.2.2.2.2.1
theorem ft_80 {Z : State} {ad : Nat → Addr} (h : Facts Z ad) : Fld Z Z.heap (ad 18) "java/lang/Enum" "ordinal" "I" (.int (18 : Int32)) := h.2.2.2.2.2.2.2.2.2.2.2.2.2.2.2.2.2.2.2.2.2.2.2.2.2.2.2.2.2.2.2.2.2.2.2.2.2.2.2.2.2.2.2.2.2.2.2.2.2.2.2.2.2.2.2.2.2.2.2.2.2.2.2.2.2.2.2.2.2.2.2.2.2.2.2.2.2.2.2.2.1
theorem ft_81 {Z : State} {ad : Nat → Addr} (h : Facts Z ad) : Fld Z Z.heap (ad 5) "java/lang/Enum" "ordinal" "I" (.int (5 : Int32)) := h.2.2.2.2.2.2.2.2.2.2.2.2.2.2.2.2.2.2.2.2.2.2.2.2.2.2.2.2.2.2.2.2.2.2.2.2.2.2.2.2.2.2.2.2.2.2.2.2.2.2.2.2.2.2.2.2.2.2.2.2.2.2.2.2.2.2.2.2.2.2.2.2.2.2.2.2.2.2.2.2.2.1
theorem ft_82 {Z : State} {ad : Nat → Addr} (h : Facts Z ad) : Fld Z Z.heap (ad 6) "java/lang/Enum" "ordinal" "I" (.int (6 : Int32)) := h.2.2.2.2.2.2.2.2.2.2.2.2.2.2.2.2.2.2.2.2.2.2.2.2.2.2.2.2.2.2.2.2.2.2.2.2.2.2.2.2.2.2.2.2.2.2.2.2.2.2.2.2.2.2.2.2.2.2.2.2.2.2.2.2.2.2.2.2.2.2.2.2.2.2.2.2.2.2.2.2.2.2.1
theorem ft_83 {Z : State} {ad : Nat → Addr} (h : Facts Z ad) : Fld Z Z.heap (ad 9) "java/lang/Enum" "ordinal" "I" (.int (9 : Int32)) := h.2.2.2.2.2.2.2.2.2.2.2.2.2.2.2.2.2.2.2.2.2.2.2.2.2.2.2.2.2.2.2.2.2.2.2.2.2.2.2.2.2.2.2.2.2.2.2.2.2.2.2.2.2.2.2.2.2.2.2.2.2.2.2.2.2.2.2.2.2.2.2.2.2.2.2.2.2.2.2.2.2.2.2.1
theorem ft_84 {Z : State} {ad : Nat → Addr} (h : Facts Z ad) : Fld Z Z.heap (ad 17) "java/lang/Enum" "ordinal" "I" (.int (17 : Int32)) := h.2.2.2.2.2.2.2.2.2.2.2.2.2.2.2.2.2.2.2.2.2.2.2.2.2.2.2.2.2.2.2.2.2.2.2.2.2.2.2.2.2.2.2.2.2.2.2.2.2.2.2.2.2.2.2.2.2.2.2.2.2.2.2.2.2.2.2.2.2.2.2.2.2.2.2.2.2.2.2.2.2.2.2.2.1
theorem ft_85 {Z : State} {ad : Nat → Addr} (h : Facts Z ad) : Fld Z Z.heap (ad 28) "java/lang/Enum" "ordinal" "I" (.int (28 : Int32)) := h.2.2.2.2.2.2.2.2.2.2.2.2.2.2.2.2.2.2.2.2.2.2.2.2.2.2.2.2.2.2.2.2.2.2.2.2.2.2.2.2.2.2.2.2.2.2.2.2.2.2.2.2.2.2.2.2.2.2.2.2.2.2.2.2.2.2.2.2.2.2.2.2.2.2.2.2.2.2.2.2.2.2.2.2.2.1
theorem ft_86 {Z : State} {ad : Nat → Addr} (h : Facts Z ad) : Fld Z Z.heap (ad 4) "java/lang/Enum" "ordinal" "I" (.int (4 : Int32)) := h.2.2.2.2.2.2.2.2.2.2.2.2.2.2.2.2.2.2.2.2.2.2.2.2.2.2.2.2.2.2.2.2.2.2.2.2.2.2.2.2.2.2.2.2.2.2.2.2.2.2.2.2.2.2.2.2.2.2.2.2.2.2.2.2.2.2.2.2.2.2.2.2.2.2.2.2.2.2.2.2.2.2.2.2.2.2.1
theorem ft_87 {Z : State} {ad : Nat → Addr} (h : Facts Z ad) : Fld Z Z.heap (ad 22) "java/lang/Enum" "ordinal" "I" (.int (22 : Int32)) := h.2.2.2.2.2.2.2.2.2.2.2.2.2.2.2.2.2.2.2.2.2.2.2.2.2.2.2.2.2.2.2.2.2.2.2.2.2.2.2.2.2.2.2.2.2.2.2.2.2.2.2.2.2.2.2.2.2.2.2.2.2.2.2.2.2.2.2.2.2.2.2.2.2.2.2.2.2.2.2.2.2.2.2.2.2.2.2.1
theorem ft_88 {Z : State} {ad : Nat → Addr} (h : Facts Z ad) : Fld Z Z.heap (ad 24) "java/lang/Enum" "ordinal" "I" (.int (24 : Int32)) := h.2.2.2.2.2.2.2.2.2.2.2.2.2.2.2.2.2.2.2.2.2.2.2.2.2.2.2.2.2.2.2.2.2.2.2.2.2.2.2.2.2.2.2.2.2.2.2.2.2.2.2.2.2.2.2.2.2.2.2.2.2.2.2.2.2.2.2.2.2.2.2.2.2.2.2.2.2.2.2.2.2.2.2.2.2.2.2.2.1
theorem ft_89 {Z : State} {ad : Nat → Addr} (h : Facts Z ad) : Fld Z Z.heap (ad 23) "java/lang/Enum" "ordinal" "I" (.int (23 : Int32)) := h.2.2.2.2.2.2.2.2.2.2.2.2.2.2.2.2.2.2.2.2.2.2.2.2.2.2.2.2.2.2.2.2.2.2.2.2.2.2.2.2.2.2.2.2.2.2.2.2.2.2.2.2.2.2.2.2.2.2.2.2.2.2.2.2.2.2.2.2.2.2.2.2.2.2.2.2.2.2.2.2.2.2.2.2.2.2.2.2.2.1
set_option maxRecDepth 65536 in
set_option maxHeartbeats 40000000 in
theorem own_facts {s : State} {args : Array Value} (hw : ∀ d ∈ tables_1, d.before args s = true) (hfit : Fit s) (hn : narrow_1.value args s none s [] = some true) : ∃ ad, Facts s ad := by
  obtain ⟨q0, r0⟩ := and_e hn
  obtain ⟨q1, r1⟩ := and_e r0
  obtain ⟨q2, r2⟩ := and_e r1
  obtain ⟨q3, r3⟩ := and_e r2
  obtain ⟨q4, r4⟩ := and_e r3
  obtain ⟨q5, r5⟩ := and_e r4
  obtain ⟨q6, r6⟩ := and_e r5
  obtain ⟨q7, r7⟩ := and_e r6
  obtain ⟨q8, r8⟩ := and_e r7
  obtain ⟨q9, r9⟩ := and_e r8
  obtain ⟨q10, r10⟩ := and_e r9
  obtain ⟨q11, r11⟩ := and_e r10
  obtain ⟨q12, r12⟩ := and_e r11
  obtain ⟨q13, r13⟩ := and_e r12
  obtain ⟨q14, r14⟩ := and_e r13
  obtain ⟨q15, r15⟩ := and_e r14
  obtain ⟨q16, r16⟩ := and_e r15
  obtain ⟨q17, r17⟩ := and_e r16
  obtain ⟨q18, r18⟩ := and_e r17
  obtain ⟨q19, r19⟩ := and_e r18
  obtain ⟨q20, r20⟩ := and_e r19
  obtain ⟨q21, r21⟩ := and_e r20
  obtain ⟨q22, r22⟩ := and_e r21
  obtain ⟨q23, r23⟩ := and_e r22
  obtain ⟨q24, r24⟩ := and_e r23
  obtain ⟨q25, r25⟩ := and_e r24
  obtain ⟨q26, r26⟩ := and_e r25
  obtain ⟨q27, r27⟩ := and_e r26
  obtain ⟨q28, r28⟩ := and_e r27
  obtain ⟨q29, r29⟩ := and_e r28
  obtain ⟨q30, r30⟩ := and_e r29
  obtain ⟨q31, r31⟩ := and_e r30
  obtain ⟨q32, r32⟩ := and_e r31
  obtain ⟨q33, r33⟩ := and_e r32
  obtain ⟨q34, r34⟩ := and_e r33
  obtain ⟨q35, r35⟩ := and_e r34
  obtain ⟨q36, r36⟩ := and_e r35
  obtain ⟨q37, r37⟩ := and_e r36
  obtain ⟨q38, r38⟩ := and_e r37
  obtain ⟨q39, r39⟩ := and_e r38
  obtain ⟨q40, r40⟩ := and_e r39
  obtain ⟨q41, r41⟩ := and_e r40
  obtain ⟨q42, r42⟩ := and_e r41
  obtain ⟨q43, r43⟩ := and_e r42
  obtain ⟨q44, r44⟩ := and_e r43
  obtain ⟨q45, r45⟩ := and_e r44
  obtain ⟨q46, r46⟩ := and_e r45
  obtain ⟨q47, r47⟩ := and_e r46
  obtain ⟨q48, r48⟩ := and_e r47
  obtain ⟨q49, r49⟩ := and_e r48
  obtain ⟨q50, r50⟩ := and_e r49
  obtain ⟨q51, r51⟩ := and_e r50
  obtain ⟨q52, r52⟩ := and_e r51
  obtain ⟨q53, r53⟩ := and_e r52
  obtain ⟨q54, r54⟩ := and_e r53
  obtain ⟨q55, r55⟩ := and_e r54
  obtain ⟨q56, r56⟩ := and_e r55
  obtain ⟨q57, r57⟩ := and_e r56
  obtain ⟨q58, r58⟩ := and_e r57
  have q59 := r58
  obtain ⟨a0, ev0⟩ := exa_v q0
  obtain ⟨a1, ev1⟩ := exa_v q1
  obtain ⟨a2, ev2⟩ := exa_v q2
  obtain ⟨a3, ev3⟩ := exa_v q3
  obtain ⟨a4, ev4⟩ := exa_v q4
  obtain ⟨a5, ev5⟩ := exa_v q5
  obtain ⟨a6, ev6⟩ := exa_v q6
  obtain ⟨a7, ev7⟩ := exa_v q7
  obtain ⟨a8, ev8⟩ := exa_v q8
  obtain ⟨a9, ev9⟩ := exa_v q9
  obtain ⟨a10, ev10⟩ := exa_v q10
  obtain ⟨a11, ev11⟩ := exa_v q11
  obtain ⟨a12, ev12⟩ := exa_v q12
  obtain ⟨a13, ev13⟩ := exa_v q13
  obtain ⟨a14, ev14⟩ := exa_v q14
  obtain ⟨a15, ev15⟩ := exa_v q15
  obtain ⟨a16, ev16⟩ := exa_v q16
  obtain ⟨a17, ev17⟩ := exa_v q17
  obtain ⟨a18, ev18⟩ := exa_v q18
  obtain ⟨a19, ev19⟩ := exa_v q19
  obtain ⟨a20, ev20⟩ := exa_v q20
  obtain ⟨a21, ev21⟩ := exa_v q21
  obtain ⟨a22, ev22⟩ := exa_v q22
  obtain ⟨a23, ev23⟩ := exa_v q23
  obtain ⟨a24, ev24⟩ := exa_v q24
  obtain ⟨a25, ev25⟩ := exa_v q25
  obtain ⟨a26, ev26⟩ := exa_v q26
  obtain ⟨a27, ev27⟩ := exa_v q27
  obtain ⟨a28, ev28⟩ := exa_v q28
  obtain ⟨a29, ev29⟩ := exa_v q29
  refine ⟨fun | 0 => a0 | 1 => a1 | 2 => a2 | 3 => a3 | 4 => a4 | 5 => a5 | 6 => a6 | 7 => a7 | 8 => a8 | 9 => a9 | 10 => a10 | 11 => a11 | 12 => a12 | 13 => a13 | 14 => a14 | 15 => a15 | 16 => a16 | 17 => a17 | 18 => a18 | 19 => a19 | 20 => a20 | 21 => a21 | 22 => a22 | 23 => a23 | 24 => a24 | 25 => a25 | 26 => a26 | 27 => a27 | 28 => a28 | 29 => a29 | _ => 0, ?_⟩
  refine ⟨?_, ?_, ?_, ?_, ?_, ?_, ?_, ?_, ?_, ?_, ?_, ?_, ?_, ?_, ?_, ?_, ?_, ?_, ?_, ?_, ?_, ?_, ?_, ?_, ?_, ?_, ?_, ?_, ?_, ?_, ?_, ?_, ?_, ?_, ?_, ?_, ?_, ?_, ?_, ?_, ?_, ?_, ?_, ?_, ?_, ?_, ?_, ?_, ?_, ?_, ?_, ?_, ?_, ?_, ?_, ?_, ?_, ?_, ?_, ?_, ?_, ?_, ?_, ?_, ?_, ?_, ?_, ?_, ?_, ?_, ?_, ?_, ?_, ?_, ?_, ?_, ?_, ?_, ?_, ?_, ?_, ?_, ?_, ?_, ?_, ?_, ?_, ?_, ?_, ?_, trivial⟩
  · exact Exa.start ev0 q0
  · exact Exa.start ev1 q1
  · exact Exa.start ev2 q2
  · exact Exa.start ev3 q3
  · exact Exa.start ev4 q4
  · exact Exa.start ev5 q5
  · exact Exa.start ev6 q6
  · exact Exa.start ev7 q7
  · exact Exa.start ev8 q8
  · exact Exa.start ev9 q9
  · exact Exa.start ev10 q10
  · exact Exa.start ev11 q11
  · exact Exa.start ev12 q12
  · exact Exa.start ev13 q13
  · exact Exa.start ev14 q14
  · exact Exa.start ev15 q15
  · exact Exa.start ev16 q16
  · exact Exa.start ev17 q17
  · exact Exa.start ev18 q18
  · exact Exa.start ev19 q19
  · exact Exa.start ev20 q20
  · exact Exa.start ev21 q21
  · exact Exa.start ev22 q22
  · exact Exa.start ev23 q23
  · exact Exa.start ev24 q24
  · exact Exa.start ev25 q25
  · exact Exa.start ev26 q26
  · exact Exa.start ev27 q27
  · exact Exa.start ev28 q28
  · exact Exa.start ev29 q29
  · exact Sta.start ev0 (Or.inr ⟨(hw _ (List.mem_of_getElem? (i := 3) rfl)), (hw _ (List.mem_of_getElem? (i := 4) rfl))⟩)
  · exact Sta.start ev1 (Or.inr ⟨(hw _ (List.mem_of_getElem? (i := 3) rfl)), (hw _ (List.mem_of_getElem? (i := 7) rfl))⟩)
  · exact Sta.start ev2 (Or.inr ⟨(hw _ (List.mem_of_getElem? (i := 3) rfl)), (hw _ (List.mem_of_getElem? (i := 9) rfl))⟩)
  · exact Sta.start ev3 (Or.inr ⟨(hw _ (List.mem_of_getElem? (i := 3) rfl)), (hw _ (List.mem_of_getElem? (i := 11) rfl))⟩)
  · exact Sta.start ev4 (Or.inr ⟨(hw _ (List.mem_of_getElem? (i := 3) rfl)), (hw _ (List.mem_of_getElem? (i := 13) rfl))⟩)
  · exact Sta.start ev5 (Or.inr ⟨(hw _ (List.mem_of_getElem? (i := 3) rfl)), (hw _ (List.mem_of_getElem? (i := 15) rfl))⟩)
  · exact Sta.start ev6 (Or.inr ⟨(hw _ (List.mem_of_getElem? (i := 3) rfl)), (hw _ (List.mem_of_getElem? (i := 17) rfl))⟩)
  · exact Sta.start ev7 (Or.inr ⟨(hw _ (List.mem_of_getElem? (i := 3) rfl)), (hw _ (List.mem_of_getElem? (i := 19) rfl))⟩)
  · exact Sta.start ev8 (Or.inr ⟨(hw _ (List.mem_of_getElem? (i := 3) rfl)), (hw _ (List.mem_of_getElem? (i := 21) rfl))⟩)
  · exact Sta.start ev9 (Or.inr ⟨(hw _ (List.mem_of_getElem? (i := 3) rfl)), (hw _ (List.mem_of_getElem? (i := 23) rfl))⟩)
  · exact Sta.start ev10 (Or.inr ⟨(hw _ (List.mem_of_getElem? (i := 3) rfl)), (hw _ (List.mem_of_getElem? (i := 25) rfl))⟩)
  · exact Sta.start ev11 (Or.inr ⟨(hw _ (List.mem_of_getElem? (i := 3) rfl)), (hw _ (List.mem_of_getElem? (i := 27) rfl))⟩)
  · exact Sta.start ev12 (Or.inr ⟨(hw _ (List.mem_of_getElem? (i := 3) rfl)), (hw _ (List.mem_of_getElem? (i := 29) rfl))⟩)
  · exact Sta.start ev13 (Or.inr ⟨(hw _ (List.mem_of_getElem? (i := 3) rfl)), (hw _ (List.mem_of_getElem? (i := 31) rfl))⟩)
  · exact Sta.start ev14 (Or.inr ⟨(hw _ (List.mem_of_getElem? (i := 3) rfl)), (hw _ (List.mem_of_getElem? (i := 33) rfl))⟩)
  · exact Sta.start ev15 (Or.inr ⟨(hw _ (List.mem_of_getElem? (i := 3) rfl)), (hw _ (List.mem_of_getElem? (i := 35) rfl))⟩)
  · exact Sta.start ev16 (Or.inr ⟨(hw _ (List.mem_of_getElem? (i := 3) rfl)), (hw _ (List.mem_of_getElem? (i := 37) rfl))⟩)
  · exact Sta.start ev17 (Or.inr ⟨(hw _ (List.mem_of_getElem? (i := 3) rfl)), (hw _ (List.mem_of_getElem? (i := 39) rfl))⟩)
  · exact Sta.start ev18 (Or.inr ⟨(hw _ (List.mem_of_getElem? (i := 3) rfl)), (hw _ (List.mem_of_getElem? (i := 41) rfl))⟩)
  · exact Sta.start ev19 (Or.inr ⟨(hw _ (List.mem_of_getElem? (i := 3) rfl)), (hw _ (List.mem_of_getElem? (i := 43) rfl))⟩)
  · exact Sta.start ev20 (Or.inr ⟨(hw _ (List.mem_of_getElem? (i := 3) rfl)), (hw _ (List.mem_of_getElem? (i := 45) rfl))⟩)
  · exact Sta.start ev21 (Or.inr ⟨(hw _ (List.mem_of_getElem? (i := 3) rfl)), (hw _ (List.mem_of_getElem? (i := 47) rfl))⟩)
  · exact Sta.start ev22 (Or.inr ⟨(hw _ (List.mem_of_getElem? (i := 3) rfl)), (hw _ (List.mem_of_getElem? (i := 49) rfl))⟩)
  · exact Sta.start ev23 (Or.inr ⟨(hw _ (List.mem_of_getElem? (i := 3) rfl)), (hw _ (List.mem_of_getElem? (i := 51) rfl))⟩)
  · exact Sta.start ev24 (Or.inr ⟨(hw _ (List.mem_of_getElem? (i := 3) rfl)), (hw _ (List.mem_of_getElem? (i := 53) rfl))⟩)
  · exact Sta.start ev25 (Or.inr ⟨(hw _ (List.mem_of_getElem? (i := 3) rfl)), (hw _ (List.mem_of_getElem? (i := 55) rfl))⟩)
  · exact Sta.start ev26 (Or.inr ⟨(hw _ (List.mem_of_getElem? (i := 3) rfl)), (hw _ (List.mem_of_getElem? (i := 57) rfl))⟩)
  · exact Sta.start ev27 (Or.inr ⟨(hw _ (List.mem_of_getElem? (i := 3) rfl)), (hw _ (List.mem_of_getElem? (i := 59) rfl))⟩)
  · exact Sta.start ev28 (Or.inr ⟨(hw _ (List.mem_of_getElem? (i := 3) rfl)), (hw _ (List.mem_of_getElem? (i := 61) rfl))⟩)
  · exact Sta.start ev29 (Or.inr ⟨(hw _ (List.mem_of_getElem? (i := 3) rfl)), (hw _ (List.mem_of_getElem? (i := 63) rfl))⟩)
  · exact Fld.start ((fld_at ev0).symm.trans (own_eqI q30))
  · exact Fld.start ((fld_at ev12).symm.trans (own_eqI q31))
  · exact Fld.start ((fld_at ev13).symm.trans (own_eqI q32))
  · exact Fld.start ((fld_at ev14).symm.trans (own_eqI q33))
  · exact Fld.start ((fld_at ev15).symm.trans (own_eqI q34))
  · exact Fld.start ((fld_at ev3).symm.trans (own_eqI q35))
  · exact Fld.start ((fld_at ev20).symm.trans (own_eqI q36))
  · exact Fld.start ((fld_at ev21).symm.trans (own_eqI q37))
  · exact Fld.start ((fld_at ev7).symm.trans (own_eqI q38))
  · exact Fld.start ((fld_at ev2).symm.trans (own_eqI q39))
  · exact Fld.start ((fld_at ev11).symm.trans (own_eqI q40))
  · exact Fld.start ((fld_at ev10).symm.trans (own_eqI q41))
  · exact Fld.start ((fld_at ev8).symm.trans (own_eqI q42))
  · exact Fld.start ((fld_at ev1).symm.trans (own_eqI q43))
  · exact Fld.start ((fld_at ev29).symm.trans (own_eqI q44))
  · exact Fld.start ((fld_at ev25).symm.trans (own_eqI q45))
  · exact Fld.start ((fld_at ev16).symm.trans (own_eqI q46))
  · exact Fld.start ((fld_at ev27).symm.trans (own_eqI q47))
  · exact Fld.start ((fld_at ev19).symm.trans (own_eqI q48))
  · exact Fld.start ((fld_at ev26).symm.trans (own_eqI q49))
  · exact Fld.start ((fld_at ev18).symm.trans (own_eqI q50))
  · exact Fld.start ((fld_at ev5).symm.trans (own_eqI q51))
  · exact Fld.start ((fld_at ev6).symm.trans (own_eqI q52))
  · exact Fld.start ((fld_at ev9).symm.trans (own_eqI q53))
  · exact Fld.start ((fld_at ev17).symm.trans (own_eqI q54))
  · exact Fld.start ((fld_at ev28).symm.trans (own_eqI q55))
  · exact Fld.start ((fld_at ev4).symm.trans (own_eqI q56))
  · exact Fld.start ((fld_at ev22).symm.trans (own_eqI q57))
  · exact Fld.start ((fld_at ev24).symm.trans (own_eqI q58))
  · exact Fld.start ((fld_at ev23).symm.trans (own_eqI q59))
theorem own_mod (x : Int32) : (x &&& (2147483647 : Int32)) % (30 : Int32) = (0 : Int32) ∨ (x &&& (2147483647 : Int32)) % (30 : Int32) = (1 : Int32) ∨ (x &&& (2147483647 : Int32)) % (30 : Int32) = (2 : Int32) ∨ (x &&& (2147483647 : Int32)) % (30 : Int32) = (3 : Int32) ∨ (x &&& (2147483647 : Int32)) % (30 : Int32) = (4 : Int32) ∨ (x &&& (2147483647 : Int32)) % (30 : Int32) = (5 : Int32) ∨ (x &&& (2147483647 : Int32)) % (30 : Int32) = (6 : Int32) ∨ (x &&& (2147483647 : Int32)) % (30 : Int32) = (7 : Int32) ∨ (x &&& (2147483647 : Int32)) % (30 : Int32) = (8 : Int32) ∨ (x &&& (2147483647 : Int32)) % (30 : Int32) = (9 : Int32) ∨ (x &&& (2147483647 : Int32)) % (30 : Int32) = (10 : Int32) ∨ (x &&& (2147483647 : Int32)) % (30 : Int32) = (11 : Int32) ∨ (x &&& (2147483647 : Int32)) % (30 : Int32) = (12 : Int32) ∨ (x &&& (2147483647 : Int32)) % (30 : Int32) = (13 : Int32) ∨ (x &&& (2147483647 : Int32)) % (30 : Int32) = (14 : Int32) ∨ (x &&& (2147483647 : Int32)) % (30 : Int32) = (15 : Int32) ∨ (x &&& (2147483647 : Int32)) % (30 : Int32) = (16 : Int32) ∨ (x &&& (2147483647 : Int32)) % (30 : Int32) = (17 : Int32) ∨ (x &&& (2147483647 : Int32)) % (30 : Int32) = (18 : Int32) ∨ (x &&& (2147483647 : Int32)) % (30 : Int32) = (19 : Int32) ∨ (x &&& (2147483647 : Int32)) % (30 : Int32) = (20 : Int32) ∨ (x &&& (2147483647 : Int32)) % (30 : Int32) = (21 : Int32) ∨ (x &&& (2147483647 : Int32)) % (30 : Int32) = (22 : Int32) ∨ (x &&& (2147483647 : Int32)) % (30 : Int32) = (23 : Int32) ∨ (x &&& (2147483647 : Int32)) % (30 : Int32) = (24 : Int32) ∨ (x &&& (2147483647 : Int32)) % (30 : Int32) = (25 : Int32) ∨ (x &&& (2147483647 : Int32)) % (30 : Int32) = (26 : Int32) ∨ (x &&& (2147483647 : Int32)) % (30 : Int32) = (27 : Int32) ∨ (x &&& (2147483647 : Int32)) % (30 : Int32) = (28 : Int32) ∨ (x &&& (2147483647 : Int32)) % (30 : Int32) = (29 : Int32) := by
  have h0 : (x &&& (2147483647 : Int32)).toInt = x.toInt % 2 ^ 31 := Jvm.Kit.i32_mask x (2147483647 : Int32) (k := 31) (by decide) (by decide)
  have h1 : ((x &&& (2147483647 : Int32)) % (30 : Int32)).toInt = (x &&& (2147483647 : Int32)).toInt % (30 : Int32).toInt := Jvm.Kit.i32_rem_nonneg (by rw [h0]; omega)
  rw [h0, show (30 : Int32).toInt = 30 from rfl] at h1
  simp only [← Int32.toInt_inj, h1, Int32.reduceToInt]
  omega
set_option maxRecDepth 65536 in
set_option maxHeartbeats 40000000 in
theorem fill {p : Program} {l : Launch} {e : Env} {s : State} {m : MethodId} {args : Array Value} {below : List Frame} {meth : Method} {c : Code} {s₁ : State} {Z : State} {a0 : Array Value} (hw : ∀ d ∈ tables_1, d.before a0 Z = true) (ad : Nat → Addr) (NF : Facts Z ad) (h0 : Heap) (n0 : Nat) (Ol : Old Z n0 h0) (p0 : Int32)
    (X0 : Stand p l e room_1 s m args below meth c s₁ [] 0 0) (hx : p.tables.exec = Jvm.exec) (hZ : Z.Warmed39 s.vm) (hby : c.code = code) (hml : c.maxLocals = 5) (hown : s.vm.findClass "com/example/pivotlex/pivotlex/terminology/IssueCodeIsOfValueSetPinLaw" = some m.cls) (e0 : s₁.heap = h0) :
    ∃ (T' : State) (h' : Heap) (Lc : List Loc) (b : Addr) (k : ClassId), Stand p l e room_1 s m args below meth c T' Lc 1 30 ∧ T'.heap = h' ∧ Old Z n0 h' ∧ Keep h0 h' [] ∧ Fr n0 Lc ∧ Arv Z h' b k (.object "com/example/pivotlex/pivotlex/terminology/IssueCode") (30 : Int32) [(.ref (ad 0)), (.ref (ad 1)), (.ref (ad 2)), (.ref (ad 3)), (.ref (ad 4)), (.ref (ad 5)), (.ref (ad 6)), (.ref (ad 7)), (.ref (ad 8)), (.ref (ad 9)), (.ref (ad 10)), (.ref (ad 11)), (.ref (ad 12)), (.ref (ad 13)), (.ref (ad 14)), (.ref (ad 15)), (.ref (ad 16)), (.ref (ad 17)), (.ref (ad 18)), (.ref (ad 19)), (.ref (ad 20)), (.ref (ad 21)), (.ref (ad 22)), (.ref (ad 23)), (.ref (ad 24)), (.ref (ad 25)), (.ref (ad 26)), (.ref (ad 27)), (.ref (ad 28)), (.ref (ad 29))] .null ∧
      ∀ target, Steps p.tables e below (T'.setTop (mkF m 210 #[.val (.int p0), .val (.ref b), .unset, .unset, .unset] [])) target → Steps p.tables e below (s₁.setTop (mkF m 0 #[.val (.int p0), .unset, .unset, .unset, .unset] [])) target := by
  have N0 := Fr.nil n0
  obtain ⟨T1, h1, k1, X1, e1, E1, A1, O1, st1⟩ := newR X0 hx hZ hown (hw _ (List.mem_of_getElem? (i := 0) rfl)) (hw _ (List.mem_of_getElem? (i := 1) rfl)) e0 (g := (mkF m 2 #[.val (.int p0), .unset, .unset, .unset, .unset] [(.int (30 : Int32))])) rfl (hb hby at_2) rfl (by decide) (cap := 30) (by decide) (by decide) (by decide) (by decide)
  obtain ⟨b1, g1⟩ : ∃ z, z = h0.size := ⟨_, rfl⟩
  rw [← g1] at A1 st1
  have sz_b1 : h0.size ≤ b1 := Nat.le_trans ((Keep.refl h0 [])).1 (Nat.le_of_eq g1.symm)
  have g_b1 : n0 ≤ b1 := Nat.le_trans (Ol.1 ▸ Ol.2.1) (Nat.le_of_eq g1.symm)
  have Ol1 := Ol.ext E1
  have K1 : Keep h0 h1 [] := ((Keep.refl h0 [])).ext E1
  have V_b1 : Arv Z h1 b1 k1 (.object "com/example/pivotlex/pivotlex/terminology/IssueCode") (30 : Int32) [.null, .null, .null, .null, .null, .null, .null, .null, .null, .null, .null, .null, .null, .null, .null, .null, .null, .null, .null, .null, .null, .null, .null, .null, .null, .null, .null, .null, .null, .null] .null := (Arv.new A1 (by decide)).pad (pad_rep [] .null 30)
  obtain ⟨T2, X2, e2, st2⟩ := getS2 X1 hx hZ hown (host := "") (Or.inl (hw _ (List.mem_of_getElem? (i := 2) rfl))) Via.refl e1 ((ft_30 NF).ext Ol1.2) (g := (mkF m 7 #[.val (.int p0), .unset, .unset, .unset, .unset] [(.int (0 : Int32)), (.ref b1), (.ref b1)])) rfl (hb hby at_7)
  obtain ⟨cl3, Ar3, q3, S3, M3, H3, G3⟩ := id V_b1
  have hin3 : ¬ ((0 : Int32) < 0 ∨ cl3.slots.size ≤ ((0 : Int32)).toNatClampNeg) := inb_of S3 ⟨by decide, by decide⟩
  obtain ⟨T3, h3, X3, e3, W3, st3⟩ := stR X2 hx hZ e2 Ar3 (j := (0 : Int32)) hin3 rfl (Sto.ofV Ar3 q3 O1 (Ins.self ((ft_0 NF).ext Ol1.2))) (g := (mkF m 10 #[.val (.int p0), .unset, .unset, .unset, .unset] [(.ref (ad 0)), (.int (0 : Int32)), (.ref b1), (.ref b1)])) rfl rfl (hb hby at_10)
  have V3 : Arv Z h3 b1 k1 (.object "com/example/pivotlex/pivotlex/terminology/IssueCode") (30 : Int32) [(.ref (ad 0)), .null, .null, .null, .null, .null, .null, .null, .null, .null, .null, .null, .null, .null, .null, .null, .null, .null, .null, .null, .null, .null, .null, .null, .null, .null, .null, .null, .null, .null] .null := Arv.set Ar3 q3 S3 M3 H3 G3 rfl W3 0 rfl (Nat.le_of_ble_eq_true rfl)
  have Ol3 := Ol1.wr W3 g_b1
  have K3 : Keep h0 h3 [] := K1.wr W3 (Or.inr sz_b1)
  have N3 := Fr.snoc X3 N0 g_b1
  obtain ⟨T4, X4, e4, st4⟩ := getS2 X3 hx hZ hown (host := "") (Or.inl (hw _ (List.mem_of_getElem? (i := 6) rfl))) Via.refl e3 ((ft_31 NF).ext Ol3.2) (g := (mkF m 13 #[.val (.int p0), .unset, .unset, .unset, .unset] [(.int (1 : Int32)), (.ref b1), (.ref b1)])) rfl (hb hby at_13)
  obtain ⟨cl5, Ar5, q5, S5, M5, H5, G5⟩ := id V3
  have hin5 : ¬ ((1 : Int32) < 0 ∨ cl5.slots.size ≤ ((1 : Int32)).toNatClampNeg) := inb_of S5 ⟨by decide, by decide⟩
  obtain ⟨T5, h5, X5, e5, W5, st5⟩ := stR X4 hx hZ e4 Ar5 (j := (1 : Int32)) hin5 rfl (Sto.ofV Ar5 q5 O1 (Ins.self ((ft_1 NF).ext Ol3.2))) (g := (mkF m 16 #[.val (.int p0), .unset, .unset, .unset, .unset] [(.ref (ad 1)), (.int (1 : Int32)), (.ref b1), (.ref b1)])) rfl rfl (hb hby at_16)
  have V5 : Arv Z h5 b1 k1 (.object "com/example/pivotlex/pivotlex/terminology/IssueCode") (30 : Int32) [(.ref (ad 0)), (.ref (ad 1)), .null, .null, .null, .null, .null, .null, .null, .null, .null, .null, .null, .null, .null, .null, .null, .null, .null, .null, .null, .null, .null, .null, .null, .null, .null, .null, .null, .null] .null := Arv.set Ar5 q5 S5 M5 H5 G5 rfl W5 1 rfl (Nat.le_of_ble_eq_true rfl)
  have Ol5 := Ol3.wr W5 g_b1
  have K5 : Keep h0 h5 [] := K3.wr W5 (Or.inr sz_b1)
  have N5 := Fr.snoc X5 N3 g_b1
  obtain ⟨T6, X6, e6, st6⟩ := getS2 X5 hx hZ hown (host := "") (Or.inl (hw _ (List.mem_of_getElem? (i := 8) rfl))) Via.refl e5 ((ft_32 NF).ext Ol5.2) (g := (mkF m 19 #[.val (.int p0), .unset, .unset, .unset, .unset] [(.int (2 : Int32)), (.ref b1), (.ref b1)])) rfl (hb hby at_19)
  obtain ⟨cl7, Ar7, q7, S7, M7, H7, G7⟩ := id V5
  have hin7 : ¬ ((2 : Int32) < 0 ∨ cl7.slots.size ≤ ((2 : Int32)).toNatClampNeg) := inb_of S7 ⟨by decide, by decide⟩
  obtain ⟨T7, h7, X7, e7, W7, st7⟩ := stR X6 hx hZ e6 Ar7 (j := (2 : Int32)) hin7 rfl (Sto.ofV Ar7 q7 O1 (Ins.self ((ft_2 NF).ext Ol5.2))) (g := (mkF m 22 #[.val (.int p0), .unset, .unset, .unset, .unset] [(.ref (ad 2)), (.int (2 : Int32)), (.ref b1), (.ref b1)])) rfl rfl (hb hby at_22)
  have V7 : Arv Z h7 b1 k1 (.object "com/example/pivotlex/pivotlex/terminology/IssueCode") (30 : Int32) [(.ref (ad 0)), (.ref (ad 1)), (.ref (ad 2)), .null, .null, .null, .null, .null, .null, .null, .null, .null, .null, .null, .null, .null, .null, .null, .null, .null, .null, .null, .null, .null, .null, .null, .null, .null, .null, .null] .null := Arv.set Ar7 q7 S7 M7 H7 G7 rfl W7 2 rfl (Nat.le_of_ble_eq_true rfl)
  have Ol7 := Ol5.wr W7 g_b1
  have K7 : Keep h0 h7 [] := K5.wr W7 (Or.inr sz_b1)
  have N7 := Fr.snoc X7 N5 g_b1
  obtain ⟨T8, X8, e8, st8⟩ := getS2 X7 hx hZ hown (host := "") (Or.inl (hw _ (List.mem_of_getElem? (i := 10) rfl))) Via.refl e7 ((ft_33 NF).ext Ol7.2) (g := (mkF m 25 #[.val (.int p0), .unset, .unset, .unset, .unset] [(.int (3 : Int32)), (.ref b1), (.ref b1)])) rfl (hb hby at_25)
  obtain ⟨cl9, Ar9, q9, S9, M9, H9, G9⟩ := id V7
  have hin9 : ¬ ((3 : Int32) < 0 ∨ cl9.slots.size ≤ ((3 : Int32)).toNatClampNeg) := inb_of S9 ⟨by decide, by decide⟩
  obtain ⟨T9, h9, X9, e9, W9, st9⟩ := stR X8 hx hZ e8 Ar9 (j := (3 : Int32)) hin9 rfl (Sto.ofV Ar9 q9 O1 (Ins.self ((ft_3 NF).ext Ol7.2))) (g := (mkF m 28 #[.val (.int p0), .unset, .unset, .unset, .unset] [(.ref (ad 3)), (.int (3 : Int32)), (.ref b1), (.ref b1)])) rfl rfl (hb hby at_28)
  have V9 : Arv Z h9 b1 k1 (.object "com/example/pivotlex/pivotlex/terminology/IssueCode") (30 : Int32) [(.ref (ad 0)), (.ref (ad 1)), (.ref (ad 2)), (.ref (ad 3)), .null, .null, .null, .null, .null, .null, .null, .null, .null, .null, .null, .null, .null, .null, .null, .null, .null, .null, .null, .null, .null, .null, .null, .null, .null, .null] .null := Arv.set Ar9 q9 S9 M9 H9 G9 rfl W9 3 rfl (Nat.le_of_ble_eq_true rfl)
  have Ol9 := Ol7.wr W9 g_b1
  have K9 : Keep h0 h9 [] := K7.wr W9 (Or.inr sz_b1)
  have N9 := Fr.snoc X9 N7 g_b1
  obtain ⟨T10, X10, e10, st10⟩ := getS2 X9 hx hZ hown (host := "") (Or.inl (hw _ (List.mem_of_getElem? (i := 12) rfl))) Via.refl e9 ((ft_34 NF).ext Ol9.2) (g := (mkF m 31 #[.val (.int p0), .unset, .unset, .unset, .unset] [(.int (4 : Int32)), (.ref b1), (.ref b1)])) rfl (hb hby at_31)
  obtain ⟨cl11, Ar11, q11, S11, M11, H11, G11⟩ := id V9
  have hin11 : ¬ ((4 : Int32) < 0 ∨ cl11.slots.size ≤ ((4 : Int32)).toNatClampNeg) := inb_of S11 ⟨by decide, by decide⟩
  obtain ⟨T11, h11, X11, e11, W11, st11⟩ := stR X10 hx hZ e10 Ar11 (j := (4 : Int32)) hin11 rfl (Sto.ofV Ar11 q11 O1 (Ins.self ((ft_4 NF).ext Ol9.2))) (g := (mkF m 34 #[.val (.int p0), .unset, .unset, .unset, .unset] [(.ref (ad 4)), (.int (4 : Int32)), (.ref b1), (.ref b1)])) rfl rfl (hb hby at_34)
  have V11 : Arv Z h11 b1 k1 (.object "com/example/pivotlex/pivotlex/terminology/IssueCode") (30 : Int32) [(.ref (ad 0)), (.ref (ad 1)), (.ref (ad 2)), (.ref (ad 3)), (.ref (ad 4)), .null, .null, .null, .null, .null, .null, .null, .null, .null, .null, .null, .null, .null, .null, .null, .null, .null, .null, .null, .null, .null, .null, .null, .null, .null] .null := Arv.set Ar11 q11 S11 M11 H11 G11 rfl W11 4 rfl (Nat.le_of_ble_eq_true rfl)
  have Ol11 := Ol9.wr W11 g_b1
  have K11 : Keep h0 h11 [] := K9.wr W11 (Or.inr sz_b1)
  have N11 := Fr.snoc X11 N9 g_b1
  obtain ⟨T12, X12, e12, st12⟩ := getS2 X11 hx hZ hown (host := "") (Or.inl (hw _ (List.mem_of_getElem? (i := 14) rfl))) Via.refl e11 ((ft_35 NF).ext Ol11.2) (g := (mkF m 37 #[.val (.int p0), .unset, .unset, .unset, .unset] [(.int (5 : Int32)), (.ref b1), (.ref b1)])) rfl (hb hby at_37)
  obtain ⟨cl13, Ar13, q13, S13, M13, H13, G13⟩ := id V11
  have hin13 : ¬ ((5 : Int32) < 0 ∨ cl13.slots.size ≤ ((5 : Int32)).toNatClampNeg) := inb_of S13 ⟨by decide, by decide⟩
  obtain ⟨T13, h13, X13, e13, W13, st13⟩ := stR X12 hx hZ e12 Ar13 (j := (5 : Int32)) hin13 rfl (Sto.ofV Ar13 q13 O1 (Ins.self ((ft_5 NF).ext Ol11.2))) (g := (mkF m 40 #[.val (.int p0), .unset, .unset, .unset, .unset] [(.ref (ad 5)), (.int (5 : Int32)), (.ref b1), (.ref b1)])) rfl rfl (hb hby at_40)
  have V13 : Arv Z h13 b1 k1 (.object "com/example/pivotlex/pivotlex/terminology/IssueCode") (30 : Int32) [(.ref (ad 0)), (.ref (ad 1)), (.ref (ad 2)), (.ref (ad 3)), (.ref (ad 4)), (.ref (ad 5)), .null, .null, .null, .null, .null, .null, .null, .null, .null, .null, .null, .null, .null, .null, .null, .null, .null, .null, .null, .null, .null, .null, .null, .null] .null := Arv.set Ar13 q13 S13 M13 H13 G13 rfl W13 5 rfl (Nat.le_of_ble_eq_true rfl)
  have Ol13 := Ol11.wr W13 g_b1
  have K13 : Keep h0 h13 [] := K11.wr W13 (Or.inr sz_b1)
  have N13 := Fr.snoc X13 N11 g_b1
  obtain ⟨T14, X14, e14, st14⟩ := getS2 X13 hx hZ hown (host := "") (Or.inl (hw _ (List.mem_of_getElem? (i := 16) rfl))) Via.refl e13 ((ft_36 NF).ext Ol13.2) (g := (mkF m 44 #[.val (.int p0), .unset, .unset, .unset, .unset] [(.int (6 : Int32)), (.ref b1), (.ref b1)])) rfl (hb hby at_44)
  obtain ⟨cl15, Ar15, q15, S15, M15, H15, G15⟩ := id V13
  have hin15 : ¬ ((6 : Int32) < 0 ∨ cl15.slots.size ≤ ((6 : Int32)).toNatClampNeg) := inb_of S15 ⟨by decide, by decide⟩
  obtain ⟨T15, h15, X15, e15, W15, st15⟩ := stR X14 hx hZ e14 Ar15 (j := (6 : Int32)) hin15 rfl (Sto.ofV Ar15 q15 O1 (Ins.self ((ft_6 NF).ext Ol13.2))) (g := (mkF m 47 #[.val (.int p0), .unset, .unset, .unset, .unset] [(.ref (ad 6)), (.int (6 : Int32)), (.ref b1), (.ref b1)])) rfl rfl (hb hby at_47)
  have V15 : Arv Z h15 b1 k1 (.object "com/example/pivotlex/pivotlex/terminology/IssueCode") (30 : Int32) [(.ref (ad 0)), (.ref (ad 1)), (.ref (ad 2)), (.ref (ad 3)), (.ref (ad 4)), (.ref (ad 5)), (.ref (ad 6)), .null, .null, .null, .null, .null, .null, .null, .null, .null, .null, .null, .null, .null, .null, .null, .null, .null, .null, .null, .null, .null, .null, .null] .null := Arv.set Ar15 q15 S15 M15 H15 G15 rfl W15 6 rfl (Nat.le_of_ble_eq_true rfl)
  have Ol15 := Ol13.wr W15 g_b1
  have K15 : Keep h0 h15 [] := K13.wr W15 (Or.inr sz_b1)
  have N15 := Fr.snoc X15 N13 g_b1
  obtain ⟨T16, X16, e16, st16⟩ := getS2 X15 hx hZ hown (host := "") (Or.inl (hw _ (List.mem_of_getElem? (i := 18) rfl))) Via.refl e15 ((ft_37 NF).ext Ol15.2) (g := (mkF m 51 #[.val (.int p0), .unset, .unset, .unset, .unset] [(.int (7 : Int32)), (.ref b1), (.ref b1)])) rfl (hb hby at_51)
  obtain ⟨cl17, Ar17, q17, S17, M17, H17, G17⟩ := id V15
  have hin17 : ¬ ((7 : Int32) < 0 ∨ cl17.slots.size ≤ ((7 : Int32)).toNatClampNeg) := inb_of S17 ⟨by decide, by decide⟩
  obtain ⟨T17, h17, X17, e17, W17, st17⟩ := stR X16 hx hZ e16 Ar17 (j := (7 : Int32)) hin17 rfl (Sto.ofV Ar17 q17 O1 (Ins.self ((ft_7 NF).ext Ol15.2))) (g := (mkF m 54 #[.val (.int p0), .unset, .unset, .unset, .unset] [(.ref (ad 7)), (.int (7 : Int32)), (.ref b1), (.ref b1)])) rfl rfl (hb hby at_54)
  have V17 : Arv Z h17 b1 k1 (.object "com/example/pivotlex/pivotlex/terminology/IssueCode") (30 : Int32) [(.ref (ad 0)), (.ref (ad 1)), (.ref (ad 2)), (.ref (ad 3)), (.ref (ad 4)), (.ref (ad 5)), (.ref (ad 6)), (.ref (ad 7)), .null, .null, .null, .null, .null, .null, .null, .null, .null, .null, .null, .null, .null, .null, .null, .null, .null, .null, .null, .null, .null, .null] .null := Arv.set Ar17 q17 S17 M17 H17 G17 rfl W17 7 rfl (Nat.le_of_ble_eq_true rfl)
  have Ol17 := Ol15.wr W17 g_b1
  have K17 : Keep h0 h17 [] := K15.wr W17 (Or.inr sz_b1)
  have N17 := Fr.snoc X17 N15 g_b1
  obtain ⟨T18, X18, e18, st18⟩ := getS2 X17 hx hZ hown (host := "") (Or.inl (hw _ (List.mem_of_getElem? (i := 20) rfl))) Via.refl e17 ((ft_38 NF).ext Ol17.2) (g := (mkF m 58 #[.val (.int p0), .unset, .unset, .unset, .unset] [(.int (8 : Int32)), (.ref b1), (.ref b1)])) rfl (hb hby at_58)
  obtain ⟨cl19, Ar19, q19, S19, M19, H19, G19⟩ := id V17
  have hin19 : ¬ ((8 : Int32) < 0 ∨ cl19.slots.size ≤ ((8 : Int32)).toNatClampNeg) := inb_of S19 ⟨by decide, by decide⟩
  obtain ⟨T19, h19, X19, e19, W19, st19⟩ := stR X18 hx hZ e18 Ar19 (j := (8 : Int32)) hin19 rfl (Sto.ofV Ar19 q19 O1 (Ins.self ((ft_8 NF).ext Ol17.2))) (g := (mkF m 61 #[.val (.int p0), .unset, .unset, .unset, .unset] [(.ref (ad 8)), (.int (8 : Int32)), (.ref b1), (.ref b1)])) rfl rfl (hb hby at_61)
  have V19 : Arv Z h19 b1 k1 (.object "com/example/pivotlex/pivotlex/terminology/IssueCode") (30 : Int32) [(.ref (ad 0)), (.ref (ad 1)), (.ref (ad 2)), (.ref (ad 3)), (.ref (ad 4)), (.ref (ad 5)), (.ref (ad 6)), (.ref (ad 7)), (.ref (ad 8)), .null, .null, .null, .null, .null, .null, .null, .null, .null, .null, .null, .null, .null, .null, .null, .null, .null, .null, .null, .null, .null] .null := Arv.set Ar19 q19 S19 M19 H19 G19 rfl W19 8 rfl (Nat.le_of_ble_eq_true rfl)
  have Ol19 := Ol17.wr W19 g_b1
  have K19 : Keep h0 h19 [] := K17.wr W19 (Or.inr sz_b1)
  have N19 := Fr.snoc X19 N17 g_b1
  obtain ⟨T20, X20, e20, st20⟩ := getS2 X19 hx hZ hown (host := "") (Or.inl (hw _ (List.mem_of_getElem? (i := 22) rfl))) Via.refl e19 ((ft_39 NF).ext Ol19.2) (g := (mkF m 65 #[.val (.int p0), .unset, .unset, .unset, .unset] [(.int (9 : Int32)), (.ref b1), (.ref b1)])) rfl (hb hby at_65)
  obtain ⟨cl21, Ar21, q21, S21, M21, H21, G21⟩ := id V19
  have hin21 : ¬ ((9 : Int32) < 0 ∨ cl21.slots.size ≤ ((9 : Int32)).toNatClampNeg) := inb_of S21 ⟨by decide, by decide⟩
  obtain ⟨T21, h21, X21, e21, W21, st21⟩ := stR X20 hx hZ e20 Ar21 (j := (9 : Int32)) hin21 rfl (Sto.ofV Ar21 q21 O1 (Ins.self ((ft_9 NF).ext Ol19.2))) (g := (mkF m 68 #[.val (.int p0), .unset, .unset, .unset, .unset] [(.ref (ad 9)), (.int (9 : Int32)), (.ref b1), (.ref b1)])) rfl rfl (hb hby at_68)
  have V21 : Arv Z h21 b1 k1 (.object "com/example/pivotlex/pivotlex/terminology/IssueCode") (30 : Int32) [(.ref (ad 0)), (.ref (ad 1)), (.ref (ad 2)), (.ref (ad 3)), (.ref (ad 4)), (.ref (ad 5)), (.ref (ad 6)), (.ref (ad 7)), (.ref (ad 8)), (.ref (ad 9)), .null, .null, .null, .null, .null, .null, .null, .null, .null, .null, .null, .null, .null, .null, .null, .null, .null, .null, .null, .null] .null := Arv.set Ar21 q21 S21 M21 H21 G21 rfl W21 9 rfl (Nat.le_of_ble_eq_true rfl)
  have Ol21 := Ol19.wr W21 g_b1
  have K21 : Keep h0 h21 [] := K19.wr W21 (Or.inr sz_b1)
  have N21 := Fr.snoc X21 N19 g_b1
  obtain ⟨T22, X22, e22, st22⟩ := getS2 X21 hx hZ hown (host := "") (Or.inl (hw _ (List.mem_of_getElem? (i := 24) rfl))) Via.refl e21 ((ft_40 NF).ext Ol21.2) (g := (mkF m 72 #[.val (.int p0), .unset, .unset, .unset, .unset] [(.int (10 : Int32)), (.ref b1), (.ref b1)])) rfl (hb hby at_72)
  obtain ⟨cl23, Ar23, q23, S23, M23, H23, G23⟩ := id V21
  have hin23 : ¬ ((10 : Int32) < 0 ∨ cl23.slots.size ≤ ((10 : Int32)).toNatClampNeg) := inb_of S23 ⟨by decide, by decide⟩
  obtain ⟨T23, h23, X23, e23, W23, st23⟩ := stR X22 hx hZ e22 Ar23 (j := (10 : Int32)) hin23 rfl (Sto.ofV Ar23 q23 O1 (Ins.self ((ft_10 NF).ext Ol21.2))) (g := (mkF m 75 #[.val (.int p0), .unset, .unset, .unset, .unset] [(.ref (ad 10)), (.int (10 : Int32)), (.ref b1), (.ref b1)])) rfl rfl (hb hby at_75)
  have V23 : Arv Z h23 b1 k1 (.object "com/example/pivotlex/pivotlex/terminology/IssueCode") (30 : Int32) [(.ref (ad 0)), (.ref (ad 1)), (.ref (ad 2)), (.ref (ad 3)), (.ref (ad 4)), (.ref (ad 5)), (.ref (ad 6)), (.ref (ad 7)), (.ref (ad 8)), (.ref (ad 9)), (.ref (ad 10)), .null, .null, .null, .null, .null, .null, .null, .null, .null, .null, .null, .null, .null, .null, .null, .null, .null, .null, .null] .null := Arv.set Ar23 q23 S23 M23 H23 G23 rfl W23 10 rfl (Nat.le_of_ble_eq_true rfl)
  have Ol23 := Ol21.wr W23 g_b1
  have K23 : Keep h0 h23 [] := K21.wr W23 (Or.inr sz_b1)
  have N23 := Fr.snoc X23 N21 g_b1
  obtain ⟨T24, X24, e24, st24⟩ := getS2 X23 hx hZ hown (host := "") (Or.inl (hw _ (List.mem_of_getElem? (i := 26) rfl))) Via.refl e23 ((ft_41 NF).ext Ol23.2) (g := (mkF m 79 #[.val (.int p0), .unset, .unset, .unset, .unset] [(.int (11 : Int32)), (.ref b1), (.ref b1)])) rfl (hb hby at_79)
  obtain ⟨cl25, Ar25, q25, S25, M25, H25, G25⟩ := id V23
  have hin25 : ¬ ((11 : Int32) < 0 ∨ cl25.slots.size ≤ ((11 : Int32)).toNatClampNeg) := inb_of S25 ⟨by decide, by decide⟩
  obtain ⟨T25, h25, X25, e25, W25, st25⟩ := stR X24 hx hZ e24 Ar25 (j := (11 : Int32)) hin25 rfl (Sto.ofV Ar25 q25 O1 (Ins.self ((ft_11 NF).ext Ol23.2))) (g := (mkF m 82 #[.val (.int p0), .unset, .unset, .unset, .unset] [(.ref (ad 11)), (.int (11 : Int32)), (.ref b1), (.ref b1)])) rfl rfl (hb hby at_82)
  have V25 : Arv Z h25 b1 k1 (.object "com/example/pivotlex/pivotlex/terminology/IssueCode") (30 : Int32) [(.ref (ad 0)), (.ref (ad 1)), (.ref (ad 2)), (.ref (ad 3)), (.ref (ad 4)), (.ref (ad 5)), (.ref (ad 6)), (.ref (ad 7)), (.ref (ad 8)), (.ref (ad 9)), (.ref (ad 10)), (.ref (ad 11)), .null, .null, .null, .null, .null, .null, .null, .null, .null, .null, .null, .null, .null, .null, .null, .null, .null, .null] .null := Arv.set Ar25 q25 S25 M25 H25 G25 rfl W25 11 rfl (Nat.le_of_ble_eq_true rfl)
  have Ol25 := Ol23.wr W25 g_b1
  have K25 : Keep h0 h25 [] := K23.wr W25 (Or.inr sz_b1)
  have N25 := Fr.snoc X25 N23 g_b1
  obtain ⟨T26, X26, e26, st26⟩ := getS2 X25 hx hZ hown (host := "") (Or.inl (hw _ (List.mem_of_getElem? (i := 28) rfl))) Via.refl e25 ((ft_42 NF).ext Ol25.2) (g := (mkF m 86 #[.val (.int p0), .unset, .unset, .unset, .unset] [(.int (12 : Int32)), (.ref b1), (.ref b1)])) rfl (hb hby at_86)
  obtain ⟨cl27, Ar27, q27, S27, M27, H27, G27⟩ := id V25
  have hin27 : ¬ ((12 : Int32) < 0 ∨ cl27.slots.size ≤ ((12 : Int32)).toNatClampNeg) := inb_of S27 ⟨by decide, by decide⟩
  obtain ⟨T27, h27, X27, e27, W27, st27⟩ := stR X26 hx hZ e26 Ar27 (j := (12 : Int32)) hin27 rfl (Sto.ofV Ar27 q27 O1 (Ins.self ((ft_12 NF).ext Ol25.2))) (g := (mkF m 89 #[.val (.int p0), .unset, .unset, .unset, .unset] [(.ref (ad 12)), (.int (12 : Int32)), (.ref b1), (.ref b1)])) rfl rfl (hb hby at_89)
  have V27 : Arv Z h27 b1 k1 (.object "com/example/pivotlex/pivotlex/terminology/IssueCode") (30 : Int32) [(.ref (ad 0)), (.ref (ad 1)), (.ref (ad 2)), (.ref (ad 3)), (.ref (ad 4)), (.ref (ad 5)), (.ref (ad 6)), (.ref (ad 7)), (.ref (ad 8)), (.ref (ad 9)), (.ref (ad 10)), (.ref (ad 11)), (.ref (ad 12)), .null, .null, .null, .null, .null, .null, .null, .null, .null, .null, .null, .null, .null, .null, .null, .null, .null] .null := Arv.set Ar27 q27 S27 M27 H27 G27 rfl W27 12 rfl (Nat.le_of_ble_eq_true rfl)
  have Ol27 := Ol25.wr W27 g_b1
  have K27 : Keep h0 h27 [] := K25.wr W27 (Or.inr sz_b1)
  have N27 := Fr.snoc X27 N25 g_b1
  obtain ⟨T28, X28, e28, st28⟩ := getS2 X27 hx hZ hown (host := "") (Or.inl (hw _ (List.mem_of_getElem? (i := 30) rfl))) Via.refl e27 ((ft_43 NF).ext Ol27.2) (g := (mkF m 93 #[.val (.int p0), .unset, .unset, .unset, .unset] [(.int (13 : Int32)), (.ref b1), (.ref b1)])) rfl (hb hby at_93)
  obtain ⟨cl29, Ar29, q29, S29, M29, H29, G29⟩ := id V27
  have hin29 : ¬ ((13 : Int32) < 0 ∨ cl29.slots.size ≤ ((13 : Int32)).toNatClampNeg) := inb_of S29 ⟨by decide, by decide⟩
  obtain ⟨T29, h29, X29, e29, W29, st29⟩ := stR X28 hx hZ e28 Ar29 (j := (13 : Int32)) hin29 rfl (Sto.ofV Ar29 q29 O1 (Ins.self ((ft_13 NF).ext Ol27.2))) (g := (mkF m 96 #[.val (.int p0), .unset, .unset, .unset, .unset] [(.ref (ad 13)), (.int (13 : Int32)), (.ref b1), (.ref b1)])) rfl rfl (hb hby at_96)
  have V29 : Arv Z h29 b1 k1 (.object "com/example/pivotlex/pivotlex/terminology/IssueCode") (30 : Int32) [(.ref (ad 0)), (.ref (ad 1)), (.ref (ad 2)), (.ref (ad 3)), (.ref (ad 4)), (.ref (ad 5)), (.ref (ad 6)), (.ref (ad 7)), (.ref (ad 8)), (.ref (ad 9)), (.ref (ad 10)), (.ref (ad 11)), (.ref (ad 12)), (.ref (ad 13)), .null, .null, .null, .null, .null, .null, .null, .null, .null, .null, .null, .null, .null, .null, .null, .null] .null := Arv.set Ar29 q29 S29 M29 H29 G29 rfl W29 13 rfl (Nat.le_of_ble_eq_true rfl)
  have Ol29 := Ol27.wr W29 g_b1
  have K29 : Keep h0 h29 [] := K27.wr W29 (Or.inr sz_b1)
  have N29 := Fr.snoc X29 N27 g_b1
  obtain ⟨T30, X30, e30, st30⟩ := getS2 X29 hx hZ hown (host := "") (Or.inl (hw _ (List.mem_of_getElem? (i := 32) rfl))) Via.refl e29 ((ft_44 NF).ext Ol29.2) (g := (mkF m 100 #[.val (.int p0), .unset, .unset, .unset, .unset] [(.int (14 : Int32)), (.ref b1), (.ref b1)])) rfl (hb hby at_100)
  obtain ⟨cl31, Ar31, q31, S31, M31, H31, G31⟩ := id V29
  have hin31 : ¬ ((14 : Int32) < 0 ∨ cl31.slots.size ≤ ((14 : Int32)).toNatClampNeg) := inb_of S31 ⟨by decide, by decide⟩
  obtain ⟨T31, h31, X31, e31, W31, st31⟩ := stR X30 hx hZ e30 Ar31 (j := (14 : Int32)) hin31 rfl (Sto.ofV Ar31 q31 O1 (Ins.self ((ft_14 NF).ext Ol29.2))) (g := (mkF m 103 #[.val (.int p0), .unset, .unset, .unset, .unset] [(.ref (ad 14)), (.int (14 : Int32)), (.ref b1), (.ref b1)])) rfl rfl (hb hby at_103)
  have V31 : Arv Z h31 b1 k1 (.object "com/example/pivotlex/pivotlex/terminology/IssueCode") (30 : Int32) [(.ref (ad 0)), (.ref (ad 1)), (.ref (ad 2)), (.ref (ad 3)), (.ref (ad 4)), (.ref (ad 5)), (.ref (ad 6)), (.ref (ad 7)), (.ref (ad 8)), (.ref (ad 9)), (.ref (ad 10)), (.ref (ad 11)), (.ref (ad 12)), (.ref (ad 13)), (.ref (ad 14)), .null, .null, .null, .null, .null, .null, .null, .null, .null, .null, .null, .null, .null, .null, .null] .null := Arv.set Ar31 q31 S31 M31 H31 G31 rfl W31 14 rfl (Nat.le_of_ble_eq_true rfl)
  have Ol31 := Ol29.wr W31 g_b1
  have K31 : Keep h0 h31 [] := K29.wr W31 (Or.inr sz_b1)
  have N31 := Fr.snoc X31 N29 g_b1
  obtain ⟨T32, X32, e32, st32⟩ := getS2 X31 hx hZ hown (host := "") (Or.inl (hw _ (List.mem_of_getElem? (i := 34) rfl))) Via.refl e31 ((ft_45 NF).ext Ol31.2) (g := (mkF m 107 #[.val (.int p0), .unset, .unset, .unset, .unset] [(.int (15 : Int32)), (.ref b1), (.ref b1)])) rfl (hb hby at_107)
  obtain ⟨cl33, Ar33, q33, S33, M33, H33, G33⟩ := id V31
  have hin33 : ¬ ((15 : Int32) < 0 ∨ cl33.slots.size ≤ ((15 : Int32)).toNatClampNeg) := inb_of S33 ⟨by decide, by decide⟩
  obtain ⟨T33, h33, X33, e33, W33, st33⟩ := stR X32 hx hZ e32 Ar33 (j := (15 : Int32)) hin33 rfl (Sto.ofV Ar33 q33 O1 (Ins.self ((ft_15 NF).ext Ol31.2))) (g := (mkF m 110 #[.val (.int p0), .unset, .unset, .unset, .unset] [(.ref (ad 15)), (.int (15 : Int32)), (.ref b1), (.ref b1)])) rfl rfl (hb hby at_110)
  have V33 : Arv Z h33 b1 k1 (.object "com/example/pivotlex/pivotlex/terminology/IssueCode") (30 : Int32) [(.ref (ad 0)), (.ref (ad 1)), (.ref (ad 2)), (.ref (ad 3)), (.ref (ad 4)), (.ref (ad 5)), (.ref (ad 6)), (.ref (ad 7)), (.ref (ad 8)), (.ref (ad 9)), (.ref (ad 10)), (.ref (ad 11)), (.ref (ad 12)), (.ref (ad 13)), (.ref (ad 14)), (.ref (ad 15)), .null, .null, .null, .null, .null, .null, .null, .null, .null, .null, .null, .null, .null, .null] .null := Arv.set Ar33 q33 S33 M33 H33 G33 rfl W33 15 rfl (Nat.le_of_ble_eq_true rfl)
  have Ol33 := Ol31.wr W33 g_b1
  have K33 : Keep h0 h33 [] := K31.wr W33 (Or.inr sz_b1)
  have N33 := Fr.snoc X33 N31 g_b1
  obtain ⟨T34, X34, e34, st34⟩ := getS2 X33 hx hZ hown (host := "") (Or.inl (hw _ (List.mem_of_getElem? (i := 36) rfl))) Via.refl e33 ((ft_46 NF).ext Ol33.2) (g := (mkF m 114 #[.val (.int p0), .unset, .unset, .unset, .unset] [(.int (16 : Int32)), (.ref b1), (.ref b1)])) rfl (hb hby at_114)
  obtain ⟨cl35, Ar35, q35, S35, M35, H35, G35⟩ := id V33
  have hin35 : ¬ ((16 : Int32) < 0 ∨ cl35.slots.size ≤ ((16 : Int32)).toNatClampNeg) := inb_of S35 ⟨by decide, by decide⟩
  obtain ⟨T35, h35, X35, e35, W35, st35⟩ := stR X34 hx hZ e34 Ar35 (j := (16 : Int32)) hin35 rfl (Sto.ofV Ar35 q35 O1 (Ins.self ((ft_16 NF).ext Ol33.2))) (g := (mkF m 117 #[.val (.int p0), .unset, .unset, .unset, .unset] [(.ref (ad 16)), (.int (16 : Int32)), (.ref b1), (.ref b1)])) rfl rfl (hb hby at_117)
  have V35 : Arv Z h35 b1 k1 (.object "com/example/pivotlex/pivotlex/terminology/IssueCode") (30 : Int32) [(.ref (ad 0)), (.ref (ad 1)), (.ref (ad 2)), (.ref (ad 3)), (.ref (ad 4)), (.ref (ad 5)), (.ref (ad 6)), (.ref (ad 7)), (.ref (ad 8)), (.ref (ad 9)), (.ref (ad 10)), (.ref (ad 11)), (.ref (ad 12)), (.ref (ad 13)), (.ref (ad 14)), (.ref (ad 15)), (.ref (ad 16)), .null, .null, .null, .null, .null, .null, .null, .null, .null, .null, .null, .null, .null] .null := Arv.set Ar35 q35 S35 M35 H35 G35 rfl W35 16 rfl (Nat.le_of_ble_eq_true rfl)
  have Ol35 := Ol33.wr W35 g_b1
  have K35 : Keep h0 h35 [] := K33.wr W35 (Or.inr sz_b1)
  have N35 := Fr.snoc X35 N33 g_b1
  obtain ⟨T36, X36, e36, st36⟩ := getS2 X35 hx hZ hown (host := "") (Or.inl (hw _ (List.mem_of_getElem? (i := 38) rfl))) Via.refl e35 ((ft_47 NF).ext Ol35.2) (g := (mkF m 121 #[.val (.int p0), .unset, .unset, .unset, .unset] [(.int (17 : Int32)), (.ref b1), (.ref b1)])) rfl (hb hby at_121)
  obtain ⟨cl37, Ar37, q37, S37, M37, H37, G37⟩ := id V35
  have hin37 : ¬ ((17 : Int32) < 0 ∨ cl37.slots.size ≤ ((17 : Int32)).toNatClampNeg) := inb_of S37 ⟨by decide, by decide⟩
  obtain ⟨T37, h37, X37, e37, W37, st37⟩ := stR X36 hx hZ e36 Ar37 (j := (17 : Int32)) hin37 rfl (Sto.ofV Ar37 q37 O1 (Ins.self ((ft_17 NF).ext Ol35.2))) (g := (mkF m 124 #[.val (.int p0), .unset, .unset, .unset, .unset] [(.ref (ad 17)), (.int (17 : Int32)), (.ref b1), (.ref b1)])) rfl rfl (hb hby at_124)
  have V37 : Arv Z h37 b1 k1 (.object "com/example/pivotlex/pivotlex/terminology/IssueCode") (30 : Int32) [(.ref (ad 0)), (.ref (ad 1)), (.ref (ad 2)), (.ref (ad 3)), (.ref (ad 4)), (.ref (ad 5)), (.ref (ad 6)), (.ref (ad 7)), (.ref (ad 8)), (.ref (ad 9)), (.ref (ad 10)), (.ref (ad 11)), (.ref (ad 12)), (.ref (ad 13)), (.ref (ad 14)), (.ref (ad 15)), (.ref (ad 16)), (.ref (ad 17)), .null, .null, .null, .null, .null, .null, .null, .null, .null, .null, .null, .null] .null := Arv.set Ar37 q37 S37 M37 H37 G37 rfl W37 17 rfl (Nat.le_of_ble_eq_true rfl)
  have Ol37 := Ol35.wr W37 g_b1
  have K37 : Keep h0 h37 [] := K35.wr W37 (Or.inr sz_b1)
  have N37 := Fr.snoc X37 N35 g_b1
  obtain ⟨T38, X38, e38, st38⟩ := getS2 X37 hx hZ hown (host := "") (Or.inl (hw _ (List.mem_of_getElem? (i := 40) rfl))) Via.refl e37 ((ft_48 NF).ext Ol37.2) (g := (mkF m 128 #[.val (.int p0), .unset, .unset, .unset, .unset] [(.int (18 : Int32)), (.ref b1), (.ref b1)])) rfl (hb hby at_128)
  obtain ⟨cl39, Ar39, q39, S39, M39, H39, G39⟩ := id V37
  have hin39 : ¬ ((18 : Int32) < 0 ∨ cl39.slots.size ≤ ((18 : Int32)).toNatClampNeg) := inb_of S39 ⟨by decide, by decide⟩
  obtain ⟨T39, h39, X39, e39, W39, st39⟩ := stR X38 hx hZ e38 Ar39 (j := (18 : Int32)) hin39 rfl (Sto.ofV Ar39 q39 O1 (Ins.self ((ft_18 NF).ext Ol37.2))) (g := (mkF m 131 #[.val (.int p0), .unset, .unset, .unset, .unset] [(.ref (ad 18)), (.int (18 : Int32)), (.ref b1), (.ref b1)])) rfl rfl (hb hby at_131)
  have V39 : Arv Z h39 b1 k1 (.object "com/example/pivotlex/pivotlex/terminology/IssueCode") (30 : Int32) [(.ref (ad 0)), (.ref (ad 1)), (.ref (ad 2)), (.ref (ad 3)), (.ref (ad 4)), (.ref (ad 5)), (.ref (ad 6)), (.ref (ad 7)), (.ref (ad 8)), (.ref (ad 9)), (.ref (ad 10)), (.ref (ad 11)), (.ref (ad 12)), (.ref (ad 13)), (.ref (ad 14)), (.ref (ad 15)), (.ref (ad 16)), (.ref (ad 17)), (.ref (ad 18)), .null, .null, .null, .null, .null, .null, .null, .null, .null, .null, .null] .null := Arv.set Ar39 q39 S39 M39 H39 G39 rfl W39 18 rfl (Nat.le_of_ble_eq_true rfl)
  have Ol39 := Ol37.wr W39 g_b1
  have K39 : Keep h0 h39 [] := K37.wr W39 (Or.inr sz_b1)
  have N39 := Fr.snoc X39 N37 g_b1
  obtain ⟨T40, X40, e40, st40⟩ := getS2 X39 hx hZ hown (host := "") (Or.inl (hw _ (List.mem_of_getElem? (i := 42) rfl))) Via.refl e39 ((ft_49 NF).ext Ol39.2) (g := (mkF m 135 #[.val (.int p0), .unset, .unset, .unset, .unset] [(.int (19 : Int32)), (.ref b1), (.ref b1)])) rfl (hb hby at_135)
  obtain ⟨cl41, Ar41, q41, S41, M41, H41, G41⟩ := id V39
  have hin41 : ¬ ((19 : Int32) < 0 ∨ cl41.slots.size ≤ ((19 : Int32)).toNatClampNeg) := inb_of S41 ⟨by decide, by decide⟩
  obtain ⟨T41, h41, X41, e41, W41, st41⟩ := stR X40 hx hZ e40 Ar41 (j := (19 : Int32)) hin41 rfl (Sto.ofV Ar41 q41 O1 (Ins.self ((ft_19 NF).ext Ol39.2))) (g := (mkF m 138 #[.val (.int p0), .unset, .unset, .unset, .unset] [(.ref (ad 19)), (.int (19 : Int32)), (.ref b1), (.ref b1)])) rfl rfl (hb hby at_138)
  have V41 : Arv Z h41 b1 k1 (.object "com/example/pivotlex/pivotlex/terminology/IssueCode") (30 : Int32) [(.ref (ad 0)), (.ref (ad 1)), (.ref (ad 2)), (.ref (ad 3)), (.ref (ad 4)), (.ref (ad 5)), (.ref (ad 6)), (.ref (ad 7)), (.ref (ad 8)), (.ref (ad 9)), (.ref (ad 10)), (.ref (ad 11)), (.ref (ad 12)), (.ref (ad 13)), (.ref (ad 14)), (.ref (ad 15)), (.ref (ad 16)), (.ref (ad 17)), (.ref (ad 18)), (.ref (ad 19)), .null, .null, .null, .null, .null, .null, .null, .null, .null, .null] .null := Arv.set Ar41 q41 S41 M41 H41 G41 rfl W41 19 rfl (Nat.le_of_ble_eq_true rfl)
  have Ol41 := Ol39.wr W41 g_b1
  have K41 : Keep h0 h41 [] := K39.wr W41 (Or.inr sz_b1)
  have N41 := Fr.snoc X41 N39 g_b1
  obtain ⟨T42, X42, e42, st42⟩ := getS2 X41 hx hZ hown (host := "") (Or.inl (hw _ (List.mem_of_getElem? (i := 44) rfl))) Via.refl e41 ((ft_50 NF).ext Ol41.2) (g := (mkF m 142 #[.val (.int p0), .unset, .unset, .unset, .unset] [(.int (20 : Int32)), (.ref b1), (.ref b1)])) rfl (hb hby at_142)
  obtain ⟨cl43, Ar43, q43, S43, M43, H43, G43⟩ := id V41
  have hin43 : ¬ ((20 : Int32) < 0 ∨ cl43.slots.size ≤ ((20 : Int32)).toNatClampNeg) := inb_of S43 ⟨by decide, by decide⟩
  obtain ⟨T43, h43, X43, e43, W43, st43⟩ := stR X42 hx hZ e42 Ar43 (j := (20 : Int32)) hin43 rfl (Sto.ofV Ar43 q43 O1 (Ins.self ((ft_20 NF).ext Ol41.2))) (g := (mkF m 145 #[.val (.int p0), .unset, .unset, .unset, .unset] [(.ref (ad 20)), (.int (20 : Int32)), (.ref b1), (.ref b1)])) rfl rfl (hb hby at_145)
  have V43 : Arv Z h43 b1 k1 (.object "com/example/pivotlex/pivotlex/terminology/IssueCode") (30 : Int32) [(.ref (ad 0)), (.ref (ad 1)), (.ref (ad 2)), (.ref (ad 3)), (.ref (ad 4)), (.ref (ad 5)), (.ref (ad 6)), (.ref (ad 7)), (.ref (ad 8)), (.ref (ad 9)), (.ref (ad 10)), (.ref (ad 11)), (.ref (ad 12)), (.ref (ad 13)), (.ref (ad 14)), (.ref (ad 15)), (.ref (ad 16)), (.ref (ad 17)), (.ref (ad 18)), (.ref (ad 19)), (.ref (ad 20)), .null, .null, .null, .null, .null, .null, .null, .null, .null] .null := Arv.set Ar43 q43 S43 M43 H43 G43 rfl W43 20 rfl (Nat.le_of_ble_eq_true rfl)
  have Ol43 := Ol41.wr W43 g_b1
  have K43 : Keep h0 h43 [] := K41.wr W43 (Or.inr sz_b1)
  have N43 := Fr.snoc X43 N41 g_b1
  obtain ⟨T44, X44, e44, st44⟩ := getS2 X43 hx hZ hown (host := "") (Or.inl (hw _ (List.mem_of_getElem? (i := 46) rfl))) Via.refl e43 ((ft_51 NF).ext Ol43.2) (g := (mkF m 149 #[.val (.int p0), .unset, .unset, .unset, .unset] [(.int (21 : Int32)), (.ref b1), (.ref b1)])) rfl (hb hby at_149)
  obtain ⟨cl45, Ar45, q45, S45, M45, H45, G45⟩ := id V43
  have hin45 : ¬ ((21 : Int32) < 0 ∨ cl45.slots.size ≤ ((21 : Int32)).toNatClampNeg) := inb_of S45 ⟨by decide, by decide⟩
  obtain ⟨T45, h45, X45, e45, W45, st45⟩ := stR X44 hx hZ e44 Ar45 (j := (21 : Int32)) hin45 rfl (Sto.ofV Ar45 q45 O1 (Ins.self ((ft_21 NF).ext Ol43.2))) (g := (mkF m 152 #[.val (.int p0), .unset, .unset, .unset, .unset] [(.ref (ad 21)), (.int (21 : Int32)), (.ref b1), (.ref b1)])) rfl rfl (hb hby at_152)
  have V45 : Arv Z h45 b1 k1 (.object "com/example/pivotlex/pivotlex/terminology/IssueCode") (30 : Int32) [(.ref (ad 0)), (.ref (ad 1)), (.ref (ad 2)), (.ref (ad 3)), (.ref (ad 4)), (.ref (ad 5)), (.ref (ad 6)), (.ref (ad 7)), (.ref (ad 8)), (.ref (ad 9)), (.ref (ad 10)), (.ref (ad 11)), (.ref (ad 12)), (.ref (ad 13)), (.ref (ad 14)), (.ref (ad 15)), (.ref (ad 16)), (.ref (ad 17)), (.ref (ad 18)), (.ref (ad 19)), (.ref (ad 20)), (.ref (ad 21)), .null, .null, .null, .null, .null, .null, .null, .null] .null := Arv.set Ar45 q45 S45 M45 H45 G45 rfl W45 21 rfl (Nat.le_of_ble_eq_true rfl)
  have Ol45 := Ol43.wr W45 g_b1
  have K45 : Keep h0 h45 [] := K43.wr W45 (Or.inr sz_b1)
  have N45 := Fr.snoc X45 N43 g_b1
  obtain ⟨T46, X46, e46, st46⟩ := getS2 X45 hx hZ hown (host := "") (Or.inl (hw _ (List.mem_of_getElem? (i := 48) rfl))) Via.refl e45 ((ft_52 NF).ext Ol45.2) (g := (mkF m 156 #[.val (.int p0), .unset, .unset, .unset, .unset] [(.int (22 : Int32)), (.ref b1), (.ref b1)])) rfl (hb hby at_156)
  obtain ⟨cl47, Ar47, q47, S47, M47, H47, G47⟩ := id V45
  have hin47 : ¬ ((22 : Int32) < 0 ∨ cl47.slots.size ≤ ((22 : Int32)).toNatClampNeg) := inb_of S47 ⟨by decide, by decide⟩
  obtain ⟨T47, h47, X47, e47, W47, st47⟩ := stR X46 hx hZ e46 Ar47 (j := (22 : Int32)) hin47 rfl (Sto.ofV Ar47 q47 O1 (Ins.self ((ft_22 NF).ext Ol45.2))) (g := (mkF m 159 #[.val (.int p0), .unset, .unset, .unset, .unset] [(.ref (ad 22)), (.int (22 : Int32)), (.ref b1), (.ref b1)])) rfl rfl (hb hby at_159)
  have V47 : Arv Z h47 b1 k1 (.object "com/example/pivotlex/pivotlex/terminology/IssueCode") (30 : Int32) [(.ref (ad 0)), (.ref (ad 1)), (.ref (ad 2)), (.ref (ad 3)), (.ref (ad 4)), (.ref (ad 5)), (.ref (ad 6)), (.ref (ad 7)), (.ref (ad 8)), (.ref (ad 9)), (.ref (ad 10)), (.ref (ad 11)), (.ref (ad 12)), (.ref (ad 13)), (.ref (ad 14)), (.ref (ad 15)), (.ref (ad 16)), (.ref (ad 17)), (.ref (ad 18)), (.ref (ad 19)), (.ref (ad 20)), (.ref (ad 21)), (.ref (ad 22)), .null, .null, .null, .null, .null, .null, .null] .null := Arv.set Ar47 q47 S47 M47 H47 G47 rfl W47 22 rfl (Nat.le_of_ble_eq_true rfl)
  have Ol47 := Ol45.wr W47 g_b1
  have K47 : Keep h0 h47 [] := K45.wr W47 (Or.inr sz_b1)
  have N47 := Fr.snoc X47 N45 g_b1
  obtain ⟨T48, X48, e48, st48⟩ := getS2 X47 hx hZ hown (host := "") (Or.inl (hw _ (List.mem_of_getElem? (i := 50) rfl))) Via.refl e47 ((ft_53 NF).ext Ol47.2) (g := (mkF m 163 #[.val (.int p0), .unset, .unset, .unset, .unset] [(.int (23 : Int32)), (.ref b1), (.ref b1)])) rfl (hb hby at_163)
  obtain ⟨cl49, Ar49, q49, S49, M49, H49, G49⟩ := id V47
  have hin49 : ¬ ((23 : Int32) < 0 ∨ cl49.slots.size ≤ ((23 : Int32)).toNatClampNeg) := inb_of S49 ⟨by decide, by decide⟩
  obtain ⟨T49, h49, X49, e49, W49, st49⟩ := stR X48 hx hZ e48 Ar49 (j := (23 : Int32)) hin49 rfl (Sto.ofV Ar49 q49 O1 (Ins.self ((ft_23 NF).ext Ol47.2))) (g := (mkF m 166 #[.val (.int p0), .unset, .unset, .unset, .unset] [(.ref (ad 23)), (.int (23 : Int32)), (.ref b1), (.ref b1)])) rfl rfl (hb hby at_166)
  have V49 : Arv Z h49 b1 k1 (.object "com/example/pivotlex/pivotlex/terminology/IssueCode") (30 : Int32) [(.ref (ad 0)), (.ref (ad 1)), (.ref (ad 2)), (.ref (ad 3)), (.ref (ad 4)), (.ref (ad 5)), (.ref (ad 6)), (.ref (ad 7)), (.ref (ad 8)), (.ref (ad 9)), (.ref (ad 10)), (.ref (ad 11)), (.ref (ad 12)), (.ref (ad 13)), (.ref (ad 14)), (.ref (ad 15)), (.ref (ad 16)), (.ref (ad 17)), (.ref (ad 18)), (.ref (ad 19)), (.ref (ad 20)), (.ref (ad 21)), (.ref (ad 22)), (.ref (ad 23)), .null, .null, .null, .null, .null, .null] .null := Arv.set Ar49 q49 S49 M49 H49 G49 rfl W49 23 rfl (Nat.le_of_ble_eq_true rfl)
  have Ol49 := Ol47.wr W49 g_b1
  have K49 : Keep h0 h49 [] := K47.wr W49 (Or.inr sz_b1)
  have N49 := Fr.snoc X49 N47 g_b1
  obtain ⟨T50, X50, e50, st50⟩ := getS2 X49 hx hZ hown (host := "") (Or.inl (hw _ (List.mem_of_getElem? (i := 52) rfl))) Via.refl e49 ((ft_54 NF).ext Ol49.2) (g := (mkF m 170 #[.val (.int p0), .unset, .unset, .unset, .unset] [(.int (24 : Int32)), (.ref b1), (.ref b1)])) rfl (hb hby at_170)
  obtain ⟨cl51, Ar51, q51, S51, M51, H51, G51⟩ := id V49
  have hin51 : ¬ ((24 : Int32) < 0 ∨ cl51.slots.size ≤ ((24 : Int32)).toNatClampNeg) := inb_of S51 ⟨by decide, by decide⟩
  obtain ⟨T51, h51, X51, e51, W51, st51⟩ := stR X50 hx hZ e50 Ar51 (j := (24 : Int32)) hin51 rfl (Sto.ofV Ar51 q51 O1 (Ins.self ((ft_24 NF).ext Ol49.2))) (g := (mkF m 173 #[.val (.int p0), .unset, .unset, .unset, .unset] [(.ref (ad 24)), (.int (24 : Int32)), (.ref b1), (.ref b1)])) rfl rfl (hb hby at_173)
  have V51 : Arv Z h51 b1 k1 (.object "com/example/pivotlex/pivotlex/terminology/IssueCode") (30 : Int32) [(.ref (ad 0)), (.ref (ad 1)), (.ref (ad 2)), (.ref (ad 3)), (.ref (ad 4)), (.ref (ad 5)), (.ref (ad 6)), (.ref (ad 7)), (.ref (ad 8)), (.ref (ad 9)), (.ref (ad 10)), (.ref (ad 11)), (.ref (ad 12)), (.ref (ad 13)), (.ref (ad 14)), (.ref (ad 15)), (.ref (ad 16)), (.ref (ad 17)), (.ref (ad 18)), (.ref (ad 19)), (.ref (ad 20)), (.ref (ad 21)), (.ref (ad 22)), (.ref (ad 23)), (.ref (ad 24)), .null, .null, .null, .null, .null] .null := Arv.set Ar51 q51 S51 M51 H51 G51 rfl W51 24 rfl (Nat.le_of_ble_eq_true rfl)
  have Ol51 := Ol49.wr W51 g_b1
  have K51 : Keep h0 h51 [] := K49.wr W51 (Or.inr sz_b1)
  have N51 := Fr.snoc X51 N49 g_b1
  obtain ⟨T52, X52, e52, st52⟩ := getS2 X51 hx hZ hown (host := "") (Or.inl (hw _ (List.mem_of_getElem? (i := 54) rfl))) Via.refl e51 ((ft_55 NF).ext Ol51.2) (g := (mkF m 177 #[.val (.int p0), .unset, .unset, .unset, .unset] [(.int (25 : Int32)), (.ref b1), (.ref b1)])) rfl (hb hby at_177)
  obtain ⟨cl53, Ar53, q53, S53, M53, H53, G53⟩ := id V51
  have hin53 : ¬ ((25 : Int32) < 0 ∨ cl53.slots.size ≤ ((25 : Int32)).toNatClampNeg) := inb_of S53 ⟨by decide, by decide⟩
  obtain ⟨T53, h53, X53, e53, W53, st53⟩ := stR X52 hx hZ e52 Ar53 (j := (25 : Int32)) hin53 rfl (Sto.ofV Ar53 q53 O1 (Ins.self ((ft_25 NF).ext Ol51.2))) (g := (mkF m 180 #[.val (.int p0), .unset, .unset, .unset, .unset] [(.ref (ad 25)), (.int (25 : Int32)), (.ref b1), (.ref b1)])) rfl rfl (hb hby at_180)
  have V53 : Arv Z h53 b1 k1 (.object "com/example/pivotlex/pivotlex/terminology/IssueCode") (30 : Int32) [(.ref (ad 0)), (.ref (ad 1)), (.ref (ad 2)), (.ref (ad 3)), (.ref (ad 4)), (.ref (ad 5)), (.ref (ad 6)), (.ref (ad 7)), (.ref (ad 8)), (.ref (ad 9)), (.ref (ad 10)), (.ref (ad 11)), (.ref (ad 12)), (.ref (ad 13)), (.ref (ad 14)), (.ref (ad 15)), (.ref (ad 16)), (.ref (ad 17)), (.ref (ad 18)), (.ref (ad 19)), (.ref (ad 20)), (.ref (ad 21)), (.ref (ad 22)), (.ref (ad 23)), (.ref (ad 24)), (.ref (ad 25)), .null, .null, .null, .null] .null := Arv.set Ar53 q53 S53 M53 H53 G53 rfl W53 25 rfl (Nat.le_of_ble_eq_true rfl)
  have Ol53 := Ol51.wr W53 g_b1
  have K53 : Keep h0 h53 [] := K51.wr W53 (Or.inr sz_b1)
  have N53 := Fr.snoc X53 N51 g_b1
  obtain ⟨T54, X54, e54, st54⟩ := getS2 X53 hx hZ hown (host := "") (Or.inl (hw _ (List.mem_of_getElem? (i := 56) rfl))) Via.refl e53 ((ft_56 NF).ext Ol53.2) (g := (mkF m 184 #[.val (.int p0), .unset, .unset, .unset, .unset] [(.int (26 : Int32)), (.ref b1), (.ref b1)])) rfl (hb hby at_184)
  obtain ⟨cl55, Ar55, q55, S55, M55, H55, G55⟩ := id V53
  have hin55 : ¬ ((26 : Int32) < 0 ∨ cl55.slots.size ≤ ((26 : Int32)).toNatClampNeg) := inb_of S55 ⟨by decide, by decide⟩
  obtain ⟨T55, h55, X55, e55, W55, st55⟩ := stR X54 hx hZ e54 Ar55 (j := (26 : Int32)) hin55 rfl (Sto.ofV Ar55 q55 O1 (Ins.self ((ft_26 NF).ext Ol53.2))) (g := (mkF m 187 #[.val (.int p0), .unset, .unset, .unset, .unset] [(.ref (ad 26)), (.int (26 : Int32)), (.ref b1), (.ref b1)])) rfl rfl (hb hby at_187)
  have V55 : Arv Z h55 b1 k1 (.object "com/example/pivotlex/pivotlex/terminology/IssueCode") (30 : Int32) [(.ref (ad 0)), (.ref (ad 1)), (.ref (ad 2)), (.ref (ad 3)), (.ref (ad 4)), (.ref (ad 5)), (.ref (ad 6)), (.ref (ad 7)), (.ref (ad 8)), (.ref (ad 9)), (.ref (ad 10)), (.ref (ad 11)), (.ref (ad 12)), (.ref (ad 13)), (.ref (ad 14)), (.ref (ad 15)), (.ref (ad 16)), (.ref (ad 17)), (.ref (ad 18)), (.ref (ad 19)), (.ref (ad 20)), (.ref (ad 21)), (.ref (ad 22)), (.ref (ad 23)), (.ref (ad 24)), (.ref (ad 25)), (.ref (ad 26)), .null, .null, .null] .null := Arv.set Ar55 q55 S55 M55 H55 G55 rfl W55 26 rfl (Nat.le_of_ble_eq_true rfl)
  have Ol55 := Ol53.wr W55 g_b1
  have K55 : Keep h0 h55 [] := K53.wr W55 (Or.inr sz_b1)
  have N55 := Fr.snoc X55 N53 g_b1
  obtain ⟨T56, X56, e56, st56⟩ := getS2 X55 hx hZ hown (host := "") (Or.inl (hw _ (List.mem_of_getElem? (i := 58) rfl))) Via.refl e55 ((ft_57 NF).ext Ol55.2) (g := (mkF m 191 #[.val (.int p0), .unset, .unset, .unset, .unset] [(.int (27 : Int32)), (.ref b1), (.ref b1)])) rfl (hb hby at_191)
  obtain ⟨cl57, Ar57, q57, S57, M57, H57, G57⟩ := id V55
  have hin57 : ¬ ((27 : Int32) < 0 ∨ cl57.slots.size ≤ ((27 : Int32)).toNatClampNeg) := inb_of S57 ⟨by decide, by decide⟩
  obtain ⟨T57, h57, X57, e57, W57, st57⟩ := stR X56 hx hZ e56 Ar57 (j := (27 : Int32)) hin57 rfl (Sto.ofV Ar57 q57 O1 (Ins.self ((ft_27 NF).ext Ol55.2))) (g := (mkF m 194 #[.val (.int p0), .unset, .unset, .unset, .unset] [(.ref (ad 27)), (.int (27 : Int32)), (.ref b1), (.ref b1)])) rfl rfl (hb hby at_194)
  have V57 : Arv Z h57 b1 k1 (.object "com/example/pivotlex/pivotlex/terminology/IssueCode") (30 : Int32) [(.ref (ad 0)), (.ref (ad 1)), (.ref (ad 2)), (.ref (ad 3)), (.ref (ad 4)), (.ref (ad 5)), (.ref (ad 6)), (.ref (ad 7)), (.ref (ad 8)), (.ref (ad 9)), (.ref (ad 10)), (.ref (ad 11)), (.ref (ad 12)), (.ref (ad 13)), (.ref (ad 14)), (.ref (ad 15)), (.ref (ad 16)), (.ref (ad 17)), (.ref (ad 18)), (.ref (ad 19)), (.ref (ad 20)), (.ref (ad 21)), (.ref (ad 22)), (.ref (ad 23)), (.ref (ad 24)), (.ref (ad 25)), (.ref (ad 26)), (.ref (ad 27)), .null, .null] .null := Arv.set Ar57 q57 S57 M57 H57 G57 rfl W57 27 rfl (Nat.le_of_ble_eq_true rfl)
  have Ol57 := Ol55.wr W57 g_b1
  have K57 : Keep h0 h57 [] := K55.wr W57 (Or.inr sz_b1)
  have N57 := Fr.snoc X57 N55 g_b1
  obtain ⟨T58, X58, e58, st58⟩ := getS2 X57 hx hZ hown (host := "") (Or.inl (hw _ (List.mem_of_getElem? (i := 60) rfl))) Via.refl e57 ((ft_58 NF).ext Ol57.2) (g := (mkF m 198 #[.val (.int p0), .unset, .unset, .unset, .unset] [(.int (28 : Int32)), (.ref b1), (.ref b1)])) rfl (hb hby at_198)
  obtain ⟨cl59, Ar59, q59, S59, M59, H59, G59⟩ := id V57
  have hin59 : ¬ ((28 : Int32) < 0 ∨ cl59.slots.size ≤ ((28 : Int32)).toNatClampNeg) := inb_of S59 ⟨by decide, by decide⟩
  obtain ⟨T59, h59, X59, e59, W59, st59⟩ := stR X58 hx hZ e58 Ar59 (j := (28 : Int32)) hin59 rfl (Sto.ofV Ar59 q59 O1 (Ins.self ((ft_28 NF).ext Ol57.2))) (g := (mkF m 201 #[.val (.int p0), .unset, .unset, .unset, .unset] [(.ref (ad 28)), (.int (28 : Int32)), (.ref b1), (.ref b1)])) rfl rfl (hb hby at_201)
  have V59 : Arv Z h59 b1 k1 (.object "com/example/pivotlex/pivotlex/terminology/IssueCode") (30 : Int32) [(.ref (ad 0)), (.ref (ad 1)), (.ref (ad 2)), (.ref (ad 3)), (.ref (ad 4)), (.ref (ad 5)), (.ref (ad 6)), (.ref (ad 7)), (.ref (ad 8)), (.ref (ad 9)), (.ref (ad 10)), (.ref (ad 11)), (.ref (ad 12)), (.ref (ad 13)), (.ref (ad 14)), (.ref (ad 15)), (.ref (ad 16)), (.ref (ad 17)), (.ref (ad 18)), (.ref (ad 19)), (.ref (ad 20)), (.ref (ad 21)), (.ref (ad 22)), (.ref (ad 23)), (.ref (ad 24)), (.ref (ad 25)), (.ref (ad 26)), (.ref (ad 27)), (.ref (ad 28)), .null] .null := Arv.set Ar59 q59 S59 M59 H59 G59 rfl W59 28 rfl (Nat.le_of_ble_eq_true rfl)
  have Ol59 := Ol57.wr W59 g_b1
  have K59 : Keep h0 h59 [] := K57.wr W59 (Or.inr sz_b1)
  have N59 := Fr.snoc X59 N57 g_b1
  obtain ⟨T60, X60, e60, st60⟩ := getS2 X59 hx hZ hown (host := "") (Or.inl (hw _ (List.mem_of_getElem? (i := 62) rfl))) Via.refl e59 ((ft_59 NF).ext Ol59.2) (g := (mkF m 205 #[.val (.int p0), .unset, .unset, .unset, .unset] [(.int (29 : Int32)), (.ref b1), (.ref b1)])) rfl (hb hby at_205)
  obtain ⟨cl61, Ar61, q61, S61, M61, H61, G61⟩ := id V59
  have hin61 : ¬ ((29 : Int32) < 0 ∨ cl61.slots.size ≤ ((29 : Int32)).toNatClampNeg) := inb_of S61 ⟨by decide, by decide⟩
  obtain ⟨T61, h61, X61, e61, W61, st61⟩ := stR X60 hx hZ e60 Ar61 (j := (29 : Int32)) hin61 rfl (Sto.ofV Ar61 q61 O1 (Ins.self ((ft_29 NF).ext Ol59.2))) (g := (mkF m 208 #[.val (.int p0), .unset, .unset, .unset, .unset] [(.ref (ad 29)), (.int (29 : Int32)), (.ref b1), (.ref b1)])) rfl rfl (hb hby at_208)
  have V61 : Arv Z h61 b1 k1 (.object "com/example/pivotlex/pivotlex/terminology/IssueCode") (30 : Int32) [(.ref (ad 0)), (.ref (ad 1)), (.ref (ad 2)), (.ref (ad 3)), (.ref (ad 4)), (.ref (ad 5)), (.ref (ad 6)), (.ref (ad 7)), (.ref (ad 8)), (.ref (ad 9)), (.ref (ad 10)), (.ref (ad 11)), (.ref (ad 12)), (.ref (ad 13)), (.ref (ad 14)), (.ref (ad 15)), (.ref (ad 16)), (.ref (ad 17)), (.ref (ad 18)), (.ref (ad 19)), (.ref (ad 20)), (.ref (ad 21)), (.ref (ad 22)), (.ref (ad 23)), (.ref (ad 24)), (.ref (ad 25)), (.ref (ad 26)), (.ref (ad 27)), (.ref (ad 28)), (.ref (ad 29))] .null := Arv.set Ar61 q61 S61 M61 H61 G61 rfl W61 29 rfl (Nat.le_of_ble_eq_true rfl)
  have Ol61 := Ol59.wr W61 g_b1
  have K61 : Keep h0 h61 [] := K59.wr W61 (Or.inr sz_b1)
  have N61 := Fr.snoc X61 N59 g_b1
  refine ⟨T61, _, _, b1, _, X61, e61, Ol61, K61, N61, V61, fun target kt => ?_⟩
  show Steps p.tables e below (s₁.setTop (mkF m 0 #[.val (.int p0), .unset, .unset, .unset, .unset] [])) _
  refine XS.bipush X0.here hx rfl (hb hby at_0) ?_
  show Steps p.tables e below (s₁.setTop (mkF m 2 #[.val (.int p0), .unset, .unset, .unset, .unset] [(.int (30 : Int32))])) _
  refine st1 _ ?_
  show Steps p.tables e below (T1.setTop (mkF m 5 #[.val (.int p0), .unset, .unset, .unset, .unset] [(.ref b1)])) _
  refine XS.dup X1.here hx rfl (hb hby at_5) rfl rfl ?_
  show Steps p.tables e below (T1.setTop (mkF m 6 #[.val (.int p0), .unset, .unset, .unset, .unset] [(.ref b1), (.ref b1)])) _
  refine XS.iconst X1.here hx rfl (hb hby at_6) ?_
  show Steps p.tables e below (T1.setTop (mkF m 7 #[.val (.int p0), .unset, .unset, .unset, .unset] [(.int (0 : Int32)), (.ref b1), (.ref b1)])) _
  refine st2 _ ?_
  show Steps p.tables e below (T2.setTop (mkF m 10 #[.val (.int p0), .unset, .unset, .unset, .unset] [(.ref (ad 0)), (.int (0 : Int32)), (.ref b1), (.ref b1)])) _
  refine st3 _ ?_
  show Steps p.tables e below (T3.setTop (mkF m 11 #[.val (.int p0), .unset, .unset, .unset, .unset] [(.ref b1)])) _
  refine XS.dup X3.here hx rfl (hb hby at_11) rfl rfl ?_
  show Steps p.tables e below (T3.setTop (mkF m 12 #[.val (.int p0), .unset, .unset, .unset, .unset] [(.ref b1), (.ref b1)])) _
  refine XS.iconst X3.here hx rfl (hb hby at_12) ?_
  show Steps p.tables e below (T3.setTop (mkF m 13 #[.val (.int p0), .unset, .unset, .unset, .unset] [(.int (1 : Int32)), (.ref b1), (.ref b1)])) _
  refine st4 _ ?_
  show Steps p.tables e below (T4.setTop (mkF m 16 #[.val (.int p0), .unset, .unset, .unset, .unset] [(.ref (ad 1)), (.int (1 : Int32)), (.ref b1), (.ref b1)])) _
  refine st5 _ ?_
  show Steps p.tables e below (T5.setTop (mkF m 17 #[.val (.int p0), .unset, .unset, .unset, .unset] [(.ref b1)])) _
  refine XS.dup X5.here hx rfl (hb hby at_17) rfl rfl ?_
  show Steps p.tables e below (T5.setTop (mkF m 18 #[.val (.int p0), .unset, .unset, .unset, .unset] [(.ref b1), (.ref b1)])) _
  refine XS.iconst X5.here hx rfl (hb hby at_18) ?_
  show Steps p.tables e below (T5.setTop (mkF m 19 #[.val (.int p0), .unset, .unset, .unset, .unset] [(.int (2 : Int32)), (.ref b1), (.ref b1)])) _
  refine st6 _ ?_
  show Steps p.tables e below (T6.setTop (mkF m 22 #[.val (.int p0), .unset, .unset, .unset, .unset] [(.ref (ad 2)), (.int (2 : Int32)), (.ref b1), (.ref b1)])) _
  refine st7 _ ?_
  show Steps p.tables e below (T7.setTop (mkF m 23 #[.val (.int p0), .unset, .unset, .unset, .unset] [(.ref b1)])) _
  refine XS.dup X7.here hx rfl (hb hby at_23) rfl rfl ?_
  show Steps p.tables e below (T7.setTop (mkF m 24 #[.val (.int p0), .unset, .unset, .unset, .unset] [(.ref b1), (.ref b1)])) _
  refine XS.iconst X7.here hx rfl (hb hby at_24) ?_
  show Steps p.tables e below (T7.setTop (mkF m 25 #[.val (.int p0), .unset, .unset, .unset, .unset] [(.int (3 : Int32)), (.ref b1), (.ref b1)])) _
  refine st8 _ ?_
  show Steps p.tables e below (T8.setTop (mkF m 28 #[.val (.int p0), .unset, .unset, .unset, .unset] [(.ref (ad 3)), (.int (3 : Int32)), (.ref b1), (.ref b1)])) _
  refine st9 _ ?_
  show Steps p.tables e below (T9.setTop (mkF m 29 #[.val (.int p0), .unset, .unset, .unset, .unset] [(.ref b1)])) _
  refine XS.dup X9.here hx rfl (hb hby at_29) rfl rfl ?_
  show Steps p.tables e below (T9.setTop (mkF m 30 #[.val (.int p0), .unset, .unset, .unset, .unset] [(.ref b1), (.ref b1)])) _
  refine XS.iconst X9.here hx rfl (hb hby at_30) ?_
  show Steps p.tables e below (T9.setTop (mkF m 31 #[.val (.int p0), .unset, .unset, .unset, .unset] [(.int (4 : Int32)), (.ref b1), (.ref b1)])) _
  refine st10 _ ?_
  show Steps p.tables e below (T10.setTop (mkF m 34 #[.val (.int p0), .unset, .unset, .unset, .unset] [(.ref (ad 4)), (.int (4 : Int32)), (.ref b1), (.ref b1)])) _
  refine st11 _ ?_
  show Steps p.tables e below (T11.setTop (mkF m 35 #[.val (.int p0), .unset, .unset, .unset, .unset] [(.ref b1)])) _
  refine XS.dup X11.here hx rfl (hb hby at_35) rfl rfl ?_
  show Steps p.tables e below (T11.setTop (mkF m 36 #[.val (.int p0), .unset, .unset, .unset, .unset] [(.ref b1), (.ref b1)])) _
  refine XS.iconst X11.here hx rfl (hb hby at_36) ?_
  show Steps p.tables e below (T11.setTop (mkF m 37 #[.val (.int p0), .unset, .unset, .unset, .unset] [(.int (5 : Int32)), (.ref b1), (.ref b1)])) _
  refine st12 _ ?_
  show Steps p.tables e below (T12.setTop (mkF m 40 #[.val (.int p0), .unset, .unset, .unset, .unset] [(.ref (ad 5)), (.int (5 : Int32)), (.ref b1), (.ref b1)])) _
  refine st13 _ ?_
  show Steps p.tables e below (T13.setTop (mkF m 41 #[.val (.int p0), .unset, .unset, .unset, .unset] [(.ref b1)])) _
  refine XS.dup X13.here hx rfl (hb hby at_41) rfl rfl ?_
  show Steps p.tables e below (T13.setTop (mkF m 42 #[.val (.int p0), .unset, .unset, .unset, .unset] [(.ref b1), (.ref b1)])) _
  refine XS.bipush X13.here hx rfl (hb hby at_42) ?_
  show Steps p.tables e below (T13.setTop (mkF m 44 #[.val (.int p0), .unset, .unset, .unset, .unset] [(.int (6 : Int32)), (.ref b1), (.ref b1)])) _
  refine st14 _ ?_
  show Steps p.tables e below (T14.setTop (mkF m 47 #[.val (.int p0), .unset, .unset, .unset, .unset] [(.ref (ad 6)), (.int (6 : Int32)), (.ref b1), (.ref b1)])) _
  refine st15 _ ?_
  show Steps p.tables e below (T15.setTop (mkF m 48 #[.val (.int p0), .unset, .unset, .unset, .unset] [(.ref b1)])) _
  refine XS.dup X15.here hx rfl (hb hby at_48) rfl rfl ?_
  show Steps p.tables e below (T15.setTop (mkF m 49 #[.val (.int p0), .unset, .unset, .unset, .unset] [(.ref b1), (.ref b1)])) _
  refine XS.bipush X15.here hx rfl (hb hby at_49) ?_
  show Steps p.tables e below (T15.setTop (mkF m 51 #[.val (.int p0), .unset, .unset, .unset, .unset] [(.int (7 : Int32)), (.ref b1), (.ref b1)])) _
  refine st16 _ ?_
  show Steps p.tables e below (T16.setTop (mkF m 54 #[.val (.int p0), .unset, .unset, .unset, .unset] [(.ref (ad 7)), (.int (7 : Int32)), (.ref b1), (.ref b1)])) _
  refine st17 _ ?_
  show Steps p.tables e below (T17.setTop (mkF m 55 #[.val (.int p0), .unset, .unset, .unset, .unset] [(.ref b1)])) _
  refine XS.dup X17.here hx rfl (hb hby at_55) rfl rfl ?_
  show Steps p.tables e below (T17.setTop (mkF m 56 #[.val (.int p0), .unset, .unset, .unset, .unset] [(.ref b1), (.ref b1)])) _
  refine XS.bipush X17.here hx rfl (hb hby at_56) ?_
  show Steps p.tables e below (T17.setTop (mkF m 58 #[.val (.int p0), .unset, .unset, .unset, .unset] [(.int (8 : Int32)), (.ref b1), (.ref b1)])) _
  refine st18 _ ?_
  show Steps p.tables e below (T18.setTop (mkF m 61 #[.val (.int p0), .unset, .unset, .unset, .unset] [(.ref (ad 8)), (.int (8 : Int32)), (.ref b1), (.ref b1)])) _
  refine st19 _ ?_
  show Steps p.tables e below (T19.setTop (mkF m 62 #[.val (.int p0), .unset, .unset, .unset, .unset] [(.ref b1)])) _
  refine XS.dup X19.here hx rfl (hb hby at_62) rfl rfl ?_
  show Steps p.tables e below (T19.setTop (mkF m 63 #[.val (.int p0), .unset, .unset, .unset, .unset] [(.ref b1), (.ref b1)])) _
  refine XS.bipush X19.here hx rfl (hb hby at_63) ?_
  show Steps p.tables e below (T19.setTop (mkF m 65 #[.val (.int p0), .unset, .unset, .unset, .unset] [(.int (9 : Int32)), (.ref b1), (.ref b1)])) _
  refine st20 _ ?_
  show Steps p.tables e below (T20.setTop (mkF m 68 #[.val (.int p0), .unset, .unset, .unset, .unset] [(.ref (ad 9)), (.int (9 : Int32)), (.ref b1), (.ref b1)])) _
  refine st21 _ ?_
  show Steps p.tables e below (T21.setTop (mkF m 69 #[.val (.int p0), .unset, .unset, .unset, .unset] [(.ref b1)])) _
  refine XS.dup X21.here hx rfl (hb hby at_69) rfl rfl ?_
  show Steps p.tables e below (T21.setTop (mkF m 70 #[.val (.int p0), .unset, .unset, .unset, .unset] [(.ref b1), (.ref b1)])) _
  refine XS.bipush X21.here hx rfl (hb hby at_70) ?_
  show Steps p.tables e below (T21.setTop (mkF m 72 #[.val (.int p0), .unset, .unset, .unset, .unset] [(.int (10 : Int32)), (.ref b1), (.ref b1)])) _
  refine st22 _ ?_
  show Steps p.tables e below (T22.setTop (mkF m 75 #[.val (.int p0), .unset, .unset, .unset, .unset] [(.ref (ad 10)), (.int (10 : Int32)), (.ref b1), (.ref b1)])) _
  refine st23 _ ?_
  show Steps p.tables e below (T23.setTop (mkF m 76 #[.val (.int p0), .unset, .unset, .unset, .unset] [(.ref b1)])) _
  refine XS.dup X23.here hx rfl (hb hby at_76) rfl rfl ?_
  show Steps p.tables e below (T23.setTop (mkF m 77 #[.val (.int p0), .unset, .unset, .unset, .unset] [(.ref b1), (.ref b1)])) _
  refine XS.bipush X23.here hx rfl (hb hby at_77) ?_
  show Steps p.tables e below (T23.setTop (mkF m 79 #[.val (.int p0), .unset, .unset, .unset, .unset] [(.int (11 : Int32)), (.ref b1), (.ref b1)])) _
  refine st24 _ ?_
  show Steps p.tables e below (T24.setTop (mkF m 82 #[.val (.int p0), .unset, .unset, .unset, .unset] [(.ref (ad 11)), (.int (11 : Int32)), (.ref b1), (.ref b1)])) _
  refine st25 _ ?_
  show Steps p.tables e below (T25.setTop (mkF m 83 #[.val (.int p0), .unset, .unset, .unset, .unset] [(.ref b1)])) _
  refine XS.dup X25.here hx rfl (hb hby at_83) rfl rfl ?_
  show Steps p.tables e below (T25.setTop (mkF m 84 #[.val (.int p0), .unset, .unset, .unset, .unset] [(.ref b1), (.ref b1)])) _
  refine XS.bipush X25.here hx rfl (hb hby at_84) ?_
  show Steps p.tables e below (T25.setTop (mkF m 86 #[.val (.int p0), .unset, .unset, .unset, .unset] [(.int (12 : Int32)), (.ref b1), (.ref b1)])) _
  refine st26 _ ?_
  show Steps p.tables e below (T26.setTop (mkF m 89 #[.val (.int p0), .unset, .unset, .unset, .unset] [(.ref (ad 12)), (.int (12 : Int32)), (.ref b1), (.ref b1)])) _
  refine st27 _ ?_
  show Steps p.tables e below (T27.setTop (mkF m 90 #[.val (.int p0), .unset, .unset, .unset, .unset] [(.ref b1)])) _
  refine XS.dup X27.here hx rfl (hb hby at_90) rfl rfl ?_
  show Steps p.tables e below (T27.setTop (mkF m 91 #[.val (.int p0), .unset, .unset, .unset, .unset] [(.ref b1), (.ref b1)])) _
  refine XS.bipush X27.here hx rfl (hb hby at_91) ?_
  show Steps p.tables e below (T27.setTop (mkF m 93 #[.val (.int p0), .unset, .unset, .unset, .unset] [(.int (13 : Int32)), (.ref b1), (.ref b1)])) _
  refine st28 _ ?_
  show Steps p.tables e below (T28.setTop (mkF m 96 #[.val (.int p0), .unset, .unset, .unset, .unset] [(.ref (ad 13)), (.int (13 : Int32)), (.ref b1), (.ref b1)])) _
  refine st29 _ ?_
  show Steps p.tables e below (T29.setTop (mkF m 97 #[.val (.int p0), .unset, .unset, .unset, .unset] [(.ref b1)])) _
  refine XS.dup X29.here hx rfl (hb hby at_97) rfl rfl ?_
  show Steps p.tables e below (T29.setTop (mkF m 98 #[.val (.int p0), .unset, .unset, .unset, .unset] [(.ref b1), (.ref b1)])) _
  refine XS.bipush X29.here hx rfl (hb hby at_98) ?_
  show Steps p.tables e below (T29.setTop (mkF m 100 #[.val (.int p0), .unset, .unset, .unset, .unset] [(.int (14 : Int32)), (.ref b1), (.ref b1)])) _
  refine st30 _ ?_
  show Steps p.tables e below (T30.setTop (mkF m 103 #[.val (.int p0), .unset, .unset, .unset, .unset] [(.ref (ad 14)), (.int (14 : Int32)), (.ref b1), (.ref b1)])) _
  refine st31 _ ?_
  show Steps p.tables e below (T31.setTop (mkF m 104 #[.val (.int p0), .unset, .unset, .unset, .unset] [(.ref b1)])) _
  refine XS.dup X31.here hx rfl (hb hby at_104) rfl rfl ?_
  show Steps p.tables e below (T31.setTop (mkF m 105 #[.val (.int p0), .unset, .unset, .unset, .unset] [(.ref b1), (.ref b1)])) _
  refine XS.bipush X31.here hx rfl (hb hby at_105) ?_
  show Steps p.tables e below (T31.setTop (mkF m 107 #[.val (.int p0), .unset, .unset, .unset, .unset] [(.int (15 : Int32)), (.ref b1), (.ref b1)])) _
  refine st32 _ ?_
  show Steps p.tables e below (T32.setTop (mkF m 110 #[.val (.int p0), .unset, .unset, .unset, .unset] [(.ref (ad 15)), (.int (15 : Int32)), (.ref b1), (.ref b1)])) _
  refine st33 _ ?_
  show Steps p.tables e below (T33.setTop (mkF m 111 #[.val (.int p0), .unset, .unset, .unset, .unset] [(.ref b1)])) _
  refine XS.dup X33.here hx rfl (hb hby at_111) rfl rfl ?_
  show Steps p.tables e below (T33.setTop (mkF m 112 #[.val (.int p0), .unset, .unset, .unset, .unset] [(.ref b1), (.ref b1)])) _
  refine XS.bipush X33.here hx rfl (hb hby at_112) ?_
  show Steps p.tables e below (T33.setTop (mkF m 114 #[.val (.int p0), .unset, .unset, .unset, .unset] [(.int (16 : Int32)), (.ref b1), (.ref b1)])) _
  refine st34 _ ?_
  show Steps p.tables e below (T34.setTop (mkF m 117 #[.val (.int p0), .unset, .unset, .unset, .unset] [(.ref (ad 16)), (.int (16 : Int32)), (.ref b1), (.ref b1)])) _
  refine st35 _ ?_
  show Steps p.tables e below (T35.setTop (mkF m 118 #[.val (.int p0), .unset, .unset, .unset, .unset] [(.ref b1)])) _
  refine XS.dup X35.here hx rfl (hb hby at_118) rfl rfl ?_
  show Steps p.tables e below (T35.setTop (mkF m 119 #[.val (.int p0), .unset, .unset, .unset, .unset] [(.ref b1), (.ref b1)])) _
  refine XS.bipush X35.here hx rfl (hb hby at_119) ?_
  show Steps p.tables e below (T35.setTop (mkF m 121 #[.val (.int p0), .unset, .unset, .unset, .unset] [(.int (17 : Int32)), (.ref b1), (.ref b1)])) _
  refine st36 _ ?_
  show Steps p.tables e below (T36.setTop (mkF m 124 #[.val (.int p0), .unset, .unset, .unset, .unset] [(.ref (ad 17)), (.int (17 : Int32)), (.ref b1), (.ref b1)])) _
  refine st37 _ ?_
  show Steps p.tables e below (T37.setTop (mkF m 125 #[.val (.int p0), .unset, .unset, .unset, .unset] [(.ref b1)])) _
  refine XS.dup X37.here hx rfl (hb hby at_125) rfl rfl ?_
  show Steps p.tables e below (T37.setTop (mkF m 126 #[.val (.int p0), .unset, .unset, .unset, .unset] [(.ref b1), (.ref b1)])) _
  refine XS.bipush X37.here hx rfl (hb hby at_126) ?_
  show Steps p.tables e below (T37.setTop (mkF m 128 #[.val (.int p0), .unset, .unset, .unset, .unset] [(.int (18 : Int32)), (.ref b1), (.ref b1)])) _
  refine st38 _ ?_
  show Steps p.tables e below (T38.setTop (mkF m 131 #[.val (.int p0), .unset, .unset, .unset, .unset] [(.ref (ad 18)), (.int (18 : Int32)), (.ref b1), (.ref b1)])) _
  refine st39 _ ?_
  show Steps p.tables e below (T39.setTop (mkF m 132 #[.val (.int p0), .unset, .unset, .unset, .unset] [(.ref b1)])) _
  refine XS.dup X39.here hx rfl (hb hby at_132) rfl rfl ?_
  show Steps p.tables e below (T39.setTop (mkF m 133 #[.val (.int p0), .unset, .unset, .unset, .unset] [(.ref b1), (.ref b1)])) _
  refine XS.bipush X39.here hx rfl (hb hby at_133) ?_
  show Steps p.tables e below (T39.setTop (mkF m 135 #[.val (.int p0), .unset, .unset, .unset, .unset] [(.int (19 : Int32)), (.ref b1), (.ref b1)])) _
  refine st40 _ ?_
  show Steps p.tables e below (T40.setTop (mkF m 138 #[.val (.int p0), .unset, .unset, .unset, .unset] [(.ref (ad 19)), (.int (19 : Int32)), (.ref b1), (.ref b1)])) _
  refine st41 _ ?_
  show Steps p.tables e below (T41.setTop (mkF m 139 #[.val (.int p0), .unset, .unset, .unset, .unset] [(.ref b1)])) _
  refine XS.dup X41.here hx rfl (hb hby at_139) rfl rfl ?_
  show Steps p.tables e below (T41.setTop (mkF m 140 #[.val (.int p0), .unset, .unset, .unset, .unset] [(.ref b1), (.ref b1)])) _
  refine XS.bipush X41.here hx rfl (hb hby at_140) ?_
  show Steps p.tables e below (T41.setTop (mkF m 142 #[.val (.int p0), .unset, .unset, .unset, .unset] [(.int (20 : Int32)), (.ref b1), (.ref b1)])) _
  refine st42 _ ?_
  show Steps p.tables e below (T42.setTop (mkF m 145 #[.val (.int p0), .unset, .unset, .unset, .unset] [(.ref (ad 20)), (.int (20 : Int32)), (.ref b1), (.ref b1)])) _
  refine st43 _ ?_
  show Steps p.tables e below (T43.setTop (mkF m 146 #[.val (.int p0), .unset, .unset, .unset, .unset] [(.ref b1)])) _
  refine XS.dup X43.here hx rfl (hb hby at_146) rfl rfl ?_
  show Steps p.tables e below (T43.setTop (mkF m 147 #[.val (.int p0), .unset, .unset, .unset, .unset] [(.ref b1), (.ref b1)])) _
  refine XS.bipush X43.here hx rfl (hb hby at_147) ?_
  show Steps p.tables e below (T43.setTop (mkF m 149 #[.val (.int p0), .unset, .unset, .unset, .unset] [(.int (21 : Int32)), (.ref b1), (.ref b1)])) _
  refine st44 _ ?_
  show Steps p.tables e below (T44.setTop (mkF m 152 #[.val (.int p0), .unset, .unset, .unset, .unset] [(.ref (ad 21)), (.int (21 : Int32)), (.ref b1), (.ref b1)])) _
  refine st45 _ ?_
  show Steps p.tables e below (T45.setTop (mkF m 153 #[.val (.int p0), .unset, .unset, .unset, .unset] [(.ref b1)])) _
  refine XS.dup X45.here hx rfl (hb hby at_153) rfl rfl ?_
  show Steps p.tables e below (T45.setTop (mkF m 154 #[.val (.int p0), .unset, .unset, .unset, .unset] [(.ref b1), (.ref b1)])) _
  refine XS.bipush X45.here hx rfl (hb hby at_154) ?_
  show Steps p.tables e below (T45.setTop (mkF m 156 #[.val (.int p0), .unset, .unset, .unset, .unset] [(.int (22 : Int32)), (.ref b1), (.ref b1)])) _
  refine st46 _ ?_
  show Steps p.tables e below (T46.setTop (mkF m 159 #[.val (.int p0), .unset, .unset, .unset, .unset] [(.ref (ad 22)), (.int (22 : Int32)), (.ref b1), (.ref b1)])) _
  refine st47 _ ?_
  show Steps p.tables e below (T47.setTop (mkF m 160 #[.val (.int p0), .unset, .unset, .unset, .unset] [(.ref b1)])) _
  refine XS.dup X47.here hx rfl (hb hby at_160) rfl rfl ?_
  show Steps p.tables e below (T47.setTop (mkF m 161 #[.val (.int p0), .unset, .unset, .unset, .unset] [(.ref b1), (.ref b1)])) _
  refine XS.bipush X47.here hx rfl (hb hby at_161) ?_
  show Steps p.tables e below (T47.setTop (mkF m 163 #[.val (.int p0), .unset, .unset, .unset, .unset] [(.int (23 : Int32)), (.ref b1), (.ref b1)])) _
  refine st48 _ ?_
  show Steps p.tables e below (T48.setTop (mkF m 166 #[.val (.int p0), .unset, .unset, .unset, .unset] [(.ref (ad 23)), (.int (23 : Int32)), (.ref b1), (.ref b1)])) _
  refine st49 _ ?_
  show Steps p.tables e below (T49.setTop (mkF m 167 #[.val (.int p0), .unset, .unset, .unset, .unset] [(.ref b1)])) _
  refine XS.dup X49.here hx rfl (hb hby at_167) rfl rfl ?_
  show Steps p.tables e below (T49.setTop (mkF m 168 #[.val (.int p0), .unset, .unset, .unset, .unset] [(.ref b1), (.ref b1)])) _
  refine XS.bipush X49.here hx rfl (hb hby at_168) ?_
  show Steps p.tables e below (T49.setTop (mkF m 170 #[.val (.int p0), .unset, .unset, .unset, .unset] [(.int (24 : Int32)), (.ref b1), (.ref b1)])) _
  refine st50 _ ?_
  show Steps p.tables e below (T50.setTop (mkF m 173 #[.val (.int p0), .unset, .unset, .unset, .unset] [(.ref (ad 24)), (.int (24 : Int32)), (.ref b1), (.ref b1)])) _
  refine st51 _ ?_
  show Steps p.tables e below (T51.setTop (mkF m 174 #[.val (.int p0), .unset, .unset, .unset, .unset] [(.ref b1)])) _
  refine XS.dup X51.here hx rfl (hb hby at_174) rfl rfl ?_
  show Steps p.tables e below (T51.setTop (mkF m 175 #[.val (.int p0), .unset, .unset, .unset, .unset] [(.ref b1), (.ref b1)])) _
  refine XS.bipush X51.here hx rfl (hb hby at_175) ?_
  show Steps p.tables e below (T51.setTop (mkF m 177 #[.val (.int p0), .unset, .unset, .unset, .unset] [(.int (25 : Int32)), (.ref b1), (.ref b1)])) _
  refine st52 _ ?_
  show Steps p.tables e below (T52.setTop (mkF m 180 #[.val (.int p0), .unset, .unset, .unset, .unset] [(.ref (ad 25)), (.int (25 : Int32)), (.ref b1), (.ref b1)])) _
  refine st53 _ ?_
  show Steps p.tables e below (T53.setTop (mkF m 181 #[.val (.int p0), .unset, .unset, .unset, .unset] [(.ref b1)])) _
  refine XS.dup X53.here hx rfl (hb hby at_181) rfl rfl ?_
  show Steps p.tables e below (T53.setTop (mkF m 182 #[.val (.int p0), .unset, .unset, .unset, .unset] [(.ref b1), (.ref b1)])) _
  refine XS.bipush X53.here hx rfl (hb hby at_182) ?_
  show Steps p.tables e below (T53.setTop (mkF m 184 #[.val (.int p0), .unset, .unset, .unset, .unset] [(.int (26 : Int32)), (.ref b1), (.ref b1)])) _
  refine st54 _ ?_
  show Steps p.tables e below (T54.setTop (mkF m 187 #[.val (.int p0), .unset, .unset, .unset, .unset] [(.ref (ad 26)), (.int (26 : Int32)), (.ref b1), (.ref b1)])) _
  refine st55 _ ?_
  show Steps p.tables e below (T55.setTop (mkF m 188 #[.val (.int p0), .unset, .unset, .unset, .unset] [(.ref b1)])) _
  refine XS.dup X55.here hx rfl (hb hby at_188) rfl rfl ?_
  show Steps p.tables e below (T55.setTop (mkF m 189 #[.val (.int p0), .unset, .unset, .unset, .unset] [(.ref b1), (.ref b1)])) _
  refine XS.bipush X55.here hx rfl (hb hby at_189) ?_
  show Steps p.tables e below (T55.setTop (mkF m 191 #[.val (.int p0), .unset, .unset, .unset, .unset] [(.int (27 : Int32)), (.ref b1), (.ref b1)])) _
  refine st56 _ ?_
  show Steps p.tables e below (T56.setTop (mkF m 194 #[.val (.int p0), .unset, .unset, .unset, .unset] [(.ref (ad 27)), (.int (27 : Int32)), (.ref b1), (.ref b1)])) _
  refine st57 _ ?_
  show Steps p.tables e below (T57.setTop (mkF m 195 #[.val (.int p0), .unset, .unset, .unset, .unset] [(.ref b1)])) _
  refine XS.dup X57.here hx rfl (hb hby at_195) rfl rfl ?_
  show Steps p.tables e below (T57.setTop (mkF m 196 #[.val (.int p0), .unset, .unset, .unset, .unset] [(.ref b1), (.ref b1)])) _
  refine XS.bipush X57.here hx rfl (hb hby at_196) ?_
  show Steps p.tables e below (T57.setTop (mkF m 198 #[.val (.int p0), .unset, .unset, .unset, .unset] [(.int (28 : Int32)), (.ref b1), (.ref b1)])) _
  refine st58 _ ?_
  show Steps p.tables e below (T58.setTop (mkF m 201 #[.val (.int p0), .unset, .unset, .unset, .unset] [(.ref (ad 28)), (.int (28 : Int32)), (.ref b1), (.ref b1)])) _
  refine st59 _ ?_
  show Steps p.tables e below (T59.setTop (mkF m 202 #[.val (.int p0), .unset, .unset, .unset, .unset] [(.ref b1)])) _
  refine XS.dup X59.here hx rfl (hb hby at_202) rfl rfl ?_
  show Steps p.tables e below (T59.setTop (mkF m 203 #[.val (.int p0), .unset, .unset, .unset, .unset] [(.ref b1), (.ref b1)])) _
  refine XS.bipush X59.here hx rfl (hb hby at_203) ?_
  show Steps p.tables e below (T59.setTop (mkF m 205 #[.val (.int p0), .unset, .unset, .unset, .unset] [(.int (29 : Int32)), (.ref b1), (.ref b1)])) _
  refine st60 _ ?_
  show Steps p.tables e below (T60.setTop (mkF m 208 #[.val (.int p0), .unset, .unset, .unset, .unset] [(.ref (ad 29)), (.int (29 : Int32)), (.ref b1), (.ref b1)])) _
  refine st61 _ ?_
  show Steps p.tables e below (T61.setTop (mkF m 209 #[.val (.int p0), .unset, .unset, .unset, .unset] [(.ref b1)])) _
  refine XS.astoreN X61.here hx rfl (hb hby at_209) rfl rfl (l' := #[.val (.int p0), .val (.ref b1), .unset, .unset, .unset]) rfl ?_
  exact kt
theorem d1_0 : decode prog_80_method_4_code 0 = .ok (.aload_n 0, 1) := by decide +kernel
theorem d1_1 : decode prog_80_method_4_code 1 = .ok (.getstatic 40, 3) := by decide +kernel
theorem d1_4 : decode prog_80_method_4_code 4 = .ok (.if_acmp .eq 24, 3) := by decide +kernel
theorem d1_7 : decode prog_80_method_4_code 7 = .ok (.aload_n 0, 1) := by decide +kernel
theorem d1_8 : decode prog_80_method_4_code 8 = .ok (.getstatic 43, 3) := by decide +kernel
theorem d1_11 : decode prog_80_method_4_code 11 = .ok (.if_acmp .eq 17, 3) := by decide +kernel
theorem d1_14 : decode prog_80_method_4_code 14 = .ok (.aload_n 0, 1) := by decide +kernel
theorem d1_15 : decode prog_80_method_4_code 15 = .ok (.getstatic 46, 3) := by decide +kernel
theorem d1_18 : decode prog_80_method_4_code 18 = .ok (.if_acmp .eq 10, 3) := by decide +kernel
theorem d1_21 : decode prog_80_method_4_code 21 = .ok (.aload_n 0, 1) := by decide +kernel
theorem d1_22 : decode prog_80_method_4_code 22 = .ok (.getstatic 49, 3) := by decide +kernel
theorem d1_25 : decode prog_80_method_4_code 25 = .ok (.if_acmp .ne 7, 3) := by decide +kernel
theorem d1_32 : decode prog_80_method_4_code 32 = .ok (.iconst 0, 1) := by decide +kernel
theorem d1_33 : decode prog_80_method_4_code 33 = .ok (.ireturn, 1) := by decide +kernel
theorem pn_1 : plainName "com/example/pivotlex/pivotlex/terminology/IssueCode" = true := by first | (simp [plainName, overriddenIn]; done) | decide +kernel
theorem ef_1_R (m : MethodId) (x0 : Addr) : entryFrame m #[(.ref x0)] 1 = mkF m 0 #[.val (.ref x0)] [] := by first | (simp [entryFrame, mkF, argsToLocals, Value.category]; done) | rfl
set_option maxRecDepth 65536 in
set_option maxHeartbeats 40000000 in
theorem rm1_ad0 (l : Launch) (Z : State) (a0 : Array Value) (hw : ∀ d ∈ tables_1, d.before a0 Z = true) (ws : List Jvm.Cond) (ad : Nat → Addr) (NF : Facts Z ad) (h0 : Heap) (n0 : Nat) (Ol : Old Z n0 h0) :
    MetFree l (⟨"com/example/pivotlex/pivotlex/terminology/IssueCode", "isOfValueSet", "()Z"⟩ : MethodName) (head1 (Jvm.Cond.code (⟨"com/example/pivotlex/pivotlex/terminology/IssueCode", "isOfValueSet", "()Z"⟩ : MethodName) prog_80_method_4_code 1 (some .boolean) :: ws) ({ frames := 0, cells := 0, slots := 0, locals := 0 } : Room)) (fun a U => a = #[(.ref (ad 0))] ∧ Z.Warmed39 U.vm ∧ U.heap = h0) (fun _ _ _ _ _ => True) (fun _ U o U' => ∃ v L, o = .returned v ∧ QS (.int (0 : Int32)) h0 n0 v U'.heap L ∧ FrameEnd U o U' L ({ frames := 0, cells := 0, slots := 0, locals := 0 } : Room).cells ({ frames := 0, cells := 0, slots := 0, locals := 0 } : Room).slots) := by
  refine MetFree.of_bodySF (plainFor_of_name pn_1) hisR ?_
  intro p e s m args below meth c s₁ Bd hml0 hP hK
  obtain ⟨rfl, hZ, hh⟩ := hP
  have hx := Bd.exec
  have hby := Bd.bytes
  have hml : c.maxLocals = 1 := hml0
  have hown : s.vm.findClass "com/example/pivotlex/pivotlex/terminology/IssueCode" = some m.cls := findClass_of_methodNamed Bd.named
  have X0 : Stand p l e ({ frames := 0, cells := 0, slots := 0, locals := 0 } : Room) s m #[(.ref (ad 0))] below meth c s₁ [] 0 0 := Stand.of_body Bd
  have e0 : s₁.heap = h0 := by rw [← hh, Bd.state]; rfl
  have N0 := Fr.nil n0
  have pre0 : ∀ t, Steps p.tables e below (s₁.setTop (mkF m 0 #[.val (.ref (ad 0))] [])) t → Steps p.tables e below (s₁.setTop (entryFrame m #[(.ref (ad 0))] 1)) t := fun t k => castTop (ef_1_R m (ad 0)) k
  obtain ⟨T1, X1, e1, st1⟩ := getS2 X0 hx hZ hown (host := "") (Or.inl (hw _ (List.mem_of_getElem? (i := 70) rfl))) Via.refl e0 ((ft_42 NF).ext Ol.2) (g := (mkF m 1 #[.val (.ref (ad 0))] [(.ref (ad 0))])) rfl (hb hby d1_1)
  obtain ⟨T2, X2, e2, st2⟩ := getS2 X1 hx hZ hown (host := "") (Or.inl (hw _ (List.mem_of_getElem? (i := 71) rfl))) Via.refl e1 ((ft_43 NF).ext Ol.2) (g := (mkF m 8 #[.val (.ref (ad 0))] [(.ref (ad 0))])) rfl (hb hby d1_8)
  obtain ⟨T3, X3, e3, st3⟩ := getS2 X2 hx hZ hown (host := "") (Or.inl (hw _ (List.mem_of_getElem? (i := 72) rfl))) Via.refl e2 ((ft_44 NF).ext Ol.2) (g := (mkF m 15 #[.val (.ref (ad 0))] [(.ref (ad 0))])) rfl (hb hby d1_15)
  obtain ⟨T4, X4, e4, st4⟩ := getS2 X3 hx hZ hown (host := "") (Or.inl (hw _ (List.mem_of_getElem? (i := 73) rfl))) Via.refl e3 ((ft_45 NF).ext Ol.2) (g := (mkF m 22 #[.val (.ref (ad 0))] [(.ref (ad 0))])) rfl (hb hby d1_22)
  obtain ⟨fs, hr, hrun, hended, hW, hsame⟩ := X4.leave (v := some (.int (0 : Int32))) (fun h => by rw [Bd.returns] at h; cases h)
  refine ⟨_, _, pre0 _ ?_, hrun, hended, _, _, rfl, ?_, ⟨_, rfl⟩, hW, hsame.mono (by decide) (by decide)⟩
  · show Steps p.tables e below (s₁.setTop (mkF m 0 #[.val (.ref (ad 0))] [])) _
    refine XS.aloadN X0.here hx rfl (hb hby d1_0) rfl rfl ?_
    show Steps p.tables e below (s₁.setTop (mkF m 1 #[.val (.ref (ad 0))] [(.ref (ad 0))])) _
    refine st1 _ ?_
    show Steps p.tables e below (T1.setTop (mkF m 4 #[.val (.ref (ad 0))] [(.ref (ad 12)), (.ref (ad 0))])) _
    refine acmp X1 hx rfl (x := (.ref (ad 0))) (y := (.ref (ad 12))) rfl rfl (pc0 := 4) (pc' := 7) (same := false) rfl (hb hby d1_4) rfl (decide_eq_false (fun h => (Fld.ne (ft_60 NF) (ft_61 NF) (by decide)) (Value.ref.inj h))) (by decide) (by decide) ?_
    show Steps p.tables e below (T1.setTop (mkF m 7 #[.val (.ref (ad 0))] [])) _
    refine XS.aloadN X1.here hx rfl (hb hby d1_7) rfl rfl ?_
    show Steps p.tables e below (T1.setTop (mkF m 8 #[.val (.ref (ad 0))] [(.ref (ad 0))])) _
    refine st2 _ ?_
    show Steps p.tables e below (T2.setTop (mkF m 11 #[.val (.ref (ad 0))] [(.ref (ad 13)), (.ref (ad 0))])) _
    refine acmp X2 hx rfl (x := (.ref (ad 0))) (y := (.ref (ad 13))) rfl rfl (pc0 := 11) (pc' := 14) (same := false) rfl (hb hby d1_11) rfl (decide_eq_false (fun h => (Fld.ne (ft_60 NF) (ft_62 NF) (by decide)) (Value.ref.inj h))) (by decide) (by decide) ?_
    show Steps p.tables e below (T2.setTop (mkF m 14 #[.val (.ref (ad 0))] [])) _
    refine XS.aloadN X2.here hx rfl (hb hby d1_14) rfl rfl ?_
    show Steps p.tables e below (T2.setTop (mkF m 15 #[.val (.ref (ad 0))] [(.ref (ad 0))])) _
    refine st3 _ ?_
    show Steps p.tables e below (T3.setTop (mkF m 18 #[.val (.ref (ad 0))] [(.ref (ad 14)), (.ref (ad 0))])) _
    refine acmp X3 hx rfl (x := (.ref (ad 0))) (y := (.ref (ad 14))) rfl rfl (pc0 := 18) (pc' := 21) (same := false) rfl (hb hby d1_18) rfl (decide_eq_false (fun h => (Fld.ne (ft_60 NF) (ft_63 NF) (by decide)) (Value.ref.inj h))) (by decide) (by decide) ?_
    show Steps p.tables e below (T3.setTop (mkF m 21 #[.val (.ref (ad 0))] [])) _
    refine XS.aloadN X3.here hx rfl (hb hby d1_21) rfl rfl ?_
    show Steps p.tables e below (T3.setTop (mkF m 22 #[.val (.ref (ad 0))] [(.ref (ad 0))])) _
    refine st4 _ ?_
    show Steps p.tables e below (T4.setTop (mkF m 25 #[.val (.ref (ad 0))] [(.ref (ad 15)), (.ref (ad 0))])) _
    refine acmp X4 hx rfl (x := (.ref (ad 0))) (y := (.ref (ad 15))) rfl rfl (pc0 := 25) (pc' := 32) (same := false) rfl (hb hby d1_25) rfl (decide_eq_false (fun h => (Fld.ne (ft_60 NF) (ft_64 NF) (by decide)) (Value.ref.inj h))) (by decide) (by decide) ?_
    show Steps p.tables e below (T4.setTop (mkF m 32 #[.val (.ref (ad 0))] [])) _
    refine XS.iconst X4.here hx rfl (hb hby d1_32) ?_
    show Steps p.tables e below (T4.setTop (mkF m 33 #[.val (.ref (ad 0))] [(.int (0 : Int32))])) _
    exact retN X4 hx (t := .boolean) Bd.returns (by simp) (hb hby d1_33) hr
  · exact ⟨rfl, N0, e4⟩
theorem pd_1 : parseMethodDescriptor "()Z" = some ⟨[], some .boolean⟩ := by decide +kernel
theorem pn_0 : plainName "com/example/pivotlex/pivotlex/terminology/IssueCodeIsOfValueSetPinLaw" = true := by first | (simp [plainName, overriddenIn]; done) | decide +kernel
theorem ef_0_I (m : MethodId) (x0 : Int32) : entryFrame m #[(.int x0)] maxLocals = mkF m 0 #[.val (.int x0), .unset, .unset, .unset, .unset] [] := by first | (simp [entryFrame, mkF, argsToLocals, Value.category, maxLocals]; done) | rfl
set_option maxRecDepth 65536 in
set_option maxHeartbeats 40000000 in
theorem rm0_0 (l : Launch) (Z : State) (a0 : Array Value) (hw : ∀ d ∈ tables_1, d.before a0 Z = true) (ws : List Jvm.Cond) (ad : Nat → Addr) (NF : Facts Z ad) (h0 : Heap) (n0 : Nat) (Ol : Old Z n0 h0) (p0 : Int32) (hi : (p0 &&& (2147483647 : Int32)) % (30 : Int32) = (0 : Int32)) :
    MetFree l x (head1 (Jvm.Cond.code x code maxLocals ret :: ws) room_1) (fun a U => a = #[(.int p0)] ∧ Z.Warmed39 U.vm ∧ U.heap = h0) (fun _ _ _ _ _ => True) (fun _ U o U' => ∃ v L, o = .returned v ∧ QL n0 v U'.heap L ∧ FrameEnd U o U' L room_1.cells room_1.slots) := by
  refine MetFree.of_bodySF (plainFor_of_name pn_0) hisR ?_
  intro p e s m args below meth c s₁ Bd hml0 hP hK
  obtain ⟨rfl, hZ, hh⟩ := hP
  have hx := Bd.exec
  have hby := Bd.bytes
  have hml : c.maxLocals = 5 := hml0
  have hown : s.vm.findClass "com/example/pivotlex/pivotlex/terminology/IssueCodeIsOfValueSetPinLaw" = some m.cls := findClass_of_methodNamed Bd.named
  have X0 : Stand p l e room_1 s m #[(.int p0)] below meth c s₁ [] 0 0 := Stand.of_body Bd
  have e0 : s₁.heap = h0 := by rw [← hh, Bd.state]; rfl
  have N0 := Fr.nil n0
  have pre0 : ∀ t, Steps p.tables e below (s₁.setTop (mkF m 0 #[.val (.int p0), .unset, .unset, .unset, .unset] [])) t → Steps p.tables e below (s₁.setTop (entryFrame m #[(.int p0)] maxLocals)) t := fun t k => castTop (ef_0_I m (p0)) k
  obtain ⟨T1, h1, Lc1, b1, k1, X1, e1, Ol1, K1, N1, V1, st1⟩ := fill hw ad NF h0 n0 Ol p0 X0 hx hZ hby hml hown e0
  obtain ⟨cl2, Ar2, q2, S2, M2, H2, G2⟩ := id V1
  have hin2 : ¬ ((0 : Int32) < 0 ∨ cl2.slots.size ≤ ((0 : Int32)).toNatClampNeg) := inb_of S2 ⟨by decide, by decide⟩
  have hat2 : cl2.slots[((0 : Int32)).toNatClampNeg]? = some (.ref (ad 0)) := Has.at H2 hin2 rfl
  obtain ⟨cq3, kq3, qa3, qb3, qc3⟩ := isOf hZ e1 ((ft_0 NF).ext Ol1.2)
  obtain ⟨_, _, ⟨T3, L3, k3, n3⟩, -, X3, ⟨Lc3, hQ3, l3, y3, z3⟩, st3⟩ := X1.virtualBack hx (y := (⟨"com/example/pivotlex/pivotlex/terminology/IssueCode", "isOfValueSet", "()Z"⟩ : MethodName)) (z := (⟨"com/example/pivotlex/pivotlex/terminology/IssueCode", "isOfValueSet", "()Z"⟩ : MethodName)) hown (mvT hZ (hw _ (List.mem_of_getElem? (i := 65) rfl))) (mvT hZ (hw _ (List.mem_of_getElem? (i := 66) rfl))) (notFace_of_selects (args := #[]) (mvT hZ (hw _ (List.mem_of_getElem? (i := 68) rfl)))) (mvT hZ (hw _ (List.mem_of_getElem? (i := 68) rfl))) (mvT hZ (hw _ (List.mem_of_getElem? (i := 67) rfl))) (by decide) (backOf (W := 0) (rm1_ad0 l Z a0 hw [] ad NF h1 n0 Ol1) hZ (hw _ (List.mem_of_getElem? (i := 69) rfl)) (hw _ (List.mem_of_getElem? (i := 3) rfl)) (by decide) (by decide)) qa3 qc3 (g := (mkF m 242 #[.val (.int p0), .val (.ref b1), .val (.int (0 : Int32)), .val (.ref (ad 0)), .val (.int (0 : Int32))] [(.ref (ad 0))])) rfl (by rw [hml]; rfl) (Steps.refl _) (argsL := []) (rest := []) (lenOf pd_1 rfl) rfl (by show 2 * 0 + _ ≤ _; exact Nat.le_of_eq rfl) (hb hby at_242) (fun _ _ => ⟨rfl, e1, (by decide : 1 + 0 ≤ _), (by decide : 30 + 0 ≤ _)⟩)
  dsimp only [Pt.U, Pt.locs, Pt.cells, Pt.slots] at X3 l3 y3 z3 st3 hQ3
  subst l3 y3 z3
  obtain ⟨rfl, Nq3, e3⟩ := hQ3
  have N3 := Fr.app N1 Nq3
  obtain ⟨fs, hr, hrun, hended, hW, hsame⟩ := X3.leave (v := some (.int (1 : Int32))) (fun h => by rw [Bd.returns] at h; cases h)
  refine ⟨_, _, pre0 _ ?_, hrun, hended, _, _, rfl, ?_, ⟨_, rfl⟩, hW, hsame.mono (by decide) (by decide)⟩
  · show Steps p.tables e below (s₁.setTop (mkF m 0 #[.val (.int p0), .unset, .unset, .unset, .unset] [])) _
    refine st1 _ ?_
    show Steps p.tables e below (T1.setTop (mkF m 210 #[.val (.int p0), .val (.ref b1), .unset, .unset, .unset] [])) _
    refine XS.iloadN X1.here hx rfl (hb hby at_210) rfl ?_
    show Steps p.tables e below (T1.setTop (mkF m 211 #[.val (.int p0), .val (.ref b1), .unset, .unset, .unset] [(.int p0)])) _
    refine X1.ldcInt hx hown (mvT hZ (hw _ (List.mem_of_getElem? (i := 64) rfl))) (g := (mkF m 211 #[.val (.int p0), .val (.ref b1), .unset, .unset, .unset] [(.int p0)])) rfl (hb hby at_211) _ ?_
    show Steps p.tables e below (T1.setTop (mkF m 213 #[.val (.int p0), .val (.ref b1), .unset, .unset, .unset] [(.int (2147483647 : Int32)), (.int p0)])) _
    refine XS.iand X1.here hx rfl (hb hby at_213) rfl ?_
    show Steps p.tables e below (T1.setTop (mkF m 214 #[.val (.int p0), .val (.ref b1), .unset, .unset, .unset] [(.int (p0 &&& (2147483647 : Int32)))])) _
    refine XS.bipush X1.here hx rfl (hb hby at_214) ?_
    show Steps p.tables e below (T1.setTop (mkF m 216 #[.val (.int p0), .val (.ref b1), .unset, .unset, .unset] [(.int (30 : Int32)), (.int (p0 &&& (2147483647 : Int32)))])) _
    refine iremM X1 hx rfl (hb hby at_216) rfl (by decide) ?_
    show Steps p.tables e below (T1.setTop (mkF m 217 #[.val (.int p0), .val (.ref b1), .unset, .unset, .unset] [(.int ((p0 &&& (2147483647 : Int32)) % (30 : Int32)))])) _
    rw [hi]
    show Steps p.tables e below (T1.setTop (mkF m 217 #[.val (.int p0), .val (.ref b1), .unset, .unset, .unset] [(.int (0 : Int32))])) _
    refine XS.istoreN X1.here hx rfl (hb hby at_217) rfl (l' := #[.val (.int p0), .val (.ref b1), .val (.int (0 : Int32)), .unset, .unset]) rfl ?_
    show Steps p.tables e below (T1.setTop (mkF m 218 #[.val (.int p0), .val (.ref b1), .val (.int (0 : Int32)), .unset, .unset] [])) _
    refine XS.aloadN X1.here hx rfl (hb hby at_218) rfl rfl ?_
    show Steps p.tables e below (T1.setTop (mkF m 219 #[.val (.int p0), .val (.ref b1), .val (.int (0 : Int32)), .unset, .unset] [(.ref b1)])) _
    refine XS.iloadN X1.here hx rfl (hb hby at_219) rfl ?_
    show Steps p.tables e below (T1.setTop (mkF m 220 #[.val (.int p0), .val (.ref b1), .val (.int (0 : Int32)), .unset, .unset] [(.int (0 : Int32)), (.ref b1)])) _
    refine X1.aaload hx (j := (0 : Int32)) (v := (.ref (ad 0))) (by rw [e1]; exact Ar2.1) (State.isArrayOf_alike hZ.alike Ar2.2.1) rfl Ar2.2.2 hin2 hat2 (g := (mkF m 220 #[.val (.int p0), .val (.ref b1), .val (.int (0 : Int32)), .unset, .unset] [(.int (0 : Int32)), (.ref b1)])) rfl rfl (hb hby at_220) _ ?_
    show Steps p.tables e below (T1.setTop (mkF m 221 #[.val (.int p0), .val (.ref b1), .val (.int (0 : Int32)), .unset, .unset] [(.ref (ad 0))])) _
    refine XS.astoreN X1.here hx rfl (hb hby at_221) rfl rfl (l' := #[.val (.int p0), .val (.ref b1), .val (.int (0 : Int32)), .val (.ref (ad 0)), .unset]) rfl ?_
    show Steps p.tables e below (T1.setTop (mkF m 222 #[.val (.int p0), .val (.ref b1), .val (.int (0 : Int32)), .val (.ref (ad 0)), .unset] [])) _
    refine XS.iloadN X1.here hx rfl (hb hby at_222) rfl ?_
    show Steps p.tables e below (T1.setTop (mkF m 223 #[.val (.int p0), .val (.ref b1), .val (.int (0 : Int32)), .val (.ref (ad 0)), .unset] [(.int (0 : Int32))])) _
    refine XS.bipush X1.here hx rfl (hb hby at_223) ?_
    show Steps p.tables e below (T1.setTop (mkF m 225 #[.val (.int p0), .val (.ref b1), .val (.int (0 : Int32)), .val (.ref (ad 0)), .unset] [(.int (12 : Int32)), (.int (0 : Int32))])) _
    refine XS.icmpYes X1.here hx rfl (pc0 := 225) (pc' := 238) rfl (hb hby at_225) rfl (tlt (by decide)).1 (by decide) (by decide) ?_
    show Steps p.tables e below (T1.setTop (mkF m 238 #[.val (.int p0), .val (.ref b1), .val (.int (0 : Int32)), .val (.ref (ad 0)), .unset] [])) _
    refine XS.iconst X1.here hx rfl (hb hby at_238) ?_
    show Steps p.tables e below (T1.setTop (mkF m 239 #[.val (.int p0), .val (.ref b1), .val (.int (0 : Int32)), .val (.ref (ad 0)), .unset] [(.int (0 : Int32))])) _
    refine XS.istore X1.here hx rfl (hb hby at_239) rfl (l' := #[.val (.int p0), .val (.ref b1), .val (.int (0 : Int32)), .val (.ref (ad 0)), .val (.int (0 : Int32))]) rfl ?_
    show Steps p.tables e below (T1.setTop (mkF m 241 #[.val (.int p0), .val (.ref b1), .val (.int (0 : Int32)), .val (.ref (ad 0)), .val (.int (0 : Int32))] [])) _
    refine XS.aloadN X1.here hx rfl (hb hby at_241) rfl rfl ?_
    show Steps p.tables e below (T1.setTop (mkF m 242 #[.val (.int p0), .val (.ref b1), .val (.int (0 : Int32)), .val (.ref (ad 0)), .val (.int (0 : Int32))] [(.ref (ad 0))])) _
    refine st3.trans ?_
    show Steps p.tables e below (T3.setTop (mkF m 245 #[.val (.int p0), .val (.ref b1), .val (.int (0 : Int32)), .val (.ref (ad 0)), .val (.int (0 : Int32))] [(.int (0 : Int32))])) _
    refine XS.iload X3.here hx rfl (hb hby at_245) rfl ?_
    show Steps p.tables e below (T3.setTop (mkF m 247 #[.val (.int p0), .val (.ref b1), .val (.int (0 : Int32)), .val (.ref (ad 0)), .val (.int (0 : Int32))] [(.int (0 : Int32)), (.int (0 : Int32))])) _
    refine XS.icmpNo X3.here hx rfl (hb hby at_247) rfl (teq (by decide)).2 ?_
    show Steps p.tables e below (T3.setTop (mkF m 250 #[.val (.int p0), .val (.ref b1), .val (.int (0 : Int32)), .val (.ref (ad 0)), .val (.int (0 : Int32))] [])) _
    refine XS.iconst X3.here hx rfl (hb hby at_250) ?_
    show Steps p.tables e below (T3.setTop (mkF m 251 #[.val (.int p0), .val (.ref b1), .val (.int (0 : Int32)), .val (.ref (ad 0)), .val (.int (0 : Int32))] [(.int (1 : Int32))])) _
    refine XS.goto X3.here hx rfl (pc0 := 251) (pc' := 255) rfl (hb hby at_251) (by decide) (by decide) ?_
    show Steps p.tables e below (T3.setTop (mkF m 255 #[.val (.int p0), .val (.ref b1), .val (.int (0 : Int32)), .val (.ref (ad 0)), .val (.int (0 : Int32))] [(.int (1 : Int32))])) _
    exact retN X3 hx (t := .boolean) Bd.returns (by simp) (hb hby at_255) hr
  · exact ⟨rfl, N3⟩
set_option maxRecDepth 65536 in
set_option maxHeartbeats 40000000 in
theorem rm1_ad1 (l : Launch) (Z : State) (a0 : Array Value) (hw : ∀ d ∈ tables_1, d.before a0 Z = true) (ws : List Jvm.Cond) (ad : Nat → Addr) (NF : Facts Z ad) (h0 : Heap) (n0 : Nat) (Ol : Old Z n0 h0) :
    MetFree l (⟨"com/example/pivotlex/pivotlex/terminology/IssueCode", "isOfValueSet", "()Z"⟩ : MethodName) (head1 (Jvm.Cond.code (⟨"com/example/pivotlex/pivotlex/terminology/IssueCode", "isOfValueSet", "()Z"⟩ : MethodName) prog_80_method_4_code 1 (some .boolean) :: ws) ({ frames := 0, cells := 0, slots := 0, locals := 0 } : Room)) (fun a U => a = #[(.ref (ad 1))] ∧ Z.Warmed39 U.vm ∧ U.heap = h0) (fun _ _ _ _ _ => True) (fun _ U o U' => ∃ v L, o = .returned v ∧ QS (.int (0 : Int32)) h0 n0 v U'.heap L ∧ FrameEnd U o U' L ({ frames := 0, cells := 0, slots := 0, locals := 0 } : Room).cells ({ frames := 0, cells := 0, slots := 0, locals := 0 } : Room).slots) := by
  refine MetFree.of_bodySF (plainFor_of_name pn_1) hisR ?_
  intro p e s m args below meth c s₁ Bd hml0 hP hK
  obtain ⟨rfl, hZ, hh⟩ := hP
  have hx := Bd.exec
  have hby := Bd.bytes
  have hml : c.maxLocals = 1 := hml0
  have hown : s.vm.findClass "com/example/pivotlex/pivotlex/terminology/IssueCode" = some m.cls := findClass_of_methodNamed Bd.named
  have X0 : Stand p l e ({ frames := 0, cells := 0, slots := 0, locals := 0 } : Room) s m #[(.ref (ad 1))] below meth c s₁ [] 0 0 := Stand.of_body Bd
  have e0 : s₁.heap = h0 := by rw [← hh, Bd.state]; rfl
  have N0 := Fr.nil n0
  have pre0 : ∀ t, Steps p.tables e below (s₁.setTop (mkF m 0 #[.val (.ref (ad 1))] [])) t → Steps p.tables e below (s₁.setTop (entryFrame m #[(.ref (ad 1))] 1)) t := fun t k => castTop (ef_1_R m (ad 1)) k
  obtain ⟨T1, X1, e1, st1⟩ := getS2 X0 hx hZ hown (host := "") (Or.inl (hw _ (List.mem_of_getElem? (i := 70) rfl))) Via.refl e0 ((ft_42 NF).ext Ol.2) (g := (mkF m 1 #[.val (.ref (ad 1))] [(.ref (ad 1))])) rfl (hb hby d1_1)
  obtain ⟨T2, X2, e2, st2⟩ := getS2 X1 hx hZ hown (host := "") (Or.inl (hw _ (List.mem_of_getElem? (i := 71) rfl))) Via.refl e1 ((ft_43 NF).ext Ol.2) (g := (mkF m 8 #[.val (.ref (ad 1))] [(.ref (ad 1))])) rfl (hb hby d1_8)
  obtain ⟨T3, X3, e3, st3⟩ := getS2 X2 hx hZ hown (host := "") (Or.inl (hw _ (List.mem_of_getElem? (i := 72) rfl))) Via.refl e2 ((ft_44 NF).ext Ol.2) (g := (mkF m 15 #[.val (.ref (ad 1))] [(.ref (ad 1))])) rfl (hb hby d1_15)
  obtain ⟨T4, X4, e4, st4⟩ := getS2 X3 hx hZ hown (host := "") (Or.inl (hw _ (List.mem_of_getElem? (i := 73) rfl))) Via.refl e3 ((ft_45 NF).ext Ol.2) (g := (mkF m 22 #[.val (.ref (ad 1))] [(.ref (ad 1))])) rfl (hb hby d1_22)
  obtain ⟨fs, hr, hrun, hended, hW, hsame⟩ := X4.leave (v := some (.int (0 : Int32))) (fun h => by rw [Bd.returns] at h; cases h)
  refine ⟨_, _, pre0 _ ?_, hrun, hended, _, _, rfl, ?_, ⟨_, rfl⟩, hW, hsame.mono (by decide) (by decide)⟩
  · show Steps p.tables e below (s₁.setTop (mkF m 0 #[.val (.ref (ad 1))] [])) _
    refine XS.aloadN X0.here hx rfl (hb hby d1_0) rfl rfl ?_
    show Steps p.tables e below (s₁.setTop (mkF m 1 #[.val (.ref (ad 1))] [(.ref (ad 1))])) _
    refine st1 _ ?_
    show Steps p.tables e below (T1.setTop (mkF m 4 #[.val (.ref (ad 1))] [(.ref (ad 12)), (.ref (ad 1))])) _
    refine acmp X1 hx rfl (x := (.ref (ad 1))) (y := (.ref (ad 12))) rfl rfl (pc0 := 4) (pc' := 7) (same := false) rfl (hb hby d1_4) rfl (decide_eq_false (fun h => (Fld.ne (ft_73 NF) (ft_61 NF) (by decide)) (Value.ref.inj h))) (by decide) (by decide) ?_
    show Steps p.tables e below (T1.setTop (mkF m 7 #[.val (.ref (ad 1))] [])) _
    refine XS.aloadN X1.here hx rfl (hb hby d1_7) rfl rfl ?_
    show Steps p.tables e below (T1.setTop (mkF m 8 #[.val (.ref (ad 1))] [(.ref (ad 1))])) _
    refine st2 _ ?_
    show Steps p.tables e below (T2.setTop (mkF m 11 #[.val (.ref (ad 1))] [(.ref (ad 13)), (.ref (ad 1))])) _
    refine acmp X2 hx rfl (x := (.ref (ad 1))) (y := (.ref (ad 13))) rfl rfl (pc0 := 11) (pc' := 14) (same := false) rfl (hb hby d1_11) rfl (decide_eq_false (fun h => (Fld.ne (ft_73 NF) (ft_62 NF) (by decide)) (Value.ref.inj h))) (by decide) (by decide) ?_
    show Steps p.tables e below (T2.setTop (mkF m 14 #[.val (.ref (ad 1))] [])) _
    refine XS.aloadN X2.here hx rfl (hb hby d1_14) rfl rfl ?_
    show Steps p.tables e below (T2.setTop (mkF m 15 #[.val (.ref (ad 1))] [(.ref (ad 1))])) _
    refine st3 _ ?_
    show Steps p.tables e below (T3.setTop (mkF m 18 #[.val (.ref (ad 1))] [(.ref (ad 14)), (.ref (ad 1))])) _
    refine acmp X3 hx rfl (x := (.ref (ad 1))) (y := (.ref (ad 14))) rfl rfl (pc0 := 18) (pc' := 21) (same := false) rfl (hb hby d1_18) rfl (decide_eq_false (fun h => (Fld.ne (ft_73 NF) (ft_63 NF) (by decide)) (Value.ref.inj h))) (by decide) (by decide) ?_
    show Steps p.tables e below (T3.setTop (mkF m 21 #[.val (.ref (ad 1))] [])) _
    refine XS.aloadN X3.here hx rfl (hb hby d1_21) rfl rfl ?_
    show Steps p.tables e below (T3.setTop (mkF m 22 #[.val (.ref (ad 1))] [(.ref (ad 1))])) _
    refine st4 _ ?_
    show Steps p.tables e below (T4.setTop (mkF m 25 #[.val (.ref (ad 1))] [(.ref (ad 15)), (.ref (ad 1))])) _
    refine acmp X4 hx rfl (x := (.ref (ad 1))) (y := (.ref (ad 15))) rfl rfl (pc0 := 25) (pc' := 32) (same := false) rfl (hb hby d1_25) rfl (decide_eq_false (fun h => (Fld.ne (ft_73 NF) (ft_64 NF) (by decide)) (Value.ref.inj h))) (by decide) (by decide) ?_
    show Steps p.tables e below (T4.setTop (mkF m 32 #[.val (.ref (ad 1))] [])) _
    refine XS.iconst X4.here hx rfl (hb hby d1_32) ?_
    show Steps p.tables e below (T4.setTop (mkF m 33 #[.val (.ref (ad 1))] [(.int (0 : Int32))])) _
    exact retN X4 hx (t := .boolean) Bd.returns (by simp) (hb hby d1_33) hr
  · exact ⟨rfl, N0, e4⟩
set_option maxRecDepth 65536 in
set_option maxHeartbeats 40000000 in
theorem rm0_1 (l : Launch) (Z : State) (a0 : Array Value) (hw : ∀ d ∈ tables_1, d.before a0 Z = true) (ws : List Jvm.Cond) (ad : Nat → Addr) (NF : Facts Z ad) (h0 : Heap) (n0 : Nat) (Ol : Old Z n0 h0) (p0 : Int32) (hi : (p0 &&& (2147483647 : Int32)) % (30 : Int32) = (1 : Int32)) :
    MetFree l x (head1 (Jvm.Cond.code x code maxLocals ret :: ws) room_1) (fun a U => a = #[(.int p0)] ∧ Z.Warmed39 U.vm ∧ U.heap = h0) (fun _ _ _ _ _ => True) (fun _ U o U' => ∃ v L, o = .returned v ∧ QL n0 v U'.heap L ∧ FrameEnd U o U' L room_1.cells room_1.slots) := by
  refine MetFree.of_bodySF (plainFor_of_name pn_0) hisR ?_
  intro p e s m args below meth c s₁ Bd hml0 hP hK
  obtain ⟨rfl, hZ, hh⟩ := hP
  have hx := Bd.exec
  have hby := Bd.bytes
  have hml : c.maxLocals = 5 := hml0
  have hown : s.vm.findClass "com/example/pivotlex/pivotlex/terminology/IssueCodeIsOfValueSetPinLaw" = some m.cls := findClass_of_methodNamed Bd.named
  have X0 : Stand p l e room_1 s m #[(.int p0)] below meth c s₁ [] 0 0 := Stand.of_body Bd
  have e0 : s₁.heap = h0 := by rw [← hh, Bd.state]; rfl
  have N0 := Fr.nil n0
  have pre0 : ∀ t, Steps p.tables e below (s₁.setTop (mkF m 0 #[.val (.int p0), .unset, .unset, .unset, .unset] [])) t → Steps p.tables e below (s₁.setTop (entryFrame m #[(.int p0)] maxLocals)) t := fun t k => castTop (ef_0_I m (p0)) k
  obtain ⟨T1, h1, Lc1, b1, k1, X1, e1, Ol1, K1, N1, V1, st1⟩ := fill hw ad NF h0 n0 Ol p0 X0 hx hZ hby hml hown e0
  obtain ⟨cl2, Ar2, q2, S2, M2, H2, G2⟩ := id V1
  have hin2 : ¬ ((1 : Int32) < 0 ∨ cl2.slots.size ≤ ((1 : Int32)).toNatClampNeg) := inb_of S2 ⟨by decide, by decide⟩
  have hat2 : cl2.slots[((1 : Int32)).toNatClampNeg]? = some (.ref (ad 1)) := Has.at H2 hin2 rfl
  obtain ⟨cq3, kq3, qa3, qb3, qc3⟩ := isOf hZ e1 ((ft_1 NF).ext Ol1.2)
  obtain ⟨_, _, ⟨T3, L3, k3, n3⟩, -, X3, ⟨Lc3, hQ3, l3, y3, z3⟩, st3⟩ := X1.virtualBack hx (y := (⟨"com/example/pivotlex/pivotlex/terminology/IssueCode", "isOfValueSet", "()Z"⟩ : MethodName)) (z := (⟨"com/example/pivotlex/pivotlex/terminology/IssueCode", "isOfValueSet", "()Z"⟩ : MethodName)) hown (mvT hZ (hw _ (List.mem_of_getElem? (i := 65) rfl))) (mvT hZ (hw _ (List.mem_of_getElem? (i := 66) rfl))) (notFace_of_selects (args := #[]) (mvT hZ (hw _ (List.mem_of_getElem? (i := 68) rfl)))) (mvT hZ (hw _ (List.mem_of_getElem? (i := 68) rfl))) (mvT hZ (hw _ (List.mem_of_getElem? (i := 67) rfl))) (by decide) (backOf (W := 0) (rm1_ad1 l Z a0 hw [] ad NF h1 n0 Ol1) hZ (hw _ (List.mem_of_getElem? (i := 69) rfl)) (hw _ (List.mem_of_getElem? (i := 3) rfl)) (by decide) (by decide)) qa3 qc3 (g := (mkF m 242 #[.val (.int p0), .val (.ref b1), .val (.int (1 : Int32)), .val (.ref (ad 1)), .val (.int (0 : Int32))] [(.ref (ad 1))])) rfl (by rw [hml]; rfl) (Steps.refl _) (argsL := []) (rest := []) (lenOf pd_1 rfl) rfl (by show 2 * 0 + _ ≤ _; exact Nat.le_of_eq rfl) (hb hby at_242) (fun _ _ => ⟨rfl, e1, (by decide : 1 + 0 ≤ _), (by decide : 30 + 0 ≤ _)⟩)
  dsimp only [Pt.U, Pt.locs, Pt.cells, Pt.slots] at X3 l3 y3 z3 st3 hQ3
  subst l3 y3 z3
  obtain ⟨rfl, Nq3, e3⟩ := hQ3
  have N3 := Fr.app N1 Nq3
  obtain ⟨fs, hr, hrun, hended, hW, hsame⟩ := X3.leave (v := some (.int (1 : Int32))) (fun h => by rw [Bd.returns] at h; cases h)
  refine ⟨_, _, pre0 _ ?_, hrun, hended, _, _, rfl, ?_, ⟨_, rfl⟩, hW, hsame.mono (by decide) (by decide)⟩
  · show Steps p.tables e below (s₁.setTop (mkF m 0 #[.val (.int p0), .unset, .unset, .unset, .unset] [])) _
    refine st1 _ ?_
    show Steps p.tables e below (T1.setTop (mkF m 210 #[.val (.int p0), .val (.ref b1), .unset, .unset, .unset] [])) _
    refine XS.iloadN X1.here hx rfl (hb hby at_210) rfl ?_
    show Steps p.tables e below (T1.setTop (mkF m 211 #[.val (.int p0), .val (.ref b1), .unset, .unset, .unset] [(.int p0)])) _
    refine X1.ldcInt hx hown (mvT hZ (hw _ (List.mem_of_getElem? (i := 64) rfl))) (g := (mkF m 211 #[.val (.int p0), .val (.ref b1), .unset, .unset, .unset] [(.int p0)])) rfl (hb hby at_211) _ ?_
    show Steps p.tables e below (T1.setTop (mkF m 213 #[.val (.int p0), .val (.ref b1), .unset, .unset, .unset] [(.int (2147483647 : Int32)), (.int p0)])) _
    refine XS.iand X1.here hx rfl (hb hby at_213) rfl ?_
    show Steps p.tables e below (T1.setTop (mkF m 214 #[.val (.int p0), .val (.ref b1), .unset, .unset, .unset] [(.int (p0 &&& (2147483647 : Int32)))])) _
    refine XS.bipush X1.here hx rfl (hb hby at_214) ?_
    show Steps p.tables e below (T1.setTop (mkF m 216 #[.val (.int p0), .val (.ref b1), .unset, .unset, .unset] [(.int (30 : Int32)), (.int (p0 &&& (2147483647 : Int32)))])) _
    refine iremM X1 hx rfl (hb hby at_216) rfl (by decide) ?_
    show Steps p.tables e below (T1.setTop (mkF m 217 #[.val (.int p0), .val (.ref b1), .unset, .unset, .unset] [(.int ((p0 &&& (2147483647 : Int32)) % (30 : Int32)))])) _
    rw [hi]
    show Steps p.tables e below (T1.setTop (mkF m 217 #[.val (.int p0), .val (.ref b1), .unset, .unset, .unset] [(.int (1 : Int32))])) _
    refine XS.istoreN X1.here hx rfl (hb hby at_217) rfl (l' := #[.val (.int p0), .val (.ref b1), .val (.int (1 : Int32)), .unset, .unset]) rfl ?_
    show Steps p.tables e below (T1.setTop (mkF m 218 #[.val (.int p0), .val (.ref b1), .val (.int (1 : Int32)), .unset, .unset] [])) _
    refine XS.aloadN X1.here hx rfl (hb hby at_218) rfl rfl ?_
    show Steps p.tables e below (T1.setTop (mkF m 219 #[.val (.int p0), .val (.ref b1), .val (.int (1 : Int32)), .unset, .unset] [(.ref b1)])) _
    refine XS.iloadN X1.here hx rfl (hb hby at_219) rfl ?_
    show Steps p.tables e below (T1.setTop (mkF m 220 #[.val (.int p0), .val (.ref b1), .val (.int (1 : Int32)), .unset, .unset] [(.int (1 : Int32)), (.ref b1)])) _
    refine X1.aaload hx (j := (1 : Int32)) (v := (.ref (ad 1))) (by rw [e1]; exact Ar2.1) (State.isArrayOf_alike hZ.alike Ar2.2.1) rfl Ar2.2.2 hin2 hat2 (g := (mkF m 220 #[.val (.int p0), .val (.ref b1), .val (.int (1 : Int32)), .unset, .unset] [(.int (1 : Int32)), (.ref b1)])) rfl rfl (hb hby at_220) _ ?_
    show Steps p.tables e below (T1.setTop (mkF m 221 #[.val (.int p0), .val (.ref b1), .val (.int (1 : Int32)), .unset, .unset] [(.ref (ad 1))])) _
    refine XS.astoreN X1.here hx rfl (hb hby at_221) rfl rfl (l' := #[.val (.int p0), .val (.ref b1), .val (.int (1 : Int32)), .val (.ref (ad 1)), .unset]) rfl ?_
    show Steps p.tables e below (T1.setTop (mkF m 222 #[.val (.int p0), .val (.ref b1), .val (.int (1 : Int32)), .val (.ref (ad 1)), .unset] [])) _
    refine XS.iloadN X1.here hx rfl (hb hby at_222) rfl ?_
    show Steps p.tables e below (T1.setTop (mkF m 223 #[.val (.int p0), .val (.ref b1), .val (.int (1 : Int32)), .val (.ref (ad 1)), .unset] [(.int (1 : Int32))])) _
    refine XS.bipush X1.here hx rfl (hb hby at_223) ?_
    show Steps p.tables e below (T1.setTop (mkF m 225 #[.val (.int p0), .val (.ref b1), .val (.int (1 : Int32)), .val (.ref (ad 1)), .unset] [(.int (12 : Int32)), (.int (1 : Int32))])) _
    refine XS.icmpYes X1.here hx rfl (pc0 := 225) (pc' := 238) rfl (hb hby at_225) rfl (tlt (by decide)).1 (by decide) (by decide) ?_
    show Steps p.tables e below (T1.setTop (mkF m 238 #[.val (.int p0), .val (.ref b1), .val (.int (1 : Int32)), .val (.ref (ad 1)), .unset] [])) _
    refine XS.iconst X1.here hx rfl (hb hby at_238) ?_
    show Steps p.tables e below (T1.setTop (mkF m 239 #[.val (.int p0), .val (.ref b1), .val (.int (1 : Int32)), .val (.ref (ad 1)), .unset] [(.int (0 : Int32))])) _
    refine XS.istore X1.here hx rfl (hb hby at_239) rfl (l' := #[.val (.int p0), .val (.ref b1), .val (.int (1 : Int32)), .val (.ref (ad 1)), .val (.int (0 : Int32))]) rfl ?_
    show Steps p.tables e below (T1.setTop (mkF m 241 #[.val (.int p0), .val (.ref b1), .val (.int (1 : Int32)), .val (.ref (ad 1)), .val (.int (0 : Int32))] [])) _
    refine XS.aloadN X1.here hx rfl (hb hby at_241) rfl rfl ?_
    show Steps p.tables e below (T1.setTop (mkF m 242 #[.val (.int p0), .val (.ref b1), .val (.int (1 : Int32)), .val (.ref (ad 1)), .val (.int (0 : Int32))] [(.ref (ad 1))])) _
    refine st3.trans ?_
    show Steps p.tables e below (T3.setTop (mkF m 245 #[.val (.int p0), .val (.ref b1), .val (.int (1 : Int32)), .val (.ref (ad 1)), .val (.int (0 : Int32))] [(.int (0 : Int32))])) _
    refine XS.iload X3.here hx rfl (hb hby at_245) rfl ?_
    show Steps p.tables e below (T3.setTop (mkF m 247 #[.val (.int p0), .val (.ref b1), .val (.int (1 : Int32)), .val (.ref (ad 1)), .val (.int (0 : Int32))] [(.int (0 : Int32)), (.int (0 : Int32))])) _
    refine XS.icmpNo X3.here hx rfl (hb hby at_247) rfl (teq (by decide)).2 ?_
    show Steps p.tables e below (T3.setTop (mkF m 250 #[.val (.int p0), .val (.ref b1), .val (.int (1 : Int32)), .val (.ref (ad 1)), .val (.int (0 : Int32))] [])) _
    refine XS.iconst X3.here hx rfl (hb hby at_250) ?_
    show Steps p.tables e below (T3.setTop (mkF m 251 #[.val (.int p0), .val (.ref b1), .val (.int (1 : Int32)), .val (.ref (ad 1)), .val (.int (0 : Int32))] [(.int (1 : Int32))])) _
    refine XS.goto X3.here hx rfl (pc0 := 251) (pc' := 255) rfl (hb hby at_251) (by decide) (by decide) ?_
    show Steps p.tables e below (T3.setTop (mkF m 255 #[.val (.int p0), .val (.ref b1), .val (.int (1 : Int32)), .val (.ref (ad 1)), .val (.int (0 : Int32))] [(.int (1 : Int32))])) _
    exact retN X3 hx (t := .boolean) Bd.returns (by simp) (hb hby at_255) hr
  · exact ⟨rfl, N3⟩
set_option maxRecDepth 65536 in
set_option maxHeartbeats 40000000 in
theorem rm1_ad2 (l : Launch) (Z : State) (a0 : Array Value) (hw : ∀ d ∈ tables_1, d.before a0 Z = true) (ws : List Jvm.Cond) (ad : Nat → Addr) (NF : Facts Z ad) (h0 : Heap) (n0 : Nat) (Ol : Old Z n0 h0) :
    MetFree l (⟨"com/example/pivotlex/pivotlex/terminology/IssueCode", "isOfValueSet", "()Z"⟩ : MethodName) (head1 (Jvm.Cond.code (⟨"com/example/pivotlex/pivotlex/terminology/IssueCode", "isOfValueSet", "()Z"⟩ : MethodName) prog_80_method_4_code 1 (some .boolean) :: ws) ({ frames := 0, cells := 0, slots := 0, locals := 0 } : Room)) (fun a U => a = #[(.ref (ad 2))] ∧ Z.Warmed39 U.vm ∧ U.heap = h0) (fun _ _ _ _ _ => True) (fun _ U o U' => ∃ v L, o = .returned v ∧ QS (.int (0 : Int32)) h0 n0 v U'.heap L ∧ FrameEnd U o U' L ({ frames := 0, cells := 0, slots := 0, locals := 0 } : Room).cells ({ frames := 0, cells := 0, slots := 0, locals := 0 } : Room).slots) := by
  refine MetFree.of_bodySF (plainFor_of_name pn_1) hisR ?_
  intro p e s m args below meth c s₁ Bd hml0 hP hK
  obtain ⟨rfl, hZ, hh⟩ := hP
  have hx := Bd.exec
  have hby := Bd.bytes
  have hml : c.maxLocals = 1 := hml0
  have hown : s.vm.findClass "com/example/pivotlex/pivotlex/terminology/IssueCode" = some m.cls := findClass_of_methodNamed Bd.named
  have X0 : Stand p l e ({ frames := 0, cells := 0, slots := 0, locals := 0 } : Room) s m #[(.ref (ad 2))] below meth c s₁ [] 0 0 := Stand.of_body Bd
  have e0 : s₁.heap = h0 := by rw [← hh, Bd.state]; rfl
  have N0 := Fr.nil n0
  have pre0 : ∀ t, Steps p.tables e below (s₁.setTop (mkF m 0 #[.val (.ref (ad 2))] [])) t → Steps p.tables e below (s₁.setTop (entryFrame m #[(.ref (ad 2))] 1)) t := fun t k => castTop (ef_1_R m (ad 2)) k
  obtain ⟨T1, X1, e1, st1⟩ := getS2 X0 hx hZ hown (host := "") (Or.inl (hw _ (List.mem_of_getElem? (i := 70) rfl))) Via.refl e0 ((ft_42 NF).ext Ol.2) (g := (mkF m 1 #[.val (.ref (ad 2))] [(.ref (ad 2))])) rfl (hb hby d1_1)
  obtain ⟨T2, X2, e2, st2⟩ := getS2 X1 hx hZ hown (host := "") (Or.inl (hw _ (List.mem_of_getElem? (i := 71) rfl))) Via.refl e1 ((ft_43 NF).ext Ol.2) (g := (mkF m 8 #[.val (.ref (ad 2))] [(.ref (ad 2))])) rfl (hb hby d1_8)
  obtain ⟨T3, X3, e3, st3⟩ := getS2 X2 hx hZ hown (host := "") (Or.inl (hw _ (List.mem_of_getElem? (i := 72) rfl))) Via.refl e2 ((ft_44 NF).ext Ol.2) (g := (mkF m 15 #[.val (.ref (ad 2))] [(.ref (ad 2))])) rfl (hb hby d1_15)
  obtain ⟨T4, X4, e4, st4⟩ := getS2 X3 hx hZ hown (host := "") (Or.inl (hw _ (List.mem_of_getElem? (i := 73) rfl))) Via.refl e3 ((ft_45 NF).ext Ol.2) (g := (mkF m 22 #[.val (.ref (ad 2))] [(.ref (ad 2))])) rfl (hb hby d1_22)
  obtain ⟨fs, hr, hrun, hended, hW, hsame⟩ := X4.leave (v := some (.int (0 : Int32))) (fun h => by rw [Bd.returns] at h; cases h)
  refine ⟨_, _, pre0 _ ?_, hrun, hended, _, _, rfl, ?_, ⟨_, rfl⟩, hW, hsame.mono (by decide) (by decide)⟩
  · show Steps p.tables e below (s₁.setTop (mkF m 0 #[.val (.ref (ad 2))] [])) _
    refine XS.aloadN X0.here hx rfl (hb hby d1_0) rfl rfl ?_
    show Steps p.tables e below (s₁.setTop (mkF m 1 #[.val (.ref (ad 2))] [(.ref (ad 2))])) _
    refine st1 _ ?_
    show Steps p.tables e below (T1.setTop (mkF m 4 #[.val (.ref (ad 2))] [(.ref (ad 12)), (.ref (ad 2))])) _
    refine acmp X1 hx rfl (x := (.ref (ad 2))) (y := (.ref (ad 12))) rfl rfl (pc0 := 4) (pc' := 7) (same := false) rfl (hb hby d1_4) rfl (decide_eq_false (fun h => (Fld.ne (ft_69 NF) (ft_61 NF) (by decide)) (Value.ref.inj h))) (by decide) (by decide) ?_
    show Steps p.tables e below (T1.setTop (mkF m 7 #[.val (.ref (ad 2))] [])) _
    refine XS.aloadN X1.here hx rfl (hb hby d1_7) rfl rfl ?_
    show Steps p.tables e below (T1.setTop (mkF m 8 #[.val (.ref (ad 2))] [(.ref (ad 2))])) _
    refine st2 _ ?_
    show Steps p.tables e below (T2.setTop (mkF m 11 #[.val (.ref (ad 2))] [(.ref (ad 13)), (.ref (ad 2))])) _
    refine acmp X2 hx rfl (x := (.ref (ad 2))) (y := (.ref (ad 13))) rfl rfl (pc0 := 11) (pc' := 14) (same := false) rfl (hb hby d1_11) rfl (decide_eq_false (fun h => (Fld.ne (ft_69 NF) (ft_62 NF) (by decide)) (Value.ref.inj h))) (by decide) (by decide) ?_
    show Steps p.tables e below (T2.setTop (mkF m 14 #[.val (.ref (ad 2))] [])) _
    refine XS.aloadN X2.here hx rfl (hb hby d1_14) rfl rfl ?_
    show Steps p.tables e below (T2.setTop (mkF m 15 #[.val (.ref (ad 2))] [(.ref (ad 2))])) _
    refine st3 _ ?_
    show Steps p.tables e below (T3.setTop (mkF m 18 #[.val (.ref (ad 2))] [(.ref (ad 14)), (.ref (ad 2))])) _
    refine acmp X3 hx rfl (x := (.ref (ad 2))) (y := (.ref (ad 14))) rfl rfl (pc0 := 18) (pc' := 21) (same := false) rfl (hb hby d1_18) rfl (decide_eq_false (fun h => (Fld.ne (ft_69 NF) (ft_63 NF) (by decide)) (Value.ref.inj h))) (by decide) (by decide) ?_
    show Steps p.tables e below (T3.setTop (mkF m 21 #[.val (.ref (ad 2))] [])) _
    refine XS.aloadN X3.here hx rfl (hb hby d1_21) rfl rfl ?_
    show Steps p.tables e below (T3.setTop (mkF m 22 #[.val (.ref (ad 2))] [(.ref (ad 2))])) _
    refine st4 _ ?_
    show Steps p.tables e below (T4.setTop (mkF m 25 #[.val (.ref (ad 2))] [(.ref (ad 15)), (.ref (ad 2))])) _
    refine acmp X4 hx rfl (x := (.ref (ad 2))) (y := (.ref (ad 15))) rfl rfl (pc0 := 25) (pc' := 32) (same := false) rfl (hb hby d1_25) rfl (decide_eq_false (fun h => (Fld.ne (ft_69 NF) (ft_64 NF) (by decide)) (Value.ref.inj h))) (by decide) (by decide) ?_
    show Steps p.tables e below (T4.setTop (mkF m 32 #[.val (.ref (ad 2))] [])) _
    refine XS.iconst X4.here hx rfl (hb hby d1_32) ?_
    show Steps p.tables e below (T4.setTop (mkF m 33 #[.val (.ref (ad 2))] [(.int (0 : Int32))])) _
    exact retN X4 hx (t := .boolean) Bd.returns (by simp) (hb hby d1_33) hr
  · exact ⟨rfl, N0, e4⟩
set_option maxRecDepth 65536 in
set_option maxHeartbeats 40000000 in
theorem rm0_2 (l : Launch) (Z : State) (a0 : Array Value) (hw : ∀ d ∈ tables_1, d.before a0 Z = true) (ws : List Jvm.Cond) (ad : Nat → Addr) (NF : Facts Z ad) (h0 : Heap) (n0 : Nat) (Ol : Old Z n0 h0) (p0 : Int32) (hi : (p0 &&& (2147483647 : Int32)) % (30 : Int32) = (2 : Int32)) :
    MetFree l x (head1 (Jvm.Cond.code x code maxLocals ret :: ws) room_1) (fun a U => a = #[(.int p0)] ∧ Z.Warmed39 U.vm ∧ U.heap = h0) (fun _ _ _ _ _ => True) (fun _ U o U' => ∃ v L, o = .returned v ∧ QL n0 v U'.heap L ∧ FrameEnd U o U' L room_1.cells room_1.slots) := by
  refine MetFree.of_bodySF (plainFor_of_name pn_0) hisR ?_
  intro p e s m args below meth c s₁ Bd hml0 hP hK
  obtain ⟨rfl, hZ, hh⟩ := hP
  have hx := Bd.exec
  have hby := Bd.bytes
  have hml : c.maxLocals = 5 := hml0
  have hown : s.vm.findClass "com/example/pivotlex/pivotlex/terminology/IssueCodeIsOfValueSetPinLaw" = some m.cls := findClass_of_methodNamed Bd.named
  have X0 : Stand p l e room_1 s m #[(.int p0)] below meth c s₁ [] 0 0 := Stand.of_body Bd
  have e0 : s₁.heap = h0 := by rw [← hh, Bd.state]; rfl
  have N0 := Fr.nil n0
  have pre0 : ∀ t, Steps p.tables e below (s₁.setTop (mkF m 0 #[.val (.int p0), .unset, .unset, .unset, .unset] [])) t → Steps p.tables e below (s₁.setTop (entryFrame m #[(.int p0)] maxLocals)) t := fun t k => castTop (ef_0_I m (p0)) k
  obtain ⟨T1, h1, Lc1, b1, k1, X1, e1, Ol1, K1, N1, V1, st1⟩ := fill hw ad NF h0 n0 Ol p0 X0 hx hZ hby hml hown e0
  obtain ⟨cl2, Ar2, q2, S2, M2, H2, G2⟩ := id V1
  have hin2 : ¬ ((2 : Int32) < 0 ∨ cl2.slots.size ≤ ((2 : Int32)).toNatClampNeg) := inb_of S2 ⟨by decide, by decide⟩
  have hat2 : cl2.slots[((2 : Int32)).toNatClampNeg]? = some (.ref (ad 2)) := Has.at H2 hin2 rfl
  obtain ⟨cq3, kq3, qa3, qb3, qc3⟩ := isOf hZ e1 ((ft_2 NF).ext Ol1.2)
  obtain ⟨_, _, ⟨T3, L3, k3, n3⟩, -, X3, ⟨Lc3, hQ3, l3, y3, z3⟩, st3⟩ := X1.virtualBack hx (y := (⟨"com/example/pivotlex/pivotlex/terminology/IssueCode", "isOfValueSet", "()Z"⟩ : MethodName)) (z := (⟨"com/example/pivotlex/pivotlex/terminology/IssueCode", "isOfValueSet", "()Z"⟩ : MethodName)) hown (mvT hZ (hw _ (List.mem_of_getElem? (i := 65) rfl))) (mvT hZ (hw _ (List.mem_of_getElem? (i := 66) rfl))) (notFace_of_selects (args := #[]) (mvT hZ (hw _ (List.mem_of_getElem? (i := 68) rfl)))) (mvT hZ (hw _ (List.mem_of_getElem? (i := 68) rfl))) (mvT hZ (hw _ (List.mem_of_getElem? (i := 67) rfl))) (by decide) (backOf (W := 0) (rm1_ad2 l Z a0 hw [] ad NF h1 n0 Ol1) hZ (hw _ (List.mem_of_getElem? (i := 69) rfl)) (hw _ (List.mem_of_getElem? (i := 3) rfl)) (by decide) (by decide)) qa3 qc3 (g := (mkF m 242 #[.val (.int p0), .val (.ref b1), .val (.int (2 : Int32)), .val (.ref (ad 2)), .val (.int (0 : Int32))] [(.ref (ad 2))])) rfl (by rw [hml]; rfl) (Steps.refl _) (argsL := []) (rest := []) (lenOf pd_1 rfl) rfl (by show 2 * 0 + _ ≤ _; exact Nat.le_of_eq rfl) (hb hby at_242) (fun _ _ => ⟨rfl, e1, (by decide : 1 + 0 ≤ _), (by decide : 30 + 0 ≤ _)⟩)
  dsimp only [Pt.U, Pt.locs, Pt.cells, Pt.slots] at X3 l3 y3 z3 st3 hQ3
  subst l3 y3 z3
  obtain ⟨rfl, Nq3, e3⟩ := hQ3
  have N3 := Fr.app N1 Nq3
  obtain ⟨fs, hr, hrun, hended, hW, hsame⟩ := X3.leave (v := some (.int (1 : Int32))) (fun h => by rw [Bd.returns] at h; cases h)
  refine ⟨_, _, pre0 _ ?_, hrun, hended, _, _, rfl, ?_, ⟨_, rfl⟩, hW, hsame.mono (by decide) (by decide)⟩
  · show Steps p.tables e below (s₁.setTop (mkF m 0 #[.val (.int p0), .unset, .unset, .unset, .unset] [])) _
    refine st1 _ ?_
    show Steps p.tables e below (T1.setTop (mkF m 210 #[.val (.int p0), .val (.ref b1), .unset, .unset, .unset] [])) _
    refine XS.iloadN X1.here hx rfl (hb hby at_210) rfl ?_
    show Steps p.tables e below (T1.setTop (mkF m 211 #[.val (.int p0), .val (.ref b1), .unset, .unset, .unset] [(.int p0)])) _
    refine X1.ldcInt hx hown (mvT hZ (hw _ (List.mem_of_getElem? (i := 64) rfl))) (g := (mkF m 211 #[.val (.int p0), .val (.ref b1), .unset, .unset, .unset] [(.int p0)])) rfl (hb hby at_211) _ ?_
    show Steps p.tables e below (T1.setTop (mkF m 213 #[.val (.int p0), .val (.ref b1), .unset, .unset, .unset] [(.int (2147483647 : Int32)), (.int p0)])) _
    refine XS.iand X1.here hx rfl (hb hby at_213) rfl ?_
    show Steps p.tables e below (T1.setTop (mkF m 214 #[.val (.int p0), .val (.ref b1), .unset, .unset, .unset] [(.int (p0 &&& (2147483647 : Int32)))])) _
    refine XS.bipush X1.here hx rfl (hb hby at_214) ?_
    show Steps p.tables e below (T1.setTop (mkF m 216 #[.val (.int p0), .val (.ref b1), .unset, .unset, .unset] [(.int (30 : Int32)), (.int (p0 &&& (2147483647 : Int32)))])) _
    refine iremM X1 hx rfl (hb hby at_216) rfl (by decide) ?_
    show Steps p.tables e below (T1.setTop (mkF m 217 #[.val (.int p0), .val (.ref b1), .unset, .unset, .unset] [(.int ((p0 &&& (2147483647 : Int32)) % (30 : Int32)))])) _
    rw [hi]
    show Steps p.tables e below (T1.setTop (mkF m 217 #[.val (.int p0), .val (.ref b1), .unset, .unset, .unset] [(.int (2 : Int32))])) _
    refine XS.istoreN X1.here hx rfl (hb hby at_217) rfl (l' := #[.val (.int p0), .val (.ref b1), .val (.int (2 : Int32)), .unset, .unset]) rfl ?_
    show Steps p.tables e below (T1.setTop (mkF m 218 #[.val (.int p0), .val (.ref b1), .val (.int (2 : Int32)), .unset, .unset] [])) _
    refine XS.aloadN X1.here hx rfl (hb hby at_218) rfl rfl ?_
    show Steps p.tables e below (T1.setTop (mkF m 219 #[.val (.int p0), .val (.ref b1), .val (.int (2 : Int32)), .unset, .unset] [(.ref b1)])) _
    refine XS.iloadN X1.here hx rfl (hb hby at_219) rfl ?_
    show Steps p.tables e below (T1.setTop (mkF m 220 #[.val (.int p0), .val (.ref b1), .val (.int (2 : Int32)), .unset, .unset] [(.int (2 : Int32)), (.ref b1)])) _
    refine X1.aaload hx (j := (2 : Int32)) (v := (.ref (ad 2))) (by rw [e1]; exact Ar2.1) (State.isArrayOf_alike hZ.alike Ar2.2.1) rfl Ar2.2.2 hin2 hat2 (g := (mkF m 220 #[.val (.int p0), .val (.ref b1), .val (.int (2 : Int32)), .unset, .unset] [(.int (2 : Int32)), (.ref b1)])) rfl rfl (hb hby at_220) _ ?_
    show Steps p.tables e below (T1.setTop (mkF m 221 #[.val (.int p0), .val (.ref b1), .val (.int (2 : Int32)), .unset, .unset] [(.ref (ad 2))])) _
    refine XS.astoreN X1.here hx rfl (hb hby at_221) rfl rfl (l' := #[.val (.int p0), .val (.ref b1), .val (.int (2 : Int32)), .val (.ref (ad 2)), .unset]) rfl ?_
    show Steps p.tables e below (T1.setTop (mkF m 222 #[.val (.int p0), .val (.ref b1), .val (.int (2 : Int32)), .val (.ref (ad 2)), .unset] [])) _
    refine XS.iloadN X1.here hx rfl (hb hby at_222) rfl ?_
    show Steps p.tables e below (T1.setTop (mkF m 223 #[.val (.int p0), .val (.ref b1), .val (.int (2 : Int32)), .val (.ref (ad 2)), .unset] [(.int (2 : Int32))])) _
    refine XS.bipush X1.here hx rfl (hb hby at_223) ?_
    show Steps p.tables e below (T1.setTop (mkF m 225 #[.val (.int p0), .val (.ref b1), .val (.int (2 : Int32)), .val (.ref (ad 2)), .unset] [(.int (12 : Int32)), (.int (2 : Int32))])) _
    refine XS.icmpYes X1.here hx rfl (pc0 := 225) (pc' := 238) rfl (hb hby at_225) rfl (tlt (by decide)).1 (by decide) (by decide) ?_
    show Steps p.tables e below (T1.setTop (mkF m 238 #[.val (.int p0), .val (.ref b1), .val (.int (2 : Int32)), .val (.ref (ad 2)), .unset] [])) _
    refine XS.iconst X1.here hx rfl (hb hby at_238) ?_
    show Steps p.tables e below (T1.setTop (mkF m 239 #[.val (.int p0), .val (.ref b1), .val (.int (2 : Int32)), .val (.ref (ad 2)), .unset] [(.int (0 : Int32))])) _
    refine XS.istore X1.here hx rfl (hb hby at_239) rfl (l' := #[.val (.int p0), .val (.ref b1), .val (.int (2 : Int32)), .val (.ref (ad 2)), .val (.int (0 : Int32))]) rfl ?_
    show Steps p.tables e below (T1.setTop (mkF m 241 #[.val (.int p0), .val (.ref b1), .val (.int (2 : Int32)), .val (.ref (ad 2)), .val (.int (0 : Int32))] [])) _
    refine XS.aloadN X1.here hx rfl (hb hby at_241) rfl rfl ?_
    show Steps p.tables e below (T1.setTop (mkF m 242 #[.val (.int p0), .val (.ref b1), .val (.int (2 : Int32)), .val (.ref (ad 2)), .val (.int (0 : Int32))] [(.ref (ad 2))])) _
    refine st3.trans ?_
    show Steps p.tables e below (T3.setTop (mkF m 245 #[.val (.int p0), .val (.ref b1), .val (.int (2 : Int32)), .val (.ref (ad 2)), .val (.int (0 : Int32))] [(.int (0 : Int32))])) _
    refine XS.iload X3.here hx rfl (hb hby at_245) rfl ?_
    show Steps p.tables e below (T3.setTop (mkF m 247 #[.val (.int p0), .val (.ref b1), .val (.int (2 : Int32)), .val (.ref (ad 2)), .val (.int (0 : Int32))] [(.int (0 : Int32)), (.int (0 : Int32))])) _
    refine XS.icmpNo X3.here hx rfl (hb hby at_247) rfl (teq (by decide)).2 ?_
    show Steps p.tables e below (T3.setTop (mkF m 250 #[.val (.int p0), .val (.ref b1), .val (.int (2 : Int32)), .val (.ref (ad 2)), .val (.int (0 : Int32))] [])) _
    refine XS.iconst X3.here hx rfl (hb hby at_250) ?_
    show Steps p.tables e below (T3.setTop (mkF m 251 #[.val (.int p0), .val (.ref b1), .val (.int (2 : Int32)), .val (.ref (ad 2)), .val (.int (0 : Int32))] [(.int (1 : Int32))])) _
    refine XS.goto X3.here hx rfl (pc0 := 251) (pc' := 255) rfl (hb hby at_251) (by decide) (by decide) ?_
    show Steps p.tables e below (T3.setTop (mkF m 255 #[.val (.int p0), .val (.ref b1), .val (.int (2 : Int32)), .val (.ref (ad 2)), .val (.int (0 : Int32))] [(.int (1 : Int32))])) _
    exact retN X3 hx (t := .boolean) Bd.returns (by simp) (hb hby at_255) hr
  · exact ⟨rfl, N3⟩
set_option maxRecDepth 65536 in
set_option maxHeartbeats 40000000 in
theorem rm1_ad3 (l : Launch) (Z : State) (a0 : Array Value) (hw : ∀ d ∈ tables_1, d.before a0 Z = true) (ws : List Jvm.Cond) (ad : Nat → Addr) (NF : Facts Z ad) (h0 : Heap) (n0 : Nat) (Ol : Old Z n0 h0) :
    MetFree l (⟨"com/example/pivotlex/pivotlex/terminology/IssueCode", "isOfValueSet", "()Z"⟩ : MethodName) (head1 (Jvm.Cond.code (⟨"com/example/pivotlex/pivotlex/terminology/IssueCode", "isOfValueSet", "()Z"⟩ : MethodName) prog_80_method_4_code 1 (some .boolean) :: ws) ({ frames := 0, cells := 0, slots := 0, locals := 0 } : Room)) (fun a U => a = #[(.ref (ad 3))] ∧ Z.Warmed39 U.vm ∧ U.heap = h0) (fun _ _ _ _ _ => True) (fun _ U o U' => ∃ v L, o = .returned v ∧ QS (.int (0 : Int32)) h0 n0 v U'.heap L ∧ FrameEnd U o U' L ({ frames := 0, cells := 0, slots := 0, locals := 0 } : Room).cells ({ frames := 0, cells := 0, slots := 0, locals := 0 } : Room).slots) := by
  refine MetFree.of_bodySF (plainFor_of_name pn_1) hisR ?_
  intro p e s m args below meth c s₁ Bd hml0 hP hK
  obtain ⟨rfl, hZ, hh⟩ := hP
  have hx := Bd.exec
  have hby := Bd.bytes
  have hml : c.maxLocals = 1 := hml0
  have hown : s.vm.findClass "com/example/pivotlex/pivotlex/terminology/IssueCode" = some m.cls := findClass_of_methodNamed Bd.named
  have X0 : Stand p l e ({ frames := 0, cells := 0, slots := 0, locals := 0 } : Room) s m #[(.ref (ad 3))] below meth c s₁ [] 0 0 := Stand.of_body Bd
  have e0 : s₁.heap = h0 := by rw [← hh, Bd.state]; rfl
  have N0 := Fr.nil n0
  have pre0 : ∀ t, Steps p.tables e below (s₁.setTop (mkF m 0 #[.val (.ref (ad 3))] [])) t → Steps p.tables e below (s₁.setTop (entryFrame m #[(.ref (ad 3))] 1)) t := fun t k => castTop (ef_1_R m (ad 3)) k
  obtain ⟨T1, X1, e1, st1⟩ := getS2 X0 hx hZ hown (host := "") (Or.inl (hw _ (List.mem_of_getElem? (i := 70) rfl))) Via.refl e0 ((ft_42 NF).ext Ol.2) (g := (mkF m 1 #[.val (.ref (ad 3))] [(.ref (ad 3))])) rfl (hb hby d1_1)
  obtain ⟨T2, X2, e2, st2⟩ := getS2 X1 hx hZ hown (host := "") (Or.inl (hw _ (List.mem_of_getElem? (i := 71) rfl))) Via.refl e1 ((ft_43 NF).ext Ol.2) (g := (mkF m 8 #[.val (.ref (ad 3))] [(.ref (ad 3))])) rfl (hb hby d1_8)
  obtain ⟨T3, X3, e3, st3⟩ := getS2 X2 hx hZ hown (host := "") (Or.inl (hw _ (List.mem_of_getElem? (i := 72) rfl))) Via.refl e2 ((ft_44 NF).ext Ol.2) (g := (mkF m 15 #[.val (.ref (ad 3))] [(.ref (ad 3))])) rfl (hb hby d1_15)
  obtain ⟨T4, X4, e4, st4⟩ := getS2 X3 hx hZ hown (host := "") (Or.inl (hw _ (List.mem_of_getElem? (i := 73) rfl))) Via.refl e3 ((ft_45 NF).ext Ol.2) (g := (mkF m 22 #[.val (.ref (ad 3))] [(.ref (ad 3))])) rfl (hb hby d1_22)
  obtain ⟨fs, hr, hrun, hended, hW, hsame⟩ := X4.leave (v := some (.int (0 : Int32))) (fun h => by rw [Bd.returns] at h; cases h)
  refine ⟨_, _, pre0 _ ?_, hrun, hended, _, _, rfl, ?_, ⟨_, rfl⟩, hW, hsame.mono (by decide) (by decide)⟩
  · show Steps p.tables e below (s₁.setTop (mkF m 0 #[.val (.ref (ad 3))] [])) _
    refine XS.aloadN X0.here hx rfl (hb hby d1_0) rfl rfl ?_
    show Steps p.tables e below (s₁.setTop (mkF m 1 #[.val (.ref (ad 3))] [(.ref (ad 3))])) _
    refine st1 _ ?_
    show Steps p.tables e below (T1.setTop (mkF m 4 #[.val (.ref (ad 3))] [(.ref (ad 12)), (.ref (ad 3))])) _
    refine acmp X1 hx rfl (x := (.ref (ad 3))) (y := (.ref (ad 12))) rfl rfl (pc0 := 4) (pc' := 7) (same := false) rfl (hb hby d1_4) rfl (decide_eq_false (fun h => (Fld.ne (ft_65 NF) (ft_61 NF) (by decide)) (Value.ref.inj h))) (by decide) (by decide) ?_
    show Steps p.tables e below (T1.setTop (mkF m 7 #[.val (.ref (ad 3))] [])) _
    refine XS.aloadN X1.here hx rfl (hb hby d1_7) rfl rfl ?_
    show Steps p.tables e below (T1.setTop (mkF m 8 #[.val (.ref (ad 3))] [(.ref (ad 3))])) _
    refine st2 _ ?_
    show Steps p.tables e below (T2.setTop (mkF m 11 #[.val (.ref (ad 3))] [(.ref (ad 13)), (.ref (ad 3))])) _
    refine acmp X2 hx rfl (x := (.ref (ad 3))) (y := (.ref (ad 13))) rfl rfl (pc0 := 11) (pc' := 14) (same := false) rfl (hb hby d1_11) rfl (decide_eq_false (fun h => (Fld.ne (ft_65 NF) (ft_62 NF) (by decide)) (Value.ref.inj h))) (by decide) (by decide) ?_
    show Steps p.tables e below (T2.setTop (mkF m 14 #[.val (.ref (ad 3))] [])) _
    refine XS.aloadN X2.here hx rfl (hb hby d1_14) rfl rfl ?_
    show Steps p.tables e below (T2.setTop (mkF m 15 #[.val (.ref (ad 3))] [(.ref (ad 3))])) _
    refine st3 _ ?_
    show Steps p.tables e below (T3.setTop (mkF m 18 #[.val (.ref (ad 3))] [(.ref (ad 14)), (.ref (ad 3))])) _
    refine acmp X3 hx rfl (x := (.ref (ad 3))) (y := (.ref (ad 14))) rfl rfl (pc0 := 18) (pc' := 21) (same := false) rfl (hb hby d1_18) rfl (decide_eq_false (fun h => (Fld.ne (ft_65 NF) (ft_63 NF) (by decide)) (Value.ref.inj h))) (by decide) (by decide) ?_
    show Steps p.tables e below (T3.setTop (mkF m 21 #[.val (.ref (ad 3))] [])) _
    refine XS.aloadN X3.here hx rfl (hb hby d1_21) rfl rfl ?_
    show Steps p.tables e below (T3.setTop (mkF m 22 #[.val (.ref (ad 3))] [(.ref (ad 3))])) _
    refine st4 _ ?_
    show Steps p.tables e below (T4.setTop (mkF m 25 #[.val (.ref (ad 3))] [(.ref (ad 15)), (.ref (ad 3))])) _
    refine acmp X4 hx rfl (x := (.ref (ad 3))) (y := (.ref (ad 15))) rfl rfl (pc0 := 25) (pc' := 32) (same := false) rfl (hb hby d1_25) rfl (decide_eq_false (fun h => (Fld.ne (ft_65 NF) (ft_64 NF) (by decide)) (Value.ref.inj h))) (by decide) (by decide) ?_
    show Steps p.tables e below (T4.setTop (mkF m 32 #[.val (.ref (ad 3))] [])) _
    refine XS.iconst X4.here hx rfl (hb hby d1_32) ?_
    show Steps p.tables e below (T4.setTop (mkF m 33 #[.val (.ref (ad 3))] [(.int (0 : Int32))])) _
    exact retN X4 hx (t := .boolean) Bd.returns (by simp) (hb hby d1_33) hr
  · exact ⟨rfl, N0, e4⟩
set_option maxRecDepth 65536 in
set_option maxHeartbeats 40000000 in
theorem rm0_3 (l : Launch) (Z : State) (a0 : Array Value) (hw : ∀ d ∈ tables_1, d.before a0 Z = true) (ws : List Jvm.Cond) (ad : Nat → Addr) (NF : Facts Z ad) (h0 : Heap) (n0 : Nat) (Ol : Old Z n0 h0) (p0 : Int32) (hi : (p0 &&& (2147483647 : Int32)) % (30 : Int32) = (3 : Int32)) :
    MetFree l x (head1 (Jvm.Cond.code x code maxLocals ret :: ws) room_1) (fun a U => a = #[(.int p0)] ∧ Z.Warmed39 U.vm ∧ U.heap = h0) (fun _ _ _ _ _ => True) (fun _ U o U' => ∃ v L, o = .returned v ∧ QL n0 v U'.heap L ∧ FrameEnd U o U' L room_1.cells room_1.slots) := by
  refine MetFree.of_bodySF (plainFor_of_name pn_0) hisR ?_
  intro p e s m args below meth c s₁ Bd hml0 hP hK
  obtain ⟨rfl, hZ, hh⟩ := hP
  have hx := Bd.exec
  have hby := Bd.bytes
  have hml : c.maxLocals = 5 := hml0
  have hown : s.vm.findClass "com/example/pivotlex/pivotlex/terminology/IssueCodeIsOfValueSetPinLaw" = some m.cls := findClass_of_methodNamed Bd.named
  have X0 : Stand p l e room_1 s m #[(.int p0)] below meth c s₁ [] 0 0 := Stand.of_body Bd
  have e0 : s₁.heap = h0 := by rw [← hh, Bd.state]; rfl
  have N0 := Fr.nil n0
  have pre0 : ∀ t, Steps p.tables e below (s₁.setTop (mkF m 0 #[.val (.int p0), .unset, .unset, .unset, .unset] [])) t → Steps p.tables e below (s₁.setTop (entryFrame m #[(.int p0)] maxLocals)) t := fun t k => castTop (ef_0_I m (p0)) k
  obtain ⟨T1, h1, Lc1, b1, k1, X1, e1, Ol1, K1, N1, V1, st1⟩ := fill hw ad NF h0 n0 Ol p0 X0 hx hZ hby hml hown e0
  obtain ⟨cl2, Ar2, q2, S2, M2, H2, G2⟩ := id V1
  have hin2 : ¬ ((3 : Int32) < 0 ∨ cl2.slots.size ≤ ((3 : Int32)).toNatClampNeg) := inb_of S2 ⟨by decide, by decide⟩
  have hat2 : cl2.slots[((3 : Int32)).toNatClampNeg]? = some (.ref (ad 3)) := Has.at H2 hin2 rfl
  obtain ⟨cq3, kq3, qa3, qb3, qc3⟩ := isOf hZ e1 ((ft_3 NF).ext Ol1.2)
  obtain ⟨_, _, ⟨T3, L3, k3, n3⟩, -, X3, ⟨Lc3, hQ3, l3, y3, z3⟩, st3⟩ := X1.virtualBack hx (y := (⟨"com/example/pivotlex/pivotlex/terminology/IssueCode", "isOfValueSet", "()Z"⟩ : MethodName)) (z := (⟨"com/example/pivotlex/pivotlex/terminology/IssueCode", "isOfValueSet", "()Z"⟩ : MethodName)) hown (mvT hZ (hw _ (List.mem_of_getElem? (i := 65) rfl))) (mvT hZ (hw _ (List.mem_of_getElem? (i := 66) rfl))) (notFace_of_selects (args := #[]) (mvT hZ (hw _ (List.mem_of_getElem? (i := 68) rfl)))) (mvT hZ (hw _ (List.mem_of_getElem? (i := 68) rfl))) (mvT hZ (hw _ (List.mem_of_getElem? (i := 67) rfl))) (by decide) (backOf (W := 0) (rm1_ad3 l Z a0 hw [] ad NF h1 n0 Ol1) hZ (hw _ (List.mem_of_getElem? (i := 69) rfl)) (hw _ (List.mem_of_getElem? (i := 3) rfl)) (by decide) (by decide)) qa3 qc3 (g := (mkF m 242 #[.val (.int p0), .val (.ref b1), .val (.int (3 : Int32)), .val (.ref (ad 3)), .val (.int (0 : Int32))] [(.ref (ad 3))])) rfl (by rw [hml]; rfl) (Steps.refl _) (argsL := []) (rest := []) (lenOf pd_1 rfl) rfl (by show 2 * 0 + _ ≤ _; exact Nat.le_of_eq rfl) (hb hby at_242) (fun _ _ => ⟨rfl, e1, (by decide : 1 + 0 ≤ _), (by decide : 30 + 0 ≤ _)⟩)
  dsimp only [Pt.U, Pt.locs, Pt.cells, Pt.slots] at X3 l3 y3 z3 st3 hQ3
  subst l3 y3 z3
  obtain ⟨rfl, Nq3, e3⟩ := hQ3
  have N3 := Fr.app N1 Nq3
  obtain ⟨fs, hr, hrun, hended, hW, hsame⟩ := X3.leave (v := some (.int (1 : Int32))) (fun h => by rw [Bd.returns] at h; cases h)
  refine ⟨_, _, pre0 _ ?_, hrun, hended, _, _, rfl, ?_, ⟨_, rfl⟩, hW, hsame.mono (by decide) (by decide)⟩
  · show Steps p.tables e below (s₁.setTop (mkF m 0 #[.val (.int p0), .unset, .unset, .unset, .unset] [])) _
    refine st1 _ ?_
    show Steps p.tables e below (T1.setTop (mkF m 210 #[.val (.int p0), .val (.ref b1), .unset, .unset, .unset] [])) _
    refine XS.iloadN X1.here hx rfl (hb hby at_210) rfl ?_
    show Steps p.tables e below (T1.setTop (mkF m 211 #[.val (.int p0), .val (.ref b1), .unset, .unset, .unset] [(.int p0)])) _
    refine X1.ldcInt hx hown (mvT hZ (hw _ (List.mem_of_getElem? (i := 64) rfl))) (g := (mkF m 211 #[.val (.int p0), .val (.ref b1), .unset, .unset, .unset] [(.int p0)])) rfl (hb hby at_211) _ ?_
    show Steps p.tables e below (T1.setTop (mkF m 213 #[.val (.int p0), .val (.ref b1), .unset, .unset, .unset] [(.int (2147483647 : Int32)), (.int p0)])) _
    refine XS.iand X1.here hx rfl (hb hby at_213) rfl ?_
    show Steps p.tables e below (T1.setTop (mkF m 214 #[.val (.int p0), .val (.ref b1), .unset, .unset, .unset] [(.int (p0 &&& (2147483647 : Int32)))])) _
    refine XS.bipush X1.here hx rfl (hb hby at_214) ?_
    show Steps p.tables e below (T1.setTop (mkF m 216 #[.val (.int p0), .val (.ref b1), .unset, .unset, .unset] [(.int (30 : Int32)), (.int (p0 &&& (2147483647 : Int32)))])) _
    refine iremM X1 hx rfl (hb hby at_216) rfl (by decide) ?_
    show Steps p.tables e below (T1.setTop (mkF m 217 #[.val (.int p0), .val (.ref b1), .unset, .unset, .unset] [(.int ((p0 &&& (2147483647 : Int32)) % (30 : Int32)))])) _
    rw [hi]
    show Steps p.tables e below (T1.setTop (mkF m 217 #[.val (.int p0), .val (.ref b1), .unset, .unset, .unset] [(.int (3 : Int32))])) _
    refine XS.istoreN X1.here hx rfl (hb hby at_217) rfl (l' := #[.val (.int p0), .val (.ref b1), .val (.int (3 : Int32)), .unset, .unset]) rfl ?_
    show Steps p.tables e below (T1.setTop (mkF m 218 #[.val (.int p0), .val (.ref b1), .val (.int (3 : Int32)), .unset, .unset] [])) _
    refine XS.aloadN X1.here hx rfl (hb hby at_218) rfl rfl ?_
    show Steps p.tables e below (T1.setTop (mkF m 219 #[.val (.int p0), .val (.ref b1), .val (.int (3 : Int32)), .unset, .unset] [(.ref b1)])) _
    refine XS.iloadN X1.here hx rfl (hb hby at_219) rfl ?_
    show Steps p.tables e below (T1.setTop (mkF m 220 #[.val (.int p0), .val (.ref b1), .val (.int (3 : Int32)), .unset, .unset] [(.int (3 : Int32)), (.ref b1)])) _
    refine X1.aaload hx (j := (3 : Int32)) (v := (.ref (ad 3))) (by rw [e1]; exact Ar2.1) (State.isArrayOf_alike hZ.alike Ar2.2.1) rfl Ar2.2.2 hin2 hat2 (g := (mkF m 220 #[.val (.int p0), .val (.ref b1), .val (.int (3 : Int32)), .unset, .unset] [(.int (3 : Int32)), (.ref b1)])) rfl rfl (hb hby at_220) _ ?_
    show Steps p.tables e below (T1.setTop (mkF m 221 #[.val (.int p0), .val (.ref b1), .val (.int (3 : Int32)), .unset, .unset] [(.ref (ad 3))])) _
    refine XS.astoreN X1.here hx rfl (hb hby at_221) rfl rfl (l' := #[.val (.int p0), .val (.ref b1), .val (.int (3 : Int32)), .val (.ref (ad 3)), .unset]) rfl ?_
    show Steps p.tables e below (T1.setTop (mkF m 222 #[.val (.int p0), .val (.ref b1), .val (.int (3 : Int32)), .val (.ref (ad 3)), .unset] [])) _
    refine XS.iloadN X1.here hx rfl (hb hby at_222) rfl ?_
    show Steps p.tables e below (T1.setTop (mkF m 223 #[.val (.int p0), .val (.ref b1), .val (.int (3 : Int32)), .val (.ref (ad 3)), .unset] [(.int (3 : Int32))])) _
    refine XS.bipush X1.here hx rfl (hb hby at_223) ?_
    show Steps p.tables e below (T1.setTop (mkF m 225 #[.val (.int p0), .val (.ref b1), .val (.int (3 : Int32)), .val (.ref (ad 3)), .unset] [(.int (12 : Int32)), (.int (3 : Int32))])) _
    refine XS.icmpYes X1.here hx rfl (pc0 := 225) (pc' := 238) rfl (hb hby at_225) rfl (tlt (by decide)).1 (by decide) (by decide) ?_
    show Steps p.tables e below (T1.setTop (mkF m 238 #[.val (.int p0), .val (.ref b1), .val (.int (3 : Int32)), .val (.ref (ad 3)), .unset] [])) _
    refine XS.iconst X1.here hx rfl (hb hby at_238) ?_
    show Steps p.tables e below (T1.setTop (mkF m 239 #[.val (.int p0), .val (.ref b1), .val (.int (3 : Int32)), .val (.ref (ad 3)), .unset] [(.int (0 : Int32))])) _
    refine XS.istore X1.here hx rfl (hb hby at_239) rfl (l' := #[.val (.int p0), .val (.ref b1), .val (.int (3 : Int32)), .val (.ref (ad 3)), .val (.int (0 : Int32))]) rfl ?_
    show Steps p.tables e below (T1.setTop (mkF m 241 #[.val (.int p0), .val (.ref b1), .val (.int (3 : Int32)), .val (.ref (ad 3)), .val (.int (0 : Int32))] [])) _
    refine XS.aloadN X1.here hx rfl (hb hby at_241) rfl rfl ?_
    show Steps p.tables e below (T1.setTop (mkF m 242 #[.val (.int p0), .val (.ref b1), .val (.int (3 : Int32)), .val (.ref (ad 3)), .val (.int (0 : Int32))] [(.ref (ad 3))])) _
    refine st3.trans ?_
    show Steps p.tables e below (T3.setTop (mkF m 245 #[.val (.int p0), .val (.ref b1), .val (.int (3 : Int32)), .val (.ref (ad 3)), .val (.int (0 : Int32))] [(.int (0 : Int32))])) _
    refine XS.iload X3.here hx rfl (hb hby at_245) rfl ?_
    show Steps p.tables e below (T3.setTop (mkF m 247 #[.val (.int p0), .val (.ref b1), .val (.int (3 : Int32)), .val (.ref (ad 3)), .val (.int (0 : Int32))] [(.int (0 : Int32)), (.int (0 : Int32))])) _
    refine XS.icmpNo X3.here hx rfl (hb hby at_247) rfl (teq (by decide)).2 ?_
    show Steps p.tables e below (T3.setTop (mkF m 250 #[.val (.int p0), .val (.ref b1), .val (.int (3 : Int32)), .val (.ref (ad 3)), .val (.int (0 : Int32))] [])) _
    refine XS.iconst X3.here hx rfl (hb hby at_250) ?_
    show Steps p.tables e below (T3.setTop (mkF m 251 #[.val (.int p0), .val (.ref b1), .val (.int (3 : Int32)), .val (.ref (ad 3)), .val (.int (0 : Int32))] [(.int (1 : Int32))])) _
    refine XS.goto X3.here hx rfl (pc0 := 251) (pc' := 255) rfl (hb hby at_251) (by decide) (by decide) ?_
    show Steps p.tables e below (T3.setTop (mkF m 255 #[.val (.int p0), .val (.ref b1), .val (.int (3 : Int32)), .val (.ref (ad 3)), .val (.int (0 : Int32))] [(.int (1 : Int32))])) _
    exact retN X3 hx (t := .boolean) Bd.returns (by simp) (hb hby at_255) hr
  · exact ⟨rfl, N3⟩
set_option maxRecDepth 65536 in
set_option maxHeartbeats 40000000 in
theorem rm1_ad4 (l : Launch) (Z : State) (a0 : Array Value) (hw : ∀ d ∈ tables_1, d.before a0 Z = true) (ws : List Jvm.Cond) (ad : Nat → Addr) (NF : Facts Z ad) (h0 : Heap) (n0 : Nat) (Ol : Old Z n0 h0) :
    MetFree l (⟨"com/example/pivotlex/pivotlex/terminology/IssueCode", "isOfValueSet", "()Z"⟩ : MethodName) (head1 (Jvm.Cond.code (⟨"com/example/pivotlex/pivotlex/terminology/IssueCode", "isOfValueSet", "()Z"⟩ : MethodName) prog_80_method_4_code 1 (some .boolean) :: ws) ({ frames := 0, cells := 0, slots := 0, locals := 0 } : Room)) (fun a U => a = #[(.ref (ad 4))] ∧ Z.Warmed39 U.vm ∧ U.heap = h0) (fun _ _ _ _ _ => True) (fun _ U o U' => ∃ v L, o = .returned v ∧ QS (.int (0 : Int32)) h0 n0 v U'.heap L ∧ FrameEnd U o U' L ({ frames := 0, cells := 0, slots := 0, locals := 0 } : Room).cells ({ frames := 0, cells := 0, slots := 0, locals := 0 } : Room).slots) := by
  refine MetFree.of_bodySF (plainFor_of_name pn_1) hisR ?_
  intro p e s m args below meth c s₁ Bd hml0 hP hK
  obtain ⟨rfl, hZ, hh⟩ := hP
  have hx := Bd.exec
  have hby := Bd.bytes
  have hml : c.maxLocals = 1 := hml0
  have hown : s.vm.findClass "com/example/pivotlex/pivotlex/terminology/IssueCode" = some m.cls := findClass_of_methodNamed Bd.named
  have X0 : Stand p l e ({ frames := 0, cells := 0, slots := 0, locals := 0 } : Room) s m #[(.ref (ad 4))] below meth c s₁ [] 0 0 := Stand.of_body Bd
  have e0 : s₁.heap = h0 := by rw [← hh, Bd.state]; rfl
  have N0 := Fr.nil n0
  have pre0 : ∀ t, Steps p.tables e below (s₁.setTop (mkF m 0 #[.val (.ref (ad 4))] [])) t → Steps p.tables e below (s₁.setTop (entryFrame m #[(.ref (ad 4))] 1)) t := fun t k => castTop (ef_1_R m (ad 4)) k
  obtain ⟨T1, X1, e1, st1⟩ := getS2 X0 hx hZ hown (host := "") (Or.inl (hw _ (List.mem_of_getElem? (i := 70) rfl))) Via.refl e0 ((ft_42 NF).ext Ol.2) (g := (mkF m 1 #[.val (.ref (ad 4))] [(.ref (ad 4))])) rfl (hb hby d1_1)
  obtain ⟨T2, X2, e2, st2⟩ := getS2 X1 hx hZ hown (host := "") (Or.inl (hw _ (List.mem_of_getElem? (i := 71) rfl))) Via.refl e1 ((ft_43 NF).ext Ol.2) (g := (mkF m 8 #[.val (.ref (ad 4))] [(.ref (ad 4))])) rfl (hb hby d1_8)
  obtain ⟨T3, X3, e3, st3⟩ := getS2 X2 hx hZ hown (host := "") (Or.inl (hw _ (List.mem_of_getElem? (i := 72) rfl))) Via.refl e2 ((ft_44 NF).ext Ol.2) (g := (mkF m 15 #[.val (.ref (ad 4))] [(.ref (ad 4))])) rfl (hb hby d1_15)
  obtain ⟨T4, X4, e4, st4⟩ := getS2 X3 hx hZ hown (host := "") (Or.inl (hw _ (List.mem_of_getElem? (i := 73) rfl))) Via.refl e3 ((ft_45 NF).ext Ol.2) (g := (mkF m 22 #[.val (.ref (ad 4))] [(.ref (ad 4))])) rfl (hb hby d1_22)
  obtain ⟨fs, hr, hrun, hended, hW, hsame⟩ := X4.leave (v := some (.int (0 : Int32))) (fun h => by rw [Bd.returns] at h; cases h)
  refine ⟨_, _, pre0 _ ?_, hrun, hended, _, _, rfl, ?_, ⟨_, rfl⟩, hW, hsame.mono (by decide) (by decide)⟩
  · show Steps p.tables e below (s₁.setTop (mkF m 0 #[.val (.ref (ad 4))] [])) _
    refine XS.aloadN X0.here hx rfl (hb hby d1_0) rfl rfl ?_
    show Steps p.tables e below (s₁.setTop (mkF m 1 #[.val (.ref (ad 4))] [(.ref (ad 4))])) _
    refine st1 _ ?_
    show Steps p.tables e below (T1.setTop (mkF m 4 #[.val (.ref (ad 4))] [(.ref (ad 12)), (.ref (ad 4))])) _
    refine acmp X1 hx rfl (x := (.ref (ad 4))) (y := (.ref (ad 12))) rfl rfl (pc0 := 4) (pc' := 7) (same := false) rfl (hb hby d1_4) rfl (decide_eq_false (fun h => (Fld.ne (ft_86 NF) (ft_61 NF) (by decide)) (Value.ref.inj h))) (by decide) (by decide) ?_
    show Steps p.tables e below (T1.setTop (mkF m 7 #[.val (.ref (ad 4))] [])) _
    refine XS.aloadN X1.here hx rfl (hb hby d1_7) rfl rfl ?_
    show Steps p.tables e below (T1.setTop (mkF m 8 #[.val (.ref (ad 4))] [(.ref (ad 4))])) _
    refine st2 _ ?_
    show Steps p.tables e below (T2.setTop (mkF m 11 #[.val (.ref (ad 4))] [(.ref (ad 13)), (.ref (ad 4))])) _
    refine acmp X2 hx rfl (x := (.ref (ad 4))) (y := (.ref (ad 13))) rfl rfl (pc0 := 11) (pc' := 14) (same := false) rfl (hb hby d1_11) rfl (decide_eq_false (fun h => (Fld.ne (ft_86 NF) (ft_62 NF) (by decide)) (Value.ref.inj h))) (by decide) (by decide) ?_
    show Steps p.tables e below (T2.setTop (mkF m 14 #[.val (.ref (ad 4))] [])) _
    refine XS.aloadN X2.here hx rfl (hb hby d1_14) rfl rfl ?_
    show Steps p.tables e below (T2.setTop (mkF m 15 #[.val (.ref (ad 4))] [(.ref (ad 4))])) _
    refine st3 _ ?_
    show Steps p.tables e below (T3.setTop (mkF m 18 #[.val (.ref (ad 4))] [(.ref (ad 14)), (.ref (ad 4))])) _
    refine acmp X3 hx rfl (x := (.ref (ad 4))) (y := (.ref (ad 14))) rfl rfl (pc0 := 18) (pc' := 21) (same := false) rfl (hb hby d1_18) rfl (decide_eq_false (fun h => (Fld.ne (ft_86 NF) (ft_63 NF) (by decide)) (Value.ref.inj h))) (by decide) (by decide) ?_
    show Steps p.tables e below (T3.setTop (mkF m 21 #[.val (.ref (ad 4))] [])) _
    refine XS.aloadN X3.here hx rfl (hb hby d1_21) rfl rfl ?_
    show Steps p.tables e below (T3.setTop (mkF m 22 #[.val (.ref (ad 4))] [(.ref (ad 4))])) _
    refine st4 _ ?_
    show Steps p.tables e below (T4.setTop (mkF m 25 #[.val (.ref (ad 4))] [(.ref (ad 15)), (.ref (ad 4))])) _
    refine acmp X4 hx rfl (x := (.ref (ad 4))) (y := (.ref (ad 15))) rfl rfl (pc0 := 25) (pc' := 32) (same := false) rfl (hb hby d1_25) rfl (decide_eq_false (fun h => (Fld.ne (ft_86 NF) (ft_64 NF) (by decide)) (Value.ref.inj h))) (by decide) (by decide) ?_
    show Steps p.tables e below (T4.setTop (mkF m 32 #[.val (.ref (ad 4))] [])) _
    refine XS.iconst X4.here hx rfl (hb hby d1_32) ?_
    show Steps p.tables e below (T4.setTop (mkF m 33 #[.val (.ref (ad 4))] [(.int (0 : Int32))])) _
    exact retN X4 hx (t := .boolean) Bd.returns (by simp) (hb hby d1_33) hr
  · exact ⟨rfl, N0, e4⟩
set_option maxRecDepth 65536 in
set_option maxHeartbeats 40000000 in
theorem rm0_4 (l : Launch) (Z : State) (a0 : Array Value) (hw : ∀ d ∈ tables_1, d.before a0 Z = true) (ws : List Jvm.Cond) (ad : Nat → Addr) (NF : Facts Z ad) (h0 : Heap) (n0 : Nat) (Ol : Old Z n0 h0) (p0 : Int32) (hi : (p0 &&& (2147483647 : Int32)) % (30 : Int32) = (4 : Int32)) :
    MetFree l x (head1 (Jvm.Cond.code x code maxLocals ret :: ws) room_1) (fun a U => a = #[(.int p0)] ∧ Z.Warmed39 U.vm ∧ U.heap = h0) (fun _ _ _ _ _ => True) (fun _ U o U' => ∃ v L, o = .returned v ∧ QL n0 v U'.heap L ∧ FrameEnd U o U' L room_1.cells room_1.slots) := by
  refine MetFree.of_bodySF (plainFor_of_name pn_0) hisR ?_
  intro p e s m args below meth c s₁ Bd hml0 hP hK
  obtain ⟨rfl, hZ, hh⟩ := hP
  have hx := Bd.exec
  have hby := Bd.bytes
  have hml : c.maxLocals = 5 := hml0
  have hown : s.vm.findClass "com/example/pivotlex/pivotlex/terminology/IssueCodeIsOfValueSetPinLaw" = some m.cls := findClass_of_methodNamed Bd.named
  have X0 : Stand p l e room_1 s m #[(.int p0)] below meth c s₁ [] 0 0 := Stand.of_body Bd
  have e0 : s₁.heap = h0 := by rw [← hh, Bd.state]; rfl
  have N0 := Fr.nil n0
  have pre0 : ∀ t, Steps p.tables e below (s₁.setTop (mkF m 0 #[.val (.int p0), .unset, .unset, .unset, .unset] [])) t → Steps p.tables e below (s₁.setTop (entryFrame m #[(.int p0)] maxLocals)) t := fun t k => castTop (ef_0_I m (p0)) k
  obtain ⟨T1, h1, Lc1, b1, k1, X1, e1, Ol1, K1, N1, V1, st1⟩ := fill hw ad NF h0 n0 Ol p0 X0 hx hZ hby hml hown e0
  obtain ⟨cl2, Ar2, q2, S2, M2, H2, G2⟩ := id V1
  have hin2 : ¬ ((4 : Int32) < 0 ∨ cl2.slots.size ≤ ((4 : Int32)).toNatClampNeg) := inb_of S2 ⟨by decide, by decide⟩
  have hat2 : cl2.slots[((4 : Int32)).toNatClampNeg]? = some (.ref (ad 4)) := Has.at H2 hin2 rfl
  obtain ⟨cq3, kq3, qa3, qb3, qc3⟩ := isOf hZ e1 ((ft_4 NF).ext Ol1.2)
  obtain ⟨_, _, ⟨T3, L3, k3, n3⟩, -, X3, ⟨Lc3, hQ3, l3, y3, z3⟩, st3⟩ := X1.virtualBack hx (y := (⟨"com/example/pivotlex/pivotlex/terminology/IssueCode", "isOfValueSet", "()Z"⟩ : MethodName)) (z := (⟨"com/example/pivotlex/pivotlex/terminology/IssueCode", "isOfValueSet", "()Z"⟩ : MethodName)) hown (mvT hZ (hw _ (List.mem_of_getElem? (i := 65) rfl))) (mvT hZ (hw _ (List.mem_of_getElem? (i := 66) rfl))) (notFace_of_selects (args := #[]) (mvT hZ (hw _ (List.mem_of_getElem? (i := 68) rfl)))) (mvT hZ (hw _ (List.mem_of_getElem? (i := 68) rfl))) (mvT hZ (hw _ (List.mem_of_getElem? (i := 67) rfl))) (by decide) (backOf (W := 0) (rm1_ad4 l Z a0 hw [] ad NF h1 n0 Ol1) hZ (hw _ (List.mem_of_getElem? (i := 69) rfl)) (hw _ (List.mem_of_getElem? (i := 3) rfl)) (by decide) (by decide)) qa3 qc3 (g := (mkF m 242 #[.val (.int p0), .val (.ref b1), .val (.int (4 : Int32)), .val (.ref (ad 4)), .val (.int (0 : Int32))] [(.ref (ad 4))])) rfl (by rw [hml]; rfl) (Steps.refl _) (argsL := []) (rest := []) (lenOf pd_1 rfl) rfl (by show 2 * 0 + _ ≤ _; exact Nat.le_of_eq rfl) (hb hby at_242) (fun _ _ => ⟨rfl, e1, (by decide : 1 + 0 ≤ _), (by decide : 30 + 0 ≤ _)⟩)
  dsimp only [Pt.U, Pt.locs, Pt.cells, Pt.slots] at X3 l3 y3 z3 st3 hQ3
  subst l3 y3 z3
  obtain ⟨rfl, Nq3, e3⟩ := hQ3
  have N3 := Fr.app N1 Nq3
  obtain ⟨fs, hr, hrun, hended, hW, hsame⟩ := X3.leave (v := some (.int (1 : Int32))) (fun h => by rw [Bd.returns] at h; cases h)
  refine ⟨_, _, pre0 _ ?_, hrun, hended, _, _, rfl, ?_, ⟨_, rfl⟩, hW, hsame.mono (by decide) (by decide)⟩
  · show Steps p.tables e below (s₁.setTop (mkF m 0 #[.val (.int p0), .unset, .unset, .unset, .unset] [])) _
    refine st1 _ ?_
    show Steps p.tables e below (T1.setTop (mkF m 210 #[.val (.int p0), .val (.ref b1), .unset, .unset, .unset] [])) _
    refine XS.iloadN X1.here hx rfl (hb hby at_210) rfl ?_
    show Steps p.tables e below (T1.setTop (mkF m 211 #[.val (.int p0), .val (.ref b1), .unset, .unset, .unset] [(.int p0)])) _
    refine X1.ldcInt hx hown (mvT hZ (hw _ (List.mem_of_getElem? (i := 64) rfl))) (g := (mkF m 211 #[.val (.int p0), .val (.ref b1), .unset, .unset, .unset] [(.int p0)])) rfl (hb hby at_211) _ ?_
    show Steps p.tables e below (T1.setTop (mkF m 213 #[.val (.int p0), .val (.ref b1), .unset, .unset, .unset] [(.int (2147483647 : Int32)), (.int p0)])) _
    refine XS.iand X1.here hx rfl (hb hby at_213) rfl ?_
    show Steps p.tables e below (T1.setTop (mkF m 214 #[.val (.int p0), .val (.ref b1), .unset, .unset, .unset] [(.int (p0 &&& (2147483647 : Int32)))])) _
    refine XS.bipush X1.here hx rfl (hb hby at_214) ?_
    show Steps p.tables e below (T1.setTop (mkF m 216 #[.val (.int p0), .val (.ref b1), .unset, .unset, .unset] [(.int (30 : Int32)), (.int (p0 &&& (2147483647 : Int32)))])) _
    refine iremM X1 hx rfl (hb hby at_216) rfl (by decide) ?_
    show Steps p.tables e below (T1.setTop (mkF m 217 #[.val (.int p0), .val (.ref b1), .unset, .unset, .unset] [(.int ((p0 &&& (2147483647 : Int32)) % (30 : Int32)))])) _
    rw [hi]
    show Steps p.tables e below (T1.setTop (mkF m 217 #[.val (.int p0), .val (.ref b1), .unset, .unset, .unset] [(.int (4 : Int32))])) _
    refine XS.istoreN X1.here hx rfl (hb hby at_217) rfl (l' := #[.val (.int p0), .val (.ref b1), .val (.int (4 : Int32)), .unset, .unset]) rfl ?_
    show Steps p.tables e below (T1.setTop (mkF m 218 #[.val (.int p0), .val (.ref b1), .val (.int (4 : Int32)), .unset, .unset] [])) _
    refine XS.aloadN X1.here hx rfl (hb hby at_218) rfl rfl ?_
    show Steps p.tables e below (T1.setTop (mkF m 219 #[.val (.int p0), .val (.ref b1), .val (.int (4 : Int32)), .unset, .unset] [(.ref b1)])) _
    refine XS.iloadN X1.here hx rfl (hb hby at_219) rfl ?_
    show Steps p.tables e below (T1.setTop (mkF m 220 #[.val (.int p0), .val (.ref b1), .val (.int (4 : Int32)), .unset, .unset] [(.int (4 : Int32)), (.ref b1)])) _
    refine X1.aaload hx (j := (4 : Int32)) (v := (.ref (ad 4))) (by rw [e1]; exact Ar2.1) (State.isArrayOf_alike hZ.alike Ar2.2.1) rfl Ar2.2.2 hin2 hat2 (g := (mkF m 220 #[.val (.int p0), .val (.ref b1), .val (.int (4 : Int32)), .unset, .unset] [(.int (4 : Int32)), (.ref b1)])) rfl rfl (hb hby at_220) _ ?_
    show Steps p.tables e below (T1.setTop (mkF m 221 #[.val (.int p0), .val (.ref b1), .val (.int (4 : Int32)), .unset, .unset] [(.ref (ad 4))])) _
    refine XS.astoreN X1.here hx rfl (hb hby at_221) rfl rfl (l' := #[.val (.int p0), .val (.ref b1), .val (.int (4 : Int32)), .val (.ref (ad 4)), .unset]) rfl ?_
    show Steps p.tables e below (T1.setTop (mkF m 222 #[.val (.int p0), .val (.ref b1), .val (.int (4 : Int32)), .val (.ref (ad 4)), .unset] [])) _
    refine XS.iloadN X1.here hx rfl (hb hby at_222) rfl ?_
    show Steps p.tables e below (T1.setTop (mkF m 223 #[.val (.int p0), .val (.ref b1), .val (.int (4 : Int32)), .val (.ref (ad 4)), .unset] [(.int (4 : Int32))])) _
    refine XS.bipush X1.here hx rfl (hb hby at_223) ?_
    show Steps p.tables e below (T1.setTop (mkF m 225 #[.val (.int p0), .val (.ref b1), .val (.int (4 : Int32)), .val (.ref (ad 4)), .unset] [(.int (12 : Int32)), (.int (4 : Int32))])) _
    refine XS.icmpYes X1.here hx rfl (pc0 := 225) (pc' := 238) rfl (hb hby at_225) rfl (tlt (by decide)).1 (by decide) (by decide) ?_
    show Steps p.tables e below (T1.setTop (mkF m 238 #[.val (.int p0), .val (.ref b1), .val (.int (4 : Int32)), .val (.ref (ad 4)), .unset] [])) _
    refine XS.iconst X1.here hx rfl (hb hby at_238) ?_
    show Steps p.tables e below (T1.setTop (mkF m 239 #[.val (.int p0), .val (.ref b1), .val (.int (4 : Int32)), .val (.ref (ad 4)), .unset] [(.int (0 : Int32))])) _
    refine XS.istore X1.here hx rfl (hb hby at_239) rfl (l' := #[.val (.int p0), .val (.ref b1), .val (.int (4 : Int32)), .val (.ref (ad 4)), .val (.int (0 : Int32))]) rfl ?_
    show Steps p.tables e below (T1.setTop (mkF m 241 #[.val (.int p0), .val (.ref b1), .val (.int (4 : Int32)), .val (.ref (ad 4)), .val (.int (0 : Int32))] [])) _
    refine XS.aloadN X1.here hx rfl (hb hby at_241) rfl rfl ?_
    show Steps p.tables e below (T1.setTop (mkF m 242 #[.val (.int p0), .val (.ref b1), .val (.int (4 : Int32)), .val (.ref (ad 4)), .val (.int (0 : Int32))] [(.ref (ad 4))])) _
    refine st3.trans ?_
    show Steps p.tables e below (T3.setTop (mkF m 245 #[.val (.int p0), .val (.ref b1), .val (.int (4 : Int32)), .val (.ref (ad 4)), .val (.int (0 : Int32))] [(.int (0 : Int32))])) _
    refine XS.iload X3.here hx rfl (hb hby at_245) rfl ?_
    show Steps p.tables e below (T3.setTop (mkF m 247 #[.val (.int p0), .val (.ref b1), .val (.int (4 : Int32)), .val (.ref (ad 4)), .val (.int (0 : Int32))] [(.int (0 : Int32)), (.int (0 : Int32))])) _
    refine XS.icmpNo X3.here hx rfl (hb hby at_247) rfl (teq (by decide)).2 ?_
    show Steps p.tables e below (T3.setTop (mkF m 250 #[.val (.int p0), .val (.ref b1), .val (.int (4 : Int32)), .val (.ref (ad 4)), .val (.int (0 : Int32))] [])) _
    refine XS.iconst X3.here hx rfl (hb hby at_250) ?_
    show Steps p.tables e below (T3.setTop (mkF m 251 #[.val (.int p0), .val (.ref b1), .val (.int (4 : Int32)), .val (.ref (ad 4)), .val (.int (0 : Int32))] [(.int (1 : Int32))])) _
    refine XS.goto X3.here hx rfl (pc0 := 251) (pc' := 255) rfl (hb hby at_251) (by decide) (by decide) ?_
    show Steps p.tables e below (T3.setTop (mkF m 255 #[.val (.int p0), .val (.ref b1), .val (.int (4 : Int32)), .val (.ref (ad 4)), .val (.int (0 : Int32))] [(.int (1 : Int32))])) _
    exact retN X3 hx (t := .boolean) Bd.returns (by simp) (hb hby at_255) hr
  · exact ⟨rfl, N3⟩
set_option maxRecDepth 65536 in
set_option maxHeartbeats 40000000 in
theorem rm1_ad5 (l : Launch) (Z : State) (a0 : Array Value) (hw : ∀ d ∈ tables_1, d.before a0 Z = true) (ws : List Jvm.Cond) (ad : Nat → Addr) (NF : Facts Z ad) (h0 : Heap) (n0 : Nat) (Ol : Old Z n0 h0) :
    MetFree l (⟨"com/example/pivotlex/pivotlex/terminology/IssueCode", "isOfValueSet", "()Z"⟩ : MethodName) (head1 (Jvm.Cond.code (⟨"com/example/pivotlex/pivotlex/terminology/IssueCode", "isOfValueSet", "()Z"⟩ : MethodName) prog_80_method_4_code 1 (some .boolean) :: ws) ({ frames := 0, cells := 0, slots := 0, locals := 0 } : Room)) (fun a U => a = #[(.ref (ad 5))] ∧ Z.Warmed39 U.vm ∧ U.heap = h0) (fun _ _ _ _ _ => True) (fun _ U o U' => ∃ v L, o = .returned v ∧ QS (.int (0 : Int32)) h0 n0 v U'.heap L ∧ FrameEnd U o U' L ({ frames := 0, cells := 0, slots := 0, locals := 0 } : Room).cells ({ frames := 0, cells := 0, slots := 0, locals := 0 } : Room).slots) := by
  refine MetFree.of_bodySF (plainFor_of_name pn_1) hisR ?_
  intro p e s m args below meth c s₁ Bd hml0 hP hK
  obtain ⟨rfl, hZ, hh⟩ := hP
  have hx := Bd.exec
  have hby := Bd.bytes
  have hml : c.maxLocals = 1 := hml0
  have hown : s.vm.findClass "com/example/pivotlex/pivotlex/terminology/IssueCode" = some m.cls := findClass_of_methodNamed Bd.named
  have X0 : Stand p l e ({ frames := 0, cells := 0, slots := 0, locals := 0 } : Room) s m #[(.ref (ad 5))] below meth c s₁ [] 0 0 := Stand.of_body Bd
  have e0 : s₁.heap = h0 := by rw [← hh, Bd.state]; rfl
  have N0 := Fr.nil n0
  have pre0 : ∀ t, Steps p.tables e below (s₁.setTop (mkF m 0 #[.val (.ref (ad 5))] [])) t → Steps p.tables e below (s₁.setTop (entryFrame m #[(.ref (ad 5))] 1)) t := fun t k => castTop (ef_1_R m (ad 5)) k
  obtain ⟨T1, X1, e1, st1⟩ := getS2 X0 hx hZ hown (host := "") (Or.inl (hw _ (List.mem_of_getElem? (i := 70) rfl))) Via.refl e0 ((ft_42 NF).ext Ol.2) (g := (mkF m 1 #[.val (.ref (ad 5))] [(.ref (ad 5))])) rfl (hb hby d1_1)
  obtain ⟨T2, X2, e2, st2⟩ := getS2 X1 hx hZ hown (host := "") (Or.inl (hw _ (List.mem_of_getElem? (i := 71) rfl))) Via.refl e1 ((ft_43 NF).ext Ol.2) (g := (mkF m 8 #[.val (.ref (ad 5))] [(.ref (ad 5))])) rfl (hb hby d1_8)
  obtain ⟨T3, X3, e3, st3⟩ := getS2 X2 hx hZ hown (host := "") (Or.inl (hw _ (List.mem_of_getElem? (i := 72) rfl))) Via.refl e2 ((ft_44 NF).ext Ol.2) (g := (mkF m 15 #[.val (.ref (ad 5))] [(.ref (ad 5))])) rfl (hb hby d1_15)
  obtain ⟨T4, X4, e4, st4⟩ := getS2 X3 hx hZ hown (host := "") (Or.inl (hw _ (List.mem_of_getElem? (i := 73) rfl))) Via.refl e3 ((ft_45 NF).ext Ol.2) (g := (mkF m 22 #[.val (.ref (ad 5))] [(.ref (ad 5))])) rfl (hb hby d1_22)
  obtain ⟨fs, hr, hrun, hended, hW, hsame⟩ := X4.leave (v := some (.int (0 : Int32))) (fun h => by rw [Bd.returns] at h; cases h)
  refine ⟨_, _, pre0 _ ?_, hrun, hended, _, _, rfl, ?_, ⟨_, rfl⟩, hW, hsame.mono (by decide) (by decide)⟩
  · show Steps p.tables e below (s₁.setTop (mkF m 0 #[.val (.ref (ad 5))] [])) _
    refine XS.aloadN X0.here hx rfl (hb hby d1_0) rfl rfl ?_
    show Steps p.tables e below (s₁.setTop (mkF m 1 #[.val (.ref (ad 5))] [(.ref (ad 5))])) _
    refine st1 _ ?_
    show Steps p.tables e below (T1.setTop (mkF m 4 #[.val (.ref (ad 5))] [(.ref (ad 12)), (.ref (ad 5))])) _
    refine acmp X1 hx rfl (x := (.ref (ad 5))) (y := (.ref (ad 12))) rfl rfl (pc0 := 4) (pc' := 7) (same := false) rfl (hb hby d1_4) rfl (decide_eq_false (fun h => (Fld.ne (ft_81 NF) (ft_61 NF) (by decide)) (Value.ref.inj h))) (by decide) (by decide) ?_
    show Steps p.tables e below (T1.setTop (mkF m 7 #[.val (.ref (ad 5))] [])) _
    refine XS.aloadN X1.here hx rfl (hb hby d1_7) rfl rfl ?_
    show Steps p.tables e below (T1.setTop (mkF m 8 #[.val (.ref (ad 5))] [(.ref (ad 5))])) _
    refine st2 _ ?_
    show Steps p.tables e below (T2.setTop (mkF m 11 #[.val (.ref (ad 5))] [(.ref (ad 13)), (.ref (ad 5))])) _
    refine acmp X2 hx rfl (x := (.ref (ad 5))) (y := (.ref (ad 13))) rfl rfl (pc0 := 11) (pc' := 14) (same := false) rfl (hb hby d1_11) rfl (decide_eq_false (fun h => (Fld.ne (ft_81 NF) (ft_62 NF) (by decide)) (Value.ref.inj h))) (by decide) (by decide) ?_
    show Steps p.tables e below (T2.setTop (mkF m 14 #[.val (.ref (ad 5))] [])) _
    refine XS.aloadN X2.here hx rfl (hb hby d1_14) rfl rfl ?_
    show Steps p.tables e below (T2.setTop (mkF m 15 #[.val (.ref (ad 5))] [(.ref (ad 5))])) _
    refine st3 _ ?_
    show Steps p.tables e below (T3.setTop (mkF m 18 #[.val (.ref (ad 5))] [(.ref (ad 14)), (.ref (ad 5))])) _
    refine acmp X3 hx rfl (x := (.ref (ad 5))) (y := (.ref (ad 14))) rfl rfl (pc0 := 18) (pc' := 21) (same := false) rfl (hb hby d1_18) rfl (decide_eq_false (fun h => (Fld.ne (ft_81 NF) (ft_63 NF) (by decide)) (Value.ref.inj h))) (by decide) (by decide) ?_
    show Steps p.tables e below (T3.setTop (mkF m 21 #[.val (.ref (ad 5))] [])) _
    refine XS.aloadN X3.here hx rfl (hb hby d1_21) rfl rfl ?_
    show Steps p.tables e below (T3.setTop (mkF m 22 #[.val (.ref (ad 5))] [(.ref (ad 5))])) _
    refine st4 _ ?_
    show Steps p.tables e below (T4.setTop (mkF m 25 #[.val (.ref (ad 5))] [(.ref (ad 15)), (.ref (ad 5))])) _
    refine acmp X4 hx rfl (x := (.ref (ad 5))) (y := (.ref (ad 15))) rfl rfl (pc0 := 25) (pc' := 32) (same := false) rfl (hb hby d1_25) rfl (decide_eq_false (fun h => (Fld.ne (ft_81 NF) (ft_64 NF) (by decide)) (Value.ref.inj h))) (by decide) (by decide) ?_
    show Steps p.tables e below (T4.setTop (mkF m 32 #[.val (.ref (ad 5))] [])) _
    refine XS.iconst X4.here hx rfl (hb hby d1_32) ?_
    show Steps p.tables e below (T4.setTop (mkF m 33 #[.val (.ref (ad 5))] [(.int (0 : Int32))])) _
    exact retN X4 hx (t := .boolean) Bd.returns (by simp) (hb hby d1_33) hr
  · exact ⟨rfl, N0, e4⟩
set_option maxRecDepth 65536 in
set_option maxHeartbeats 40000000 in
theorem rm0_5 (l : Launch) (Z : State) (a0 : Array Value) (hw : ∀ d ∈ tables_1, d.before a0 Z = true) (ws : List Jvm.Cond) (ad : Nat → Addr) (NF : Facts Z ad) (h0 : Heap) (n0 : Nat) (Ol : Old Z n0 h0) (p0 : Int32) (hi : (p0 &&& (2147483647 : Int32)) % (30 : Int32) = (5 : Int32)) :
    MetFree l x (head1 (Jvm.Cond.code x code maxLocals ret :: ws) room_1) (fun a U => a = #[(.int p0)] ∧ Z.Warmed39 U.vm ∧ U.heap = h0) (fun _ _ _ _ _ => True) (fun _ U o U' => ∃ v L, o = .returned v ∧ QL n0 v U'.heap L ∧ FrameEnd U o U' L room_1.cells room_1.slots) := by
  refine MetFree.of_bodySF (plainFor_of_name pn_0) hisR ?_
  intro p e s m args below meth c s₁ Bd hml0 hP hK
  obtain ⟨rfl, hZ, hh⟩ := hP
  have hx := Bd.exec
  have hby := Bd.bytes
  have hml : c.maxLocals = 5 := hml0
  have hown : s.vm.findClass "com/example/pivotlex/pivotlex/terminology/IssueCodeIsOfValueSetPinLaw" = some m.cls := findClass_of_methodNamed Bd.named
  have X0 : Stand p l e room_1 s m #[(.int p0)] below meth c s₁ [] 0 0 := Stand.of_body Bd
  have e0 : s₁.heap = h0 := by rw [← hh, Bd.state]; rfl
  have N0 := Fr.nil n0
  have pre0 : ∀ t, Steps p.tables e below (s₁.setTop (mkF m 0 #[.val (.int p0), .unset, .unset, .unset, .unset] [])) t → Steps p.tables e below (s₁.setTop (entryFrame m #[(.int p0)] maxLocals)) t := fun t k => castTop (ef_0_I m (p0)) k
  obtain ⟨T1, h1, Lc1, b1, k1, X1, e1, Ol1, K1, N1, V1, st1⟩ := fill hw ad NF h0 n0 Ol p0 X0 hx hZ hby hml hown e0
  obtain ⟨cl2, Ar2, q2, S2, M2, H2, G2⟩ := id V1
  have hin2 : ¬ ((5 : Int32) < 0 ∨ cl2.slots.size ≤ ((5 : Int32)).toNatClampNeg) := inb_of S2 ⟨by decide, by decide⟩
  have hat2 : cl2.slots[((5 : Int32)).toNatClampNeg]? = some (.ref (ad 5)) := Has.at H2 hin2 rfl
  obtain ⟨cq3, kq3, qa3, qb3, qc3⟩ := isOf hZ e1 ((ft_5 NF).ext Ol1.2)
  obtain ⟨_, _, ⟨T3, L3, k3, n3⟩, -, X3, ⟨Lc3, hQ3, l3, y3, z3⟩, st3⟩ := X1.virtualBack hx (y := (⟨"com/example/pivotlex/pivotlex/terminology/IssueCode", "isOfValueSet", "()Z"⟩ : MethodName)) (z := (⟨"com/example/pivotlex/pivotlex/terminology/IssueCode", "isOfValueSet", "()Z"⟩ : MethodName)) hown (mvT hZ (hw _ (List.mem_of_getElem? (i := 65) rfl))) (mvT hZ (hw _ (List.mem_of_getElem? (i := 66) rfl))) (notFace_of_selects (args := #[]) (mvT hZ (hw _ (List.mem_of_getElem? (i := 68) rfl)))) (mvT hZ (hw _ (List.mem_of_getElem? (i := 68) rfl))) (mvT hZ (hw _ (List.mem_of_getElem? (i := 67) rfl))) (by decide) (backOf (W := 0) (rm1_ad5 l Z a0 hw [] ad NF h1 n0 Ol1) hZ (hw _ (List.mem_of_getElem? (i := 69) rfl)) (hw _ (List.mem_of_getElem? (i := 3) rfl)) (by decide) (by decide)) qa3 qc3 (g := (mkF m 242 #[.val (.int p0), .val (.ref b1), .val (.int (5 : Int32)), .val (.ref (ad 5)), .val (.int (0 : Int32))] [(.ref (ad 5))])) rfl (by rw [hml]; rfl) (Steps.refl _) (argsL := []) (rest := []) (lenOf pd_1 rfl) rfl (by show 2 * 0 + _ ≤ _; exact Nat.le_of_eq rfl) (hb hby at_242) (fun _ _ => ⟨rfl, e1, (by decide : 1 + 0 ≤ _), (by decide : 30 + 0 ≤ _)⟩)
  dsimp only [Pt.U, Pt.locs, Pt.cells, Pt.slots] at X3 l3 y3 z3 st3 hQ3
  subst l3 y3 z3
  obtain ⟨rfl, Nq3, e3⟩ := hQ3
  have N3 := Fr.app N1 Nq3
  obtain ⟨fs, hr, hrun, hended, hW, hsame⟩ := X3.leave (v := some (.int (1 : Int32))) (fun h => by rw [Bd.returns] at h; cases h)
  refine ⟨_, _, pre0 _ ?_, hrun, hended, _, _, rfl, ?_, ⟨_, rfl⟩, hW, hsame.mono (by decide) (by decide)⟩
  · show Steps p.tables e below (s₁.setTop (mkF m 0 #[.val (.int p0), .unset, .unset, .unset, .unset] [])) _
    refine st1 _ ?_
    show Steps p.tables e below (T1.setTop (mkF m 210 #[.val (.int p0), .val (.ref b1), .unset, .unset, .unset] [])) _
    refine XS.iloadN X1.here hx rfl (hb hby at_210) rfl ?_
    show Steps p.tables e below (T1.setTop (mkF m 211 #[.val (.int p0), .val (.ref b1), .unset, .unset, .unset] [(.int p0)])) _
    refine X1.ldcInt hx hown (mvT hZ (hw _ (List.mem_of_getElem? (i := 64) rfl))) (g := (mkF m 211 #[.val (.int p0), .val (.ref b1), .unset, .unset, .unset] [(.int p0)])) rfl (hb hby at_211) _ ?_
    show Steps p.tables e below (T1.setTop (mkF m 213 #[.val (.int p0), .val (.ref b1), .unset, .unset, .unset] [(.int (2147483647 : Int32)), (.int p0)])) _
    refine XS.iand X1.here hx rfl (hb hby at_213) rfl ?_
    show Steps p.tables e below (T1.setTop (mkF m 214 #[.val (.int p0), .val (.ref b1), .unset, .unset, .unset] [(.int (p0 &&& (2147483647 : Int32)))])) _
    refine XS.bipush X1.here hx rfl (hb hby at_214) ?_
    show Steps p.tables e below (T1.setTop (mkF m 216 #[.val (.int p0), .val (.ref b1), .unset, .unset, .unset] [(.int (30 : Int32)), (.int (p0 &&& (2147483647 : Int32)))])) _
    refine iremM X1 hx rfl (hb hby at_216) rfl (by decide) ?_
    show Steps p.tables e below (T1.setTop (mkF m 217 #[.val (.int p0), .val (.ref b1), .unset, .unset, .unset] [(.int ((p0 &&& (2147483647 : Int32)) % (30 : Int32)))])) _
    rw [hi]
    show Steps p.tables e below (T1.setTop (mkF m 217 #[.val (.int p0), .val (.ref b1), .unset, .unset, .unset] [(.int (5 : Int32))])) _
    refine XS.istoreN X1.here hx rfl (hb hby at_217) rfl (l' := #[.val (.int p0), .val (.ref b1), .val (.int (5 : Int32)), .unset, .unset]) rfl ?_
    show Steps p.tables e below (T1.setTop (mkF m 218 #[.val (.int p0), .val (.ref b1), .val (.int (5 : Int32)), .unset, .unset] [])) _
    refine XS.aloadN X1.here hx rfl (hb hby at_218) rfl rfl ?_
    show Steps p.tables e below (T1.setTop (mkF m 219 #[.val (.int p0), .val (.ref b1), .val (.int (5 : Int32)), .unset, .unset] [(.ref b1)])) _
    refine XS.iloadN X1.here hx rfl (hb hby at_219) rfl ?_
    show Steps p.tables e below (T1.setTop (mkF m 220 #[.val (.int p0), .val (.ref b1), .val (.int (5 : Int32)), .unset, .unset] [(.int (5 : Int32)), (.ref b1)])) _
    refine X1.aaload hx (j := (5 : Int32)) (v := (.ref (ad 5))) (by rw [e1]; exact Ar2.1) (State.isArrayOf_alike hZ.alike Ar2.2.1) rfl Ar2.2.2 hin2 hat2 (g := (mkF m 220 #[.val (.int p0), .val (.ref b1), .val (.int (5 : Int32)), .unset, .unset] [(.int (5 : Int32)), (.ref b1)])) rfl rfl (hb hby at_220) _ ?_
    show Steps p.tables e below (T1.setTop (mkF m 221 #[.val (.int p0), .val (.ref b1), .val (.int (5 : Int32)), .unset, .unset] [(.ref (ad 5))])) _
    refine XS.astoreN X1.here hx rfl (hb hby at_221) rfl rfl (l' := #[.val (.int p0), .val (.ref b1), .val (.int (5 : Int32)), .val (.ref (ad 5)), .unset]) rfl ?_
    show Steps p.tables e below (T1.setTop (mkF m 222 #[.val (.int p0), .val (.ref b1), .val (.int (5 : Int32)), .val (.ref (ad 5)), .unset] [])) _
    refine XS.iloadN X1.here hx rfl (hb hby at_222) rfl ?_
    show Steps p.tables e below (T1.setTop (mkF m 223 #[.val (.int p0), .val (.ref b1), .val (.int (5 : Int32)), .val (.ref (ad 5)), .unset] [(.int (5 : Int32))])) _
    refine XS.bipush X1.here hx rfl (hb hby at_223) ?_
    show Steps p.tables e below (T1.setTop (mkF m 225 #[.val (.int p0), .val (.ref b1), .val (.int (5 : Int32)), .val (.ref (ad 5)), .unset] [(.int (12 : Int32)), (.int (5 : Int32))])) _
    refine XS.icmpYes X1.here hx rfl (pc0 := 225) (pc' := 238) rfl (hb hby at_225) rfl (tlt (by decide)).1 (by decide) (by decide) ?_
    show Steps p.tables e below (T1.setTop (mkF m 238 #[.val (.int p0), .val (.ref b1), .val (.int (5 : Int32)), .val (.ref (ad 5)), .unset] [])) _
    refine XS.iconst X1.here hx rfl (hb hby at_238) ?_
    show Steps p.tables e below (T1.setTop (mkF m 239 #[.val (.int p0), .val (.ref b1), .val (.int (5 : Int32)), .val (.ref (ad 5)), .unset] [(.int (0 : Int32))])) _
    refine XS.istore X1.here hx rfl (hb hby at_239) rfl (l' := #[.val (.int p0), .val (.ref b1), .val (.int (5 : Int32)), .val (.ref (ad 5)), .val (.int (0 : Int32))]) rfl ?_
    show Steps p.tables e below (T1.setTop (mkF m 241 #[.val (.int p0), .val (.ref b1), .val (.int (5 : Int32)), .val (.ref (ad 5)), .val (.int (0 : Int32))] [])) _
    refine XS.aloadN X1.here hx rfl (hb hby at_241) rfl rfl ?_
    show Steps p.tables e below (T1.setTop (mkF m 242 #[.val (.int p0), .val (.ref b1), .val (.int (5 : Int32)), .val (.ref (ad 5)), .val (.int (0 : Int32))] [(.ref (ad 5))])) _
    refine st3.trans ?_
    show Steps p.tables e below (T3.setTop (mkF m 245 #[.val (.int p0), .val (.ref b1), .val (.int (5 : Int32)), .val (.ref (ad 5)), .val (.int (0 : Int32))] [(.int (0 : Int32))])) _
    refine XS.iload X3.here hx rfl (hb hby at_245) rfl ?_
    show Steps p.tables e below (T3.setTop (mkF m 247 #[.val (.int p0), .val (.ref b1), .val (.int (5 : Int32)), .val (.ref (ad 5)), .val (.int (0 : Int32))] [(.int (0 : Int32)), (.int (0 : Int32))])) _
    refine XS.icmpNo X3.here hx rfl (hb hby at_247) rfl (teq (by decide)).2 ?_
    show Steps p.tables e below (T3.setTop (mkF m 250 #[.val (.int p0), .val (.ref b1), .val (.int (5 : Int32)), .val (.ref (ad 5)), .val (.int (0 : Int32))] [])) _
    refine XS.iconst X3.here hx rfl (hb hby at_250) ?_
    show Steps p.tables e below (T3.setTop (mkF m 251 #[.val (.int p0), .val (.ref b1), .val (.int (5 : Int32)), .val (.ref (ad 5)), .val (.int (0 : Int32))] [(.int (1 : Int32))])) _
    refine XS.goto X3.here hx rfl (pc0 := 251) (pc' := 255) rfl (hb hby at_251) (by decide) (by decide) ?_
    show Steps p.tables e below (T3.setTop (mkF m 255 #[.val (.int p0), .val (.ref b1), .val (.int (5 : Int32)), .val (.ref (ad 5)), .val (.int (0 : Int32))] [(.int (1 : Int32))])) _
    exact retN X3 hx (t := .boolean) Bd.returns (by simp) (hb hby at_255) hr
  · exact ⟨rfl, N3⟩
set_option maxRecDepth 65536 in
set_option maxHeartbeats 40000000 in
theorem rm1_ad6 (l : Launch) (Z : State) (a0 : Array Value) (hw : ∀ d ∈ tables_1, d.before a0 Z = true) (ws : List Jvm.Cond) (ad : Nat → Addr) (NF : Facts Z ad) (h0 : Heap) (n0 : Nat) (Ol : Old Z n0 h0) :
    MetFree l (⟨"com/example/pivotlex/pivotlex/terminology/IssueCode", "isOfValueSet", "()Z"⟩ : MethodName) (head1 (Jvm.Cond.code (⟨"com/example/pivotlex/pivotlex/terminology/IssueCode", "isOfValueSet", "()Z"⟩ : MethodName) prog_80_method_4_code 1 (some .boolean) :: ws) ({ frames := 0, cells := 0, slots := 0, locals := 0 } : Room)) (fun a U => a = #[(.ref (ad 6))] ∧ Z.Warmed39 U.vm ∧ U.heap = h0) (fun _ _ _ _ _ => True) (fun _ U o U' => ∃ v L, o = .returned v ∧ QS (.int (0 : Int32)) h0 n0 v U'.heap L ∧ FrameEnd U o U' L ({ frames := 0, cells := 0, slots := 0, locals := 0 } : Room).cells ({ frames := 0, cells := 0, slots := 0, locals := 0 } : Room).slots) := by
  refine MetFree.of_bodySF (plainFor_of_name pn_1) hisR ?_
  intro p e s m args below meth c s₁ Bd hml0 hP hK
  obtain ⟨rfl, hZ, hh⟩ := hP
  have hx := Bd.exec
  have hby := Bd.bytes
  have hml : c.maxLocals = 1 := hml0
  have hown : s.vm.findClass "com/example/pivotlex/pivotlex/terminology/IssueCode" = some m.cls := findClass_of_methodNamed Bd.named
  have X0 : Stand p l e ({ frames := 0, cells := 0, slots := 0, locals := 0 } : Room) s m #[(.ref (ad 6))] below meth c s₁ [] 0 0 := Stand.of_body Bd
  have e0 : s₁.heap = h0 := by rw [← hh, Bd.state]; rfl
  have N0 := Fr.nil n0
  have pre0 : ∀ t, Steps p.tables e below (s₁.setTop (mkF m 0 #[.val (.ref (ad 6))] [])) t → Steps p.tables e below (s₁.setTop (entryFrame m #[(.ref (ad 6))] 1)) t := fun t k => castTop (ef_1_R m (ad 6)) k
  obtain ⟨T1, X1, e1, st1⟩ := getS2 X0 hx hZ hown (host := "") (Or.inl (hw _ (List.mem_of_getElem? (i := 70) rfl))) Via.refl e0 ((ft_42 NF).ext Ol.2) (g := (mkF m 1 #[.val (.ref (ad 6))] [(.ref (ad 6))])) rfl (hb hby d1_1)
  obtain ⟨T2, X2, e2, st2⟩ := getS2 X1 hx hZ hown (host := "") (Or.inl (hw _ (List.mem_of_getElem? (i := 71) rfl))) Via.refl e1 ((ft_43 NF).ext Ol.2) (g := (mkF m 8 #[.val (.ref (ad 6))] [(.ref (ad 6))])) rfl (hb hby d1_8)
  obtain ⟨T3, X3, e3, st3⟩ := getS2 X2 hx hZ hown (host := "") (Or.inl (hw _ (List.mem_of_getElem? (i := 72) rfl))) Via.refl e2 ((ft_44 NF).ext Ol.2) (g := (mkF m 15 #[.val (.ref (ad 6))] [(.ref (ad 6))])) rfl (hb hby d1_15)
  obtain ⟨T4, X4, e4, st4⟩ := getS2 X3 hx hZ hown (host := "") (Or.inl (hw _ (List.mem_of_getElem? (i := 73) rfl))) Via.refl e3 ((ft_45 NF).ext Ol.2) (g := (mkF m 22 #[.val (.ref (ad 6))] [(.ref (ad 6))])) rfl (hb hby d1_22)
  obtain ⟨fs, hr, hrun, hended, hW, hsame⟩ := X4.leave (v := some (.int (0 : Int32))) (fun h => by rw [Bd.returns] at h; cases h)
  refine ⟨_, _, pre0 _ ?_, hrun, hended, _, _, rfl, ?_, ⟨_, rfl⟩, hW, hsame.mono (by decide) (by decide)⟩
  · show Steps p.tables e below (s₁.setTop (mkF m 0 #[.val (.ref (ad 6))] [])) _
    refine XS.aloadN X0.here hx rfl (hb hby d1_0) rfl rfl ?_
    show Steps p.tables e below (s₁.setTop (mkF m 1 #[.val (.ref (ad 6))] [(.ref (ad 6))])) _
    refine st1 _ ?_
    show Steps p.tables e below (T1.setTop (mkF m 4 #[.val (.ref (ad 6))] [(.ref (ad 12)), (.ref (ad 6))])) _
    refine acmp X1 hx rfl (x := (.ref (ad 6))) (y := (.ref (ad 12))) rfl rfl (pc0 := 4) (pc' := 7) (same := false) rfl (hb hby d1_4) rfl (decide_eq_false (fun h => (Fld.ne (ft_82 NF) (ft_61 NF) (by decide)) (Value.ref.inj h))) (by decide) (by decide) ?_
    show Steps p.tables e below (T1.setTop (mkF m 7 #[.val (.ref (ad 6))] [])) _
    refine XS.aloadN X1.here hx rfl (hb hby d1_7) rfl rfl ?_
    show Steps p.tables e below (T1.setTop (mkF m 8 #[.val (.ref (ad 6))] [(.ref (ad 6))])) _
    refine st2 _ ?_
    show Steps p.tables e below (T2.setTop (mkF m 11 #[.val (.ref (ad 6))] [(.ref (ad 13)), (.ref (ad 6))])) _
    refine acmp X2 hx rfl (x := (.ref (ad 6))) (y := (.ref (ad 13))) rfl rfl (pc0 := 11) (pc' := 14) (same := false) rfl (hb hby d1_11) rfl (decide_eq_false (fun h => (Fld.ne (ft_82 NF) (ft_62 NF) (by decide)) (Value.ref.inj h))) (by decide) (by decide) ?_
    show Steps p.tables e below (T2.setTop (mkF m 14 #[.val (.ref (ad 6))] [])) _
    refine XS.aloadN X2.here hx rfl (hb hby d1_14) rfl rfl ?_
    show Steps p.tables e below (T2.setTop (mkF m 15 #[.val (.ref (ad 6))] [(.ref (ad 6))])) _
    refine st3 _ ?_
    show Steps p.tables e below (T3.setTop (mkF m 18 #[.val (.ref (ad 6))] [(.ref (ad 14)), (.ref (ad 6))])) _
    refine acmp X3 hx rfl (x := (.ref (ad 6))) (y := (.ref (ad 14))) rfl rfl (pc0 := 18) (pc' := 21) (same := false) rfl (hb hby d1_18) rfl (decide_eq_false (fun h => (Fld.ne (ft_82 NF) (ft_63 NF) (by decide)) (Value.ref.inj h))) (by decide) (by decide) ?_
    show Steps p.tables e below (T3.setTop (mkF m 21 #[.val (.ref (ad 6))] [])) _
    refine XS.aloadN X3.here hx rfl (hb hby d1_21) rfl rfl ?_
    show Steps p.tables e below (T3.setTop (mkF m 22 #[.val (.ref (ad 6))] [(.ref (ad 6))])) _
    refine st4 _ ?_
    show Steps p.tables e below (T4.setTop (mkF m 25 #[.val (.ref (ad 6))] [(.ref (ad 15)), (.ref (ad 6))])) _
    refine acmp X4 hx rfl (x := (.ref (ad 6))) (y := (.ref (ad 15))) rfl rfl (pc0 := 25) (pc' := 32) (same := false) rfl (hb hby d1_25) rfl (decide_eq_false (fun h => (Fld.ne (ft_82 NF) (ft_64 NF) (by decide)) (Value.ref.inj h))) (by decide) (by decide) ?_
    show Steps p.tables e below (T4.setTop (mkF m 32 #[.val (.ref (ad 6))] [])) _
    refine XS.iconst X4.here hx rfl (hb hby d1_32) ?_
    show Steps p.tables e below (T4.setTop (mkF m 33 #[.val (.ref (ad 6))] [(.int (0 : Int32))])) _
    exact retN X4 hx (t := .boolean) Bd.returns (by simp) (hb hby d1_33) hr
  · exact ⟨rfl, N0, e4⟩
set_option maxRecDepth 65536 in
set_option maxHeartbeats 40000000 in
theorem rm0_6 (l : Launch) (Z : State) (a0 : Array Value) (hw : ∀ d ∈ tables_1, d.before a0 Z = true) (ws : List Jvm.Cond) (ad : Nat → Addr) (NF : Facts Z ad) (h0 : Heap) (n0 : Nat) (Ol : Old Z n0 h0) (p0 : Int32) (hi : (p0 &&& (2147483647 : Int32)) % (30 : Int32) = (6 : Int32)) :
    MetFree l x (head1 (Jvm.Cond.code x code maxLocals ret :: ws) room_1) (fun a U => a = #[(.int p0)] ∧ Z.Warmed39 U.vm ∧ U.heap = h0) (fun _ _ _ _ _ => True) (fun _ U o U' => ∃ v L, o = .returned v ∧ QL n0 v U'.heap L ∧ FrameEnd U o U' L room_1.cells room_1.slots) := by
  refine MetFree.of_bodySF (plainFor_of_name pn_0) hisR ?_
  intro p e s m args below meth c s₁ Bd hml0 hP hK
  obtain ⟨rfl, hZ, hh⟩ := hP
  have hx := Bd.exec
  have hby := Bd.bytes
  have hml : c.maxLocals = 5 := hml0
  have hown : s.vm.findClass "com/example/pivotlex/pivotlex/terminology/IssueCodeIsOfValueSetPinLaw" = some m.cls := findClass_of_methodNamed Bd.named
  have X0 : Stand p l e room_1 s m #[(.int p0)] below meth c s₁ [] 0 0 := Stand.of_body Bd
  have e0 : s₁.heap = h0 := by rw [← hh, Bd.state]; rfl
  have N0 := Fr.nil n0
  have pre0 : ∀ t, Steps p.tables e below (s₁.setTop (mkF m 0 #[.val (.int p0), .unset, .unset, .unset, .unset] [])) t → Steps p.tables e below (s₁.setTop (entryFrame m #[(.int p0)] maxLocals)) t := fun t k => castTop (ef_0_I m (p0)) k
  obtain ⟨T1, h1, Lc1, b1, k1, X1, e1, Ol1, K1, N1, V1, st1⟩ := fill hw ad NF h0 n0 Ol p0 X0 hx hZ hby hml hown e0
  obtain ⟨cl2, Ar2, q2, S2, M2, H2, G2⟩ := id V1
  have hin2 : ¬ ((6 : Int32) < 0 ∨ cl2.slots.size ≤ ((6 : Int32)).toNatClampNeg) := inb_of S2 ⟨by decide, by decide⟩
  have hat2 : cl2.slots[((6 : Int32)).toNatClampNeg]? = some (.ref (ad 6)) := Has.at H2 hin2 rfl
  obtain ⟨cq3, kq3, qa3, qb3, qc3⟩ := isOf hZ e1 ((ft_6 NF).ext Ol1.2)
  obtain ⟨_, _, ⟨T3, L3, k3, n3⟩, -, X3, ⟨Lc3, hQ3, l3, y3, z3⟩, st3⟩ := X1.virtualBack hx (y := (⟨"com/example/pivotlex/pivotlex/terminology/IssueCode", "isOfValueSet", "()Z"⟩ : MethodName)) (z := (⟨"com/example/pivotlex/pivotlex/terminology/IssueCode", "isOfValueSet", "()Z"⟩ : MethodName)) hown (mvT hZ (hw _ (List.mem_of_getElem? (i := 65) rfl))) (mvT hZ (hw _ (List.mem_of_getElem? (i := 66) rfl))) (notFace_of_selects (args := #[]) (mvT hZ (hw _ (List.mem_of_getElem? (i := 68) rfl)))) (mvT hZ (hw _ (List.mem_of_getElem? (i := 68) rfl))) (mvT hZ (hw _ (List.mem_of_getElem? (i := 67) rfl))) (by decide) (backOf (W := 0) (rm1_ad6 l Z a0 hw [] ad NF h1 n0 Ol1) hZ (hw _ (List.mem_of_getElem? (i := 69) rfl)) (hw _ (List.mem_of_getElem? (i := 3) rfl)) (by decide) (by decide)) qa3 qc3 (g := (mkF m 242 #[.val (.int p0), .val (.ref b1), .val (.int (6 : Int32)), .val (.ref (ad 6)), .val (.int (0 : Int32))] [(.ref (ad 6))])) rfl (by rw [hml]; rfl) (Steps.refl _) (argsL := []) (rest := []) (lenOf pd_1 rfl) rfl (by show 2 * 0 + _ ≤ _; exact Nat.le_of_eq rfl) (hb hby at_242) (fun _ _ => ⟨rfl, e1, (by decide : 1 + 0 ≤ _), (by decide : 30 + 0 ≤ _)⟩)
  dsimp only [Pt.U, Pt.locs, Pt.cells, Pt.slots] at X3 l3 y3 z3 st3 hQ3
  subst l3 y3 z3
  obtain ⟨rfl, Nq3, e3⟩ := hQ3
  have N3 := Fr.app N1 Nq3
  obtain ⟨fs, hr, hrun, hended, hW, hsame⟩ := X3.leave (v := some (.int (1 : Int32))) (fun h => by rw [Bd.returns] at h; cases h)
  refine ⟨_, _, pre0 _ ?_, hrun, hended, _, _, rfl, ?_, ⟨_, rfl⟩, hW, hsame.mono (by decide) (by decide)⟩
  · show Steps p.tables e below (s₁.setTop (mkF m 0 #[.val (.int p0), .unset, .unset, .unset, .unset] [])) _
    refine st1 _ ?_
    show Steps p.tables e below (T1.setTop (mkF m 210 #[.val (.int p0), .val (.ref b1), .unset, .unset, .unset] [])) _
    refine XS.iloadN X1.here hx rfl (hb hby at_210) rfl ?_
    show Steps p.tables e below (T1.setTop (mkF m 211 #[.val (.int p0), .val (.ref b1), .unset, .unset, .unset] [(.int p0)])) _
    refine X1.ldcInt hx hown (mvT hZ (hw _ (List.mem_of_getElem? (i := 64) rfl))) (g := (mkF m 211 #[.val (.int p0), .val (.ref b1), .unset, .unset, .unset] [(.int p0)])) rfl (hb hby at_211) _ ?_
    show Steps p.tables e below (T1.setTop (mkF m 213 #[.val (.int p0), .val (.ref b1), .unset, .unset, .unset] [(.int (2147483647 : Int32)), (.int p0)])) _
    refine XS.iand X1.here hx rfl (hb hby at_213) rfl ?_
    show Steps p.tables e below (T1.setTop (mkF m 214 #[.val (.int p0), .val (.ref b1), .unset, .unset, .unset] [(.int (p0 &&& (2147483647 : Int32)))])) _
    refine XS.bipush X1.here hx rfl (hb hby at_214) ?_
    show Steps p.tables e below (T1.setTop (mkF m 216 #[.val (.int p0), .val (.ref b1), .unset, .unset, .unset] [(.int (30 : Int32)), (.int (p0 &&& (2147483647 : Int32)))])) _
    refine iremM X1 hx rfl (hb hby at_216) rfl (by decide) ?_
    show Steps p.tables e below (T1.setTop (mkF m 217 #[.val (.int p0), .val (.ref b1), .unset, .unset, .unset] [(.int ((p0 &&& (2147483647 : Int32)) % (30 : Int32)))])) _
    rw [hi]
    show Steps p.tables e below (T1.setTop (mkF m 217 #[.val (.int p0), .val (.ref b1), .unset, .unset, .unset] [(.int (6 : Int32))])) _
    refine XS.istoreN X1.here hx rfl (hb hby at_217) rfl (l' := #[.val (.int p0), .val (.ref b1), .val (.int (6 : Int32)), .unset, .unset]) rfl ?_
    show Steps p.tables e below (T1.setTop (mkF m 218 #[.val (.int p0), .val (.ref b1), .val (.int (6 : Int32)), .unset, .unset] [])) _
    refine XS.aloadN X1.here hx rfl (hb hby at_218) rfl rfl ?_
    show Steps p.tables e below (T1.setTop (mkF m 219 #[.val (.int p0), .val (.ref b1), .val (.int (6 : Int32)), .unset, .unset] [(.ref b1)])) _
    refine XS.iloadN X1.here hx rfl (hb hby at_219) rfl ?_
    show Steps p.tables e below (T1.setTop (mkF m 220 #[.val (.int p0), .val (.ref b1), .val (.int (6 : Int32)), .unset, .unset] [(.int (6 : Int32)), (.ref b1)])) _
    refine X1.aaload hx (j := (6 : Int32)) (v := (.ref (ad 6))) (by rw [e1]; exact Ar2.1) (State.isArrayOf_alike hZ.alike Ar2.2.1) rfl Ar2.2.2 hin2 hat2 (g := (mkF m 220 #[.val (.int p0), .val (.ref b1), .val (.int (6 : Int32)), .unset, .unset] [(.int (6 : Int32)), (.ref b1)])) rfl rfl (hb hby at_220) _ ?_
    show Steps p.tables e below (T1.setTop (mkF m 221 #[.val (.int p0), .val (.ref b1), .val (.int (6 : Int32)), .unset, .unset] [(.ref (ad 6))])) _
    refine XS.astoreN X1.here hx rfl (hb hby at_221) rfl rfl (l' := #[.val (.int p0), .val (.ref b1), .val (.int (6 : Int32)), .val (.ref (ad 6)), .unset]) rfl ?_
    show Steps p.tables e below (T1.setTop (mkF m 222 #[.val (.int p0), .val (.ref b1), .val (.int (6 : Int32)), .val (.ref (ad 6)), .unset] [])) _
    refine XS.iloadN X1.here hx rfl (hb hby at_222) rfl ?_
    show Steps p.tables e below (T1.setTop (mkF m 223 #[.val (.int p0), .val (.ref b1), .val (.int (6 : Int32)), .val (.ref (ad 6)), .unset] [(.int (6 : Int32))])) _
    refine XS.bipush X1.here hx rfl (hb hby at_223) ?_
    show Steps p.tables e below (T1.setTop (mkF m 225 #[.val (.int p0), .val (.ref b1), .val (.int (6 : Int32)), .val (.ref (ad 6)), .unset] [(.int (12 : Int32)), (.int (6 : Int32))])) _
    refine XS.icmpYes X1.here hx rfl (pc0 := 225) (pc' := 238) rfl (hb hby at_225) rfl (tlt (by decide)).1 (by decide) (by decide) ?_
    show Steps p.tables e below (T1.setTop (mkF m 238 #[.val (.int p0), .val (.ref b1), .val (.int (6 : Int32)), .val (.ref (ad 6)), .unset] [])) _
    refine XS.iconst X1.here hx rfl (hb hby at_238) ?_
    show Steps p.tables e below (T1.setTop (mkF m 239 #[.val (.int p0), .val (.ref b1), .val (.int (6 : Int32)), .val (.ref (ad 6)), .unset] [(.int (0 : Int32))])) _
    refine XS.istore X1.here hx rfl (hb hby at_239) rfl (l' := #[.val (.int p0), .val (.ref b1), .val (.int (6 : Int32)), .val (.ref (ad 6)), .val (.int (0 : Int32))]) rfl ?_
    show Steps p.tables e below (T1.setTop (mkF m 241 #[.val (.int p0), .val (.ref b1), .val (.int (6 : Int32)), .val (.ref (ad 6)), .val (.int (0 : Int32))] [])) _
    refine XS.aloadN X1.here hx rfl (hb hby at_241) rfl rfl ?_
    show Steps p.tables e below (T1.setTop (mkF m 242 #[.val (.int p0), .val (.ref b1), .val (.int (6 : Int32)), .val (.ref (ad 6)), .val (.int (0 : Int32))] [(.ref (ad 6))])) _
    refine st3.trans ?_
    show Steps p.tables e below (T3.setTop (mkF m 245 #[.val (.int p0), .val (.ref b1), .val (.int (6 : Int32)), .val (.ref (ad 6)), .val (.int (0 : Int32))] [(.int (0 : Int32))])) _
    refine XS.iload X3.here hx rfl (hb hby at_245) rfl ?_
    show Steps p.tables e below (T3.setTop (mkF m 247 #[.val (.int p0), .val (.ref b1), .val (.int (6 : Int32)), .val (.ref (ad 6)), .val (.int (0 : Int32))] [(.int (0 : Int32)), (.int (0 : Int32))])) _
    refine XS.icmpNo X3.here hx rfl (hb hby at_247) rfl (teq (by decide)).2 ?_
    show Steps p.tables e below (T3.setTop (mkF m 250 #[.val (.int p0), .val (.ref b1), .val (.int (6 : Int32)), .val (.ref (ad 6)), .val (.int (0 : Int32))] [])) _
    refine XS.iconst X3.here hx rfl (hb hby at_250) ?_
    show Steps p.tables e below (T3.setTop (mkF m 251 #[.val (.int p0), .val (.ref b1), .val (.int (6 : Int32)), .val (.ref (ad 6)), .val (.int (0 : Int32))] [(.int (1 : Int32))])) _
    refine XS.goto X3.here hx rfl (pc0 := 251) (pc' := 255) rfl (hb hby at_251) (by decide) (by decide) ?_
    show Steps p.tables e below (T3.setTop (mkF m 255 #[.val (.int p0), .val (.ref b1), .val (.int (6 : Int32)), .val (.ref (ad 6)), .val (.int (0 : Int32))] [(.int (1 : Int32))])) _
    exact retN X3 hx (t := .boolean) Bd.returns (by simp) (hb hby at_255) hr
  · exact ⟨rfl, N3⟩
set_option maxRecDepth 65536 in
set_option maxHeartbeats 40000000 in
theorem rm1_ad7 (l : Launch) (Z : State) (a0 : Array Value) (hw : ∀ d ∈ tables_1, d.before a0 Z = true) (ws : List Jvm.Cond) (ad : Nat → Addr) (NF : Facts Z ad) (h0 : Heap) (n0 : Nat) (Ol : Old Z n0 h0) :
    MetFree l (⟨"com/example/pivotlex/pivotlex/terminology/IssueCode", "isOfValueSet", "()Z"⟩ : MethodName) (head1 (Jvm.Cond.code (⟨"com/example/pivotlex/pivotlex/terminology/IssueCode", "isOfValueSet", "()Z"⟩ : MethodName) prog_80_method_4_code 1 (some .boolean) :: ws) ({ frames := 0, cells := 0, slots := 0, locals := 0 } : Room)) (fun a U => a = #[(.ref (ad 7))] ∧ Z.Warmed39 U.vm ∧ U.heap = h0) (fun _ _ _ _ _ => True) (fun _ U o U' => ∃ v L, o = .returned v ∧ QS (.int (0 : Int32)) h0 n0 v U'.heap L ∧ FrameEnd U o U' L ({ frames := 0, cells := 0, slots := 0, locals := 0 } : Room).cells ({ frames := 0, cells := 0, slots := 0, locals := 0 } : Room).slots) := by
  refine MetFree.of_bodySF (plainFor_of_name pn_1) hisR ?_
  intro p e s m args below meth c s₁ Bd hml0 hP hK
  obtain ⟨rfl, hZ, hh⟩ := hP
  have hx := Bd.exec
  have hby := Bd.bytes
  have hml : c.maxLocals = 1 := hml0
  have hown : s.vm.findClass "com/example/pivotlex/pivotlex/terminology/IssueCode" = some m.cls := findClass_of_methodNamed Bd.named
  have X0 : Stand p l e ({ frames := 0, cells := 0, slots := 0, locals := 0 } : Room) s m #[(.ref (ad 7))] below meth c s₁ [] 0 0 := Stand.of_body Bd
  have e0 : s₁.heap = h0 := by rw [← hh, Bd.state]; rfl
  have N0 := Fr.nil n0
  have pre0 : ∀ t, Steps p.tables e below (s₁.setTop (mkF m 0 #[.val (.ref (ad 7))] [])) t → Steps p.tables e below (s₁.setTop (entryFrame m #[(.ref (ad 7))] 1)) t := fun t k => castTop (ef_1_R m (ad 7)) k
  obtain ⟨T1, X1, e1, st1⟩ := getS2 X0 hx hZ hown (host := "") (Or.inl (hw _ (List.mem_of_getElem? (i := 70) rfl))) Via.refl e0 ((ft_42 NF).ext Ol.2) (g := (mkF m 1 #[.val (.ref (ad 7))] [(.ref (ad 7))])) rfl (hb hby d1_1)
  obtain ⟨T2, X2, e2, st2⟩ := getS2 X1 hx hZ hown (host := "") (Or.inl (hw _ (List.mem_of_getElem? (i := 71) rfl))) Via.refl e1 ((ft_43 NF).ext Ol.2) (g := (mkF m 8 #[.val (.ref (ad 7))] [(.ref (ad 7))])) rfl (hb hby d1_8)
  obtain ⟨T3, X3, e3, st3⟩ := getS2 X2 hx hZ hown (host := "") (Or.inl (hw _ (List.mem_of_getElem? (i := 72) rfl))) Via.refl e2 ((ft_44 NF).ext Ol.2) (g := (mkF m 15 #[.val (.ref (ad 7))] [(.ref (ad 7))])) rfl (hb hby d1_15)
  obtain ⟨T4, X4, e4, st4⟩ := getS2 X3 hx hZ hown (host := "") (Or.inl (hw _ (List.mem_of_getElem? (i := 73) rfl))) Via.refl e3 ((ft_45 NF).ext Ol.2) (g := (mkF m 22 #[.val (.ref (ad 7))] [(.ref (ad 7))])) rfl (hb hby d1_22)
  obtain ⟨fs, hr, hrun, hended, hW, hsame⟩ := X4.leave (v := some (.int (0 : Int32))) (fun h => by rw [Bd.returns] at h; cases h)
  refine ⟨_, _, pre0 _ ?_, hrun, hended, _, _, rfl, ?_, ⟨_, rfl⟩, hW, hsame.mono (by decide) (by decide)⟩
  · show Steps p.tables e below (s₁.setTop (mkF m 0 #[.val (.ref (ad 7))] [])) _
    refine XS.aloadN X0.here hx rfl (hb hby d1_0) rfl rfl ?_
    show Steps p.tables e below (s₁.setTop (mkF m 1 #[.val (.ref (ad 7))] [(.ref (ad 7))])) _
    refine st1 _ ?_
    show Steps p.tables e below (T1.setTop (mkF m 4 #[.val (.ref (ad 7))] [(.ref (ad 12)), (.ref (ad 7))])) _
    refine acmp X1 hx rfl (x := (.ref (ad 7))) (y := (.ref (ad 12))) rfl rfl (pc0 := 4) (pc' := 7) (same := false) rfl (hb hby d1_4) rfl (decide_eq_false (fun h => (Fld.ne (ft_68 NF) (ft_61 NF) (by decide)) (Value.ref.inj h))) (by decide) (by decide) ?_
    show Steps p.tables e below (T1.setTop (mkF m 7 #[.val (.ref (ad 7))] [])) _
    refine XS.aloadN X1.here hx rfl (hb hby d1_7) rfl rfl ?_
    show Steps p.tables e below (T1.setTop (mkF m 8 #[.val (.ref (ad 7))] [(.ref (ad 7))])) _
    refine st2 _ ?_
    show Steps p.tables e below (T2.setTop (mkF m 11 #[.val (.ref (ad 7))] [(.ref (ad 13)), (.ref (ad 7))])) _
    refine acmp X2 hx rfl (x := (.ref (ad 7))) (y := (.ref (ad 13))) rfl rfl (pc0 := 11) (pc' := 14) (same := false) rfl (hb hby d1_11) rfl (decide_eq_false (fun h => (Fld.ne (ft_68 NF) (ft_62 NF) (by decide)) (Value.ref.inj h))) (by decide) (by decide) ?_
    show Steps p.tables e below (T2.setTop (mkF m 14 #[.val (.ref (ad 7))] [])) _
    refine XS.aloadN X2.here hx rfl (hb hby d1_14) rfl rfl ?_
    show Steps p.tables e below (T2.setTop (mkF m 15 #[.val (.ref (ad 7))] [(.ref (ad 7))])) _
    refine st3 _ ?_
    show Steps p.tables e below (T3.setTop (mkF m 18 #[.val (.ref (ad 7))] [(.ref (ad 14)), (.ref (ad 7))])) _
    refine acmp X3 hx rfl (x := (.ref (ad 7))) (y := (.ref (ad 14))) rfl rfl (pc0 := 18) (pc' := 21) (same := false) rfl (hb hby d1_18) rfl (decide_eq_false (fun h => (Fld.ne (ft_68 NF) (ft_63 NF) (by decide)) (Value.ref.inj h))) (by decide) (by decide) ?_
    show Steps p.tables e below (T3.setTop (mkF m 21 #[.val (.ref (ad 7))] [])) _
    refine XS.aloadN X3.here hx rfl (hb hby d1_21) rfl rfl ?_
    show Steps p.tables e below (T3.setTop (mkF m 22 #[.val (.ref (ad 7))] [(.ref (ad 7))])) _
    refine st4 _ ?_
    show Steps p.tables e below (T4.setTop (mkF m 25 #[.val (.ref (ad 7))] [(.ref (ad 15)), (.ref (ad 7))])) _
    refine acmp X4 hx rfl (x := (.ref (ad 7))) (y := (.ref (ad 15))) rfl rfl (pc0 := 25) (pc' := 32) (same := false) rfl (hb hby d1_25) rfl (decide_eq_false (fun h => (Fld.ne (ft_68 NF) (ft_64 NF) (by decide)) (Value.ref.inj h))) (by decide) (by decide) ?_
    show Steps p.tables e below (T4.setTop (mkF m 32 #[.val (.ref (ad 7))] [])) _
    refine XS.iconst X4.here hx rfl (hb hby d1_32) ?_
    show Steps p.tables e below (T4.setTop (mkF m 33 #[.val (.ref (ad 7))] [(.int (0 : Int32))])) _
    exact retN X4 hx (t := .boolean) Bd.returns (by simp) (hb hby d1_33) hr
  · exact ⟨rfl, N0, e4⟩
set_option maxRecDepth 65536 in
set_option maxHeartbeats 40000000 in
theorem rm0_7 (l : Launch) (Z : State) (a0 : Array Value) (hw : ∀ d ∈ tables_1, d.before a0 Z = true) (ws : List Jvm.Cond) (ad : Nat → Addr) (NF : Facts Z ad) (h0 : Heap) (n0 : Nat) (Ol : Old Z n0 h0) (p0 : Int32) (hi : (p0 &&& (2147483647 : Int32)) % (30 : Int32) = (7 : Int32)) :
    MetFree l x (head1 (Jvm.Cond.code x code maxLocals ret :: ws) room_1) (fun a U => a = #[(.int p0)] ∧ Z.Warmed39 U.vm ∧ U.heap = h0) (fun _ _ _ _ _ => True) (fun _ U o U' => ∃ v L, o = .returned v ∧ QL n0 v U'.heap L ∧ FrameEnd U o U' L room_1.cells room_1.slots) := by
  refine MetFree.of_bodySF (plainFor_of_name pn_0) hisR ?_
  intro p e s m args below meth c s₁ Bd hml0 hP hK
  obtain ⟨rfl, hZ, hh⟩ := hP
  have hx := Bd.exec
  have hby := Bd.bytes
  have hml : c.maxLocals = 5 := hml0
  have hown : s.vm.findClass "com/example/pivotlex/pivotlex/terminology/IssueCodeIsOfValueSetPinLaw" = some m.cls := findClass_of_methodNamed Bd.named
  have X0 : Stand p l e room_1 s m #[(.int p0)] below meth c s₁ [] 0 0 := Stand.of_body Bd
  have e0 : s₁.heap = h0 := by rw [← hh, Bd.state]; rfl
  have N0 := Fr.nil n0
  have pre0 : ∀ t, Steps p.tables e below (s₁.setTop (mkF m 0 #[.val (.int p0), .unset, .unset, .unset, .unset] [])) t → Steps p.tables e below (s₁.setTop (entryFrame m #[(.int p0)] maxLocals)) t := fun t k => castTop (ef_0_I m (p0)) k
  obtain ⟨T1, h1, Lc1, b1, k1, X1, e1, Ol1, K1, N1, V1, st1⟩ := fill hw ad NF h0 n0 Ol p0 X0 hx hZ hby hml hown e0
  obtain ⟨cl2, Ar2, q2, S2, M2, H2, G2⟩ := id V1
  have hin2 : ¬ ((7 : Int32) < 0 ∨ cl2.slots.size ≤ ((7 : Int32)).toNatClampNeg) := inb_of S2 ⟨by decide, by decide⟩
  have hat2 : cl2.slots[((7 : Int32)).toNatClampNeg]? = some (.ref (ad 7)) := Has.at H2 hin2 rfl
  obtain ⟨cq3, kq3, qa3, qb3, qc3⟩ := isOf hZ e1 ((ft_7 NF).ext Ol1.2)
  obtain ⟨_, _, ⟨T3, L3, k3, n3⟩, -, X3, ⟨Lc3, hQ3, l3, y3, z3⟩, st3⟩ := X1.virtualBack hx (y := (⟨"com/example/pivotlex/pivotlex/terminology/IssueCode", "isOfValueSet", "()Z"⟩ : MethodName)) (z := (⟨"com/example/pivotlex/pivotlex/terminology/IssueCode", "isOfValueSet", "()Z"⟩ : MethodName)) hown (mvT hZ (hw _ (List.mem_of_getElem? (i := 65) rfl))) (mvT hZ (hw _ (List.mem_of_getElem? (i := 66) rfl))) (notFace_of_selects (args := #[]) (mvT hZ (hw _ (List.mem_of_getElem? (i := 68) rfl)))) (mvT hZ (hw _ (List.mem_of_getElem? (i := 68) rfl))) (mvT hZ (hw _ (List.mem_of_getElem? (i := 67) rfl))) (by decide) (backOf (W := 0) (rm1_ad7 l Z a0 hw [] ad NF h1 n0 Ol1) hZ (hw _ (List.mem_of_getElem? (i := 69) rfl)) (hw _ (List.mem_of_getElem? (i := 3) rfl)) (by decide) (by decide)) qa3 qc3 (g := (mkF m 242 #[.val (.int p0), .val (.ref b1), .val (.int (7 : Int32)), .val (.ref (ad 7)), .val (.int (0 : Int32))] [(.ref (ad 7))])) rfl (by rw [hml]; rfl) (Steps.refl _) (argsL := []) (rest := []) (lenOf pd_1 rfl) rfl (by show 2 * 0 + _ ≤ _; exact Nat.le_of_eq rfl) (hb hby at_242) (fun _ _ => ⟨rfl, e1, (by decide : 1 + 0 ≤ _), (by decide : 30 + 0 ≤ _)⟩)
  dsimp only [Pt.U, Pt.locs, Pt.cells, Pt.slots] at X3 l3 y3 z3 st3 hQ3
  subst l3 y3 z3
  obtain ⟨rfl, Nq3, e3⟩ := hQ3
  have N3 := Fr.app N1 Nq3
  obtain ⟨fs, hr, hrun, hended, hW, hsame⟩ := X3.leave (v := some (.int (1 : Int32))) (fun h => by rw [Bd.returns] at h; cases h)
  refine ⟨_, _, pre0 _ ?_, hrun, hended, _, _, rfl, ?_, ⟨_, rfl⟩, hW, hsame.mono (by decide) (by decide)⟩
  · show Steps p.tables e below (s₁.setTop (mkF m 0 #[.val (.int p0), .unset, .unset, .unset, .unset] [])) _
    refine st1 _ ?_
    show Steps p.tables e below (T1.setTop (mkF m 210 #[.val (.int p0), .val (.ref b1), .unset, .unset, .unset] [])) _
    refine XS.iloadN X1.here hx rfl (hb hby at_210) rfl ?_
    show Steps p.tables e below (T1.setTop (mkF m 211 #[.val (.int p0), .val (.ref b1), .unset, .unset, .unset] [(.int p0)])) _
    refine X1.ldcInt hx hown (mvT hZ (hw _ (List.mem_of_getElem? (i := 64) rfl))) (g := (mkF m 211 #[.val (.int p0), .val (.ref b1), .unset, .unset, .unset] [(.int p0)])) rfl (hb hby at_211) _ ?_
    show Steps p.tables e below (T1.setTop (mkF m 213 #[.val (.int p0), .val (.ref b1), .unset, .unset, .unset] [(.int (2147483647 : Int32)), (.int p0)])) _
    refine XS.iand X1.here hx rfl (hb hby at_213) rfl ?_
    show Steps p.tables e below (T1.setTop (mkF m 214 #[.val (.int p0), .val (.ref b1), .unset, .unset, .unset] [(.int (p0 &&& (2147483647 : Int32)))])) _
    refine XS.bipush X1.here hx rfl (hb hby at_214) ?_
    show Steps p.tables e below (T1.setTop (mkF m 216 #[.val (.int p0), .val (.ref b1), .unset, .unset, .unset] [(.int (30 : Int32)), (.int (p0 &&& (2147483647 : Int32)))])) _
    refine iremM X1 hx rfl (hb hby at_216) rfl (by decide) ?_
    show Steps p.tables e below (T1.setTop (mkF m 217 #[.val (.int p0), .val (.ref b1), .unset, .unset, .unset] [(.int ((p0 &&& (2147483647 : Int32)) % (30 : Int32)))])) _
    rw [hi]
    show Steps p.tables e below (T1.setTop (mkF m 217 #[.val (.int p0), .val (.ref b1), .unset, .unset, .unset] [(.int (7 : Int32))])) _
    refine XS.istoreN X1.here hx rfl (hb hby at_217) rfl (l' := #[.val (.int p0), .val (.ref b1), .val (.int (7 : Int32)), .unset, .unset]) rfl ?_
    show Steps p.tables e below (T1.setTop (mkF m 218 #[.val (.int p0), .val (.ref b1), .val (.int (7 : Int32)), .unset, .unset] [])) _
    refine XS.aloadN X1.here hx rfl (hb hby at_218) rfl rfl ?_
    show Steps p.tables e below (T1.setTop (mkF m 219 #[.val (.int p0), .val (.ref b1), .val (.int (7 : Int32)), .unset, .unset] [(.ref b1)])) _
    refine XS.iloadN X1.here hx rfl (hb hby at_219) rfl ?_
    show Steps p.tables e below (T1.setTop (mkF m 220 #[.val (.int p0), .val (.ref b1), .val (.int (7 : Int32)), .unset, .unset] [(.int (7 : Int32)), (.ref b1)])) _
    refine X1.aaload hx (j := (7 : Int32)) (v := (.ref (ad 7))) (by rw [e1]; exact Ar2.1) (State.isArrayOf_alike hZ.alike Ar2.2.1) rfl Ar2.2.2 hin2 hat2 (g := (mkF m 220 #[.val (.int p0), .val (.ref b1), .val (.int (7 : Int32)), .unset, .unset] [(.int (7 : Int32)), (.ref b1)])) rfl rfl (hb hby at_220) _ ?_
    show Steps p.tables e below (T1.setTop (mkF m 221 #[.val (.int p0), .val (.ref b1), .val (.int (7 : Int32)), .unset, .unset] [(.ref (ad 7))])) _
    refine XS.astoreN X1.here hx rfl (hb hby at_221) rfl rfl (l' := #[.val (.int p0), .val (.ref b1), .val (.int (7 : Int32)), .val (.ref (ad 7)), .unset]) rfl ?_
    show Steps p.tables e below (T1.setTop (mkF m 222 #[.val (.int p0), .val (.ref b1), .val (.int (7 : Int32)), .val (.ref (ad 7)), .unset] [])) _
    refine XS.iloadN X1.here hx rfl (hb hby at_222) rfl ?_
    show Steps p.tables e below (T1.setTop (mkF m 223 #[.val (.int p0), .val (.ref b1), .val (.int (7 : Int32)), .val (.ref (ad 7)), .unset] [(.int (7 : Int32))])) _
    refine XS.bipush X1.here hx rfl (hb hby at_223) ?_
    show Steps p.tables e below (T1.setTop (mkF m 225 #[.val (.int p0), .val (.ref b1), .val (.int (7 : Int32)), .val (.ref (ad 7)), .unset] [(.int (12 : Int32)), (.int (7 : Int32))])) _
    refine XS.icmpYes X1.here hx rfl (pc0 := 225) (pc' := 238) rfl (hb hby at_225) rfl (tlt (by decide)).1 (by decide) (by decide) ?_
    show Steps p.tables e below (T1.setTop (mkF m 238 #[.val (.int p0), .val (.ref b1), .val (.int (7 : Int32)), .val (.ref (ad 7)), .unset] [])) _
    refine XS.iconst X1.here hx rfl (hb hby at_238) ?_
    show Steps p.tables e below (T1.setTop (mkF m 239 #[.val (.int p0), .val (.ref b1), .val (.int (7 : Int32)), .val (.ref (ad 7)), .unset] [(.int (0 : Int32))])) _
    refine XS.istore X1.here hx rfl (hb hby at_239) rfl (l' := #[.val (.int p0), .val (.ref b1), .val (.int (7 : Int32)), .val (.ref (ad 7)), .val (.int (0 : Int32))]) rfl ?_
    show Steps p.tables e below (T1.setTop (mkF m 241 #[.val (.int p0), .val (.ref b1), .val (.int (7 : Int32)), .val (.ref (ad 7)), .val (.int (0 : Int32))] [])) _
    refine XS.aloadN X1.here hx rfl (hb hby at_241) rfl rfl ?_
    show Steps p.tables e below (T1.setTop (mkF m 242 #[.val (.int p0), .val (.ref b1), .val (.int (7 : Int32)), .val (.ref (ad 7)), .val (.int (0 : Int32))] [(.ref (ad 7))])) _
    refine st3.trans ?_
    show Steps p.tables e below (T3.setTop (mkF m 245 #[.val (.int p0), .val (.ref b1), .val (.int (7 : Int32)), .val (.ref (ad 7)), .val (.int (0 : Int32))] [(.int (0 : Int32))])) _
    refine XS.iload X3.here hx rfl (hb hby at_245) rfl ?_
    show Steps p.tables e below (T3.setTop (mkF m 247 #[.val (.int p0), .val (.ref b1), .val (.int (7 : Int32)), .val (.ref (ad 7)), .val (.int (0 : Int32))] [(.int (0 : Int32)), (.int (0 : Int32))])) _
    refine XS.icmpNo X3.here hx rfl (hb hby at_247) rfl (teq (by decide)).2 ?_
    show Steps p.tables e below (T3.setTop (mkF m 250 #[.val (.int p0), .val (.ref b1), .val (.int (7 : Int32)), .val (.ref (ad 7)), .val (.int (0 : Int32))] [])) _
    refine XS.iconst X3.here hx rfl (hb hby at_250) ?_
    show Steps p.tables e below (T3.setTop (mkF m 251 #[.val (.int p0), .val (.ref b1), .val (.int (7 : Int32)), .val (.ref (ad 7)), .val (.int (0 : Int32))] [(.int (1 : Int32))])) _
    refine XS.goto X3.here hx rfl (pc0 := 251) (pc' := 255) rfl (hb hby at_251) (by decide) (by decide) ?_
    show Steps p.tables e below (T3.setTop (mkF m 255 #[.val (.int p0), .val (.ref b1), .val (.int (7 : Int32)), .val (.ref (ad 7)), .val (.int (0 : Int32))] [(.int (1 : Int32))])) _
    exact retN X3 hx (t := .boolean) Bd.returns (by simp) (hb hby at_255) hr
  · exact ⟨rfl, N3⟩
set_option maxRecDepth 65536 in
set_option maxHeartbeats 40000000 in
theorem rm1_ad8 (l : Launch) (Z : State) (a0 : Array Value) (hw : ∀ d ∈ tables_1, d.before a0 Z = true) (ws : List Jvm.Cond) (ad : Nat → Addr) (NF : Facts Z ad) (h0 : Heap) (n0 : Nat) (Ol : Old Z n0 h0) :
    MetFree l (⟨"com/example/pivotlex/pivotlex/terminology/IssueCode", "isOfValueSet", "()Z"⟩ : MethodName) (head1 (Jvm.Cond.code (⟨"com/example/pivotlex/pivotlex/terminology/IssueCode", "isOfValueSet", "()Z"⟩ : MethodName) prog_80_method_4_code 1 (some .boolean) :: ws) ({ frames := 0, cells := 0, slots := 0, locals := 0 } : Room)) (fun a U => a = #[(.ref (ad 8))] ∧ Z.Warmed39 U.vm ∧ U.heap = h0) (fun _ _ _ _ _ => True) (fun _ U o U' => ∃ v L, o = .returned v ∧ QS (.int (0 : Int32)) h0 n0 v U'.heap L ∧ FrameEnd U o U' L ({ frames := 0, cells := 0, slots := 0, locals := 0 } : Room).cells ({ frames := 0, cells := 0, slots := 0, locals := 0 } : Room).slots) := by
  refine MetFree.of_bodySF (plainFor_of_name pn_1) hisR ?_
  intro p e s m args below meth c s₁ Bd hml0 hP hK
  obtain ⟨rfl, hZ, hh⟩ := hP
  have hx := Bd.exec
  have hby := Bd.bytes
  have hml : c.maxLocals = 1 := hml0
  have hown : s.vm.findClass "com/example/pivotlex/pivotlex/terminology/IssueCode" = some m.cls := findClass_of_methodNamed Bd.named
  have X0 : Stand p l e ({ frames := 0, cells := 0, slots := 0, locals := 0 } : Room) s m #[(.ref (ad 8))] below meth c s₁ [] 0 0 := Stand.of_body Bd
  have e0 : s₁.heap = h0 := by rw [← hh, Bd.state]; rfl
  have N0 := Fr.nil n0
  have pre0 : ∀ t, Steps p.tables e below (s₁.setTop (mkF m 0 #[.val (.ref (ad 8))] [])) t → Steps p.tables e below (s₁.setTop (entryFrame m #[(.ref (ad 8))] 1)) t := fun t k => castTop (ef_1_R m (ad 8)) k
  obtain ⟨T1, X1, e1, st1⟩ := getS2 X0 hx hZ hown (host := "") (Or.inl (hw _ (List.mem_of_getElem? (i := 70) rfl))) Via.refl e0 ((ft_42 NF).ext Ol.2) (g := (mkF m 1 #[.val (.ref (ad 8))] [(.ref (ad 8))])) rfl (hb hby d1_1)
  obtain ⟨T2, X2, e2, st2⟩ := getS2 X1 hx hZ hown (host := "") (Or.inl (hw _ (List.mem_of_getElem? (i := 71) rfl))) Via.refl e1 ((ft_43 NF).ext Ol.2) (g := (mkF m 8 #[.val (.ref (ad 8))] [(.ref (ad 8))])) rfl (hb hby d1_8)
  obtain ⟨T3, X3, e3, st3⟩ := getS2 X2 hx hZ hown (host := "") (Or.inl (hw _ (List.mem_of_getElem? (i := 72) rfl))) Via.refl e2 ((ft_44 NF).ext Ol.2) (g := (mkF m 15 #[.val (.ref (ad 8))] [(.ref (ad 8))])) rfl (hb hby d1_15)
  obtain ⟨T4, X4, e4, st4⟩ := getS2 X3 hx hZ hown (host := "") (Or.inl (hw _ (List.mem_of_getElem? (i := 73) rfl))) Via.refl e3 ((ft_45 NF).ext Ol.2) (g := (mkF m 22 #[.val (.ref (ad 8))] [(.ref (ad 8))])) rfl (hb hby d1_22)
  obtain ⟨fs, hr, hrun, hended, hW, hsame⟩ := X4.leave (v := some (.int (0 : Int32))) (fun h => by rw [Bd.returns] at h; cases h)
  refine ⟨_, _, pre0 _ ?_, hrun, hended, _, _, rfl, ?_, ⟨_, rfl⟩, hW, hsame.mono (by decide) (by decide)⟩
  · show Steps p.tables e below (s₁.setTop (mkF m 0 #[.val (.ref (ad 8))] [])) _
    refine XS.aloadN X0.here hx rfl (hb hby d1_0) rfl rfl ?_
    show Steps p.tables e below (s₁.setTop (mkF m 1 #[.val (.ref (ad 8))] [(.ref (ad 8))])) _
    refine st1 _ ?_
    show Steps p.tables e below (T1.setTop (mkF m 4 #[.val (.ref (ad 8))] [(.ref (ad 12)), (.ref (ad 8))])) _
    refine acmp X1 hx rfl (x := (.ref (ad 8))) (y := (.ref (ad 12))) rfl rfl (pc0 := 4) (pc' := 7) (same := false) rfl (hb hby d1_4) rfl (decide_eq_false (fun h => (Fld.ne (ft_72 NF) (ft_61 NF) (by decide)) (Value.ref.inj h))) (by decide) (by decide) ?_
    show Steps p.tables e below (T1.setTop (mkF m 7 #[.val (.ref (ad 8))] [])) _
    refine XS.aloadN X1.here hx rfl (hb hby d1_7) rfl rfl ?_
    show Steps p.tables e below (T1.setTop (mkF m 8 #[.val (.ref (ad 8))] [(.ref (ad 8))])) _
    refine st2 _ ?_
    show Steps p.tables e below (T2.setTop (mkF m 11 #[.val (.ref (ad 8))] [(.ref (ad 13)), (.ref (ad 8))])) _
    refine acmp X2 hx rfl (x := (.ref (ad 8))) (y := (.ref (ad 13))) rfl rfl (pc0 := 11) (pc' := 14) (same := false) rfl (hb hby d1_11) rfl (decide_eq_false (fun h => (Fld.ne (ft_72 NF) (ft_62 NF) (by decide)) (Value.ref.inj h))) (by decide) (by decide) ?_
    show Steps p.tables e below (T2.setTop (mkF m 14 #[.val (.ref (ad 8))] [])) _
    refine XS.aloadN X2.here hx rfl (hb hby d1_14) rfl rfl ?_
    show Steps p.tables e below (T2.setTop (mkF m 15 #[.val (.ref (ad 8))] [(.ref (ad 8))])) _
    refine st3 _ ?_
    show Steps p.tables e below (T3.setTop (mkF m 18 #[.val (.ref (ad 8))] [(.ref (ad 14)), (.ref (ad 8))])) _
    refine acmp X3 hx rfl (x := (.ref (ad 8))) (y := (.ref (ad 14))) rfl rfl (pc0 := 18) (pc' := 21) (same := false) rfl (hb hby d1_18) rfl (decide_eq_false (fun h => (Fld.ne (ft_72 NF) (ft_63 NF) (by decide)) (Value.ref.inj h))) (by decide) (by decide) ?_
    show Steps p.tables e below (T3.setTop (mkF m 21 #[.val (.ref (ad 8))] [])) _
    refine XS.aloadN X3.here hx rfl (hb hby d1_21) rfl rfl ?_
    show Steps p.tables e below (T3.setTop (mkF m 22 #[.val (.ref (ad 8))] [(.ref (ad 8))])) _
    refine st4 _ ?_
    show Steps p.tables e below (T4.setTop (mkF m 25 #[.val (.ref (ad 8))] [(.ref (ad 15)), (.ref (ad 8))])) _
    refine acmp X4 hx rfl (x := (.ref (ad 8))) (y := (.ref (ad 15))) rfl rfl (pc0 := 25) (pc' := 32) (same := false) rfl (hb hby d1_25) rfl (decide_eq_false (fun h => (Fld.ne (ft_72 NF) (ft_64 NF) (by decide)) (Value.ref.inj h))) (by decide) (by decide) ?_
    show Steps p.tables e below (T4.setTop (mkF m 32 #[.val (.ref (ad 8))] [])) _
    refine XS.iconst X4.here hx rfl (hb hby d1_32) ?_
    show Steps p.tables e below (T4.setTop (mkF m 33 #[.val (.ref (ad 8))] [(.int (0 : Int32))])) _
    exact retN X4 hx (t := .boolean) Bd.returns (by simp) (hb hby d1_33) hr
  · exact ⟨rfl, N0, e4⟩
set_option maxRecDepth 65536 in
set_option maxHeartbeats 40000000 in
theorem rm0_8 (l : Launch) (Z : State) (a0 : Array Value) (hw : ∀ d ∈ tables_1, d.before a0 Z = true) (ws : List Jvm.Cond) (ad : Nat → Addr) (NF : Facts Z ad) (h0 : Heap) (n0 : Nat) (Ol : Old Z n0 h0) (p0 : Int32) (hi : (p0 &&& (2147483647 : Int32)) % (30 : Int32) = (8 : Int32)) :
    MetFree l x (head1 (Jvm.Cond.code x code maxLocals ret :: ws) room_1) (fun a U => a = #[(.int p0)] ∧ Z.Warmed39 U.vm ∧ U.heap = h0) (fun _ _ _ _ _ => True) (fun _ U o U' => ∃ v L, o = .returned v ∧ QL n0 v U'.heap L ∧ FrameEnd U o U' L room_1.cells room_1.slots) := by
  refine MetFree.of_bodySF (plainFor_of_name pn_0) hisR ?_
  intro p e s m args below meth c s₁ Bd hml0 hP hK
  obtain ⟨rfl, hZ, hh⟩ := hP
  have hx := Bd.exec
  have hby := Bd.bytes
  have hml : c.maxLocals = 5 := hml0
  have hown : s.vm.findClass "com/example/pivotlex/pivotlex/terminology/IssueCodeIsOfValueSetPinLaw" = some m.cls := findClass_of_methodNamed Bd.named
  have X0 : Stand p l e room_1 s m #[(.int p0)] below meth c s₁ [] 0 0 := Stand.of_body Bd
  have e0 : s₁.heap = h0 := by rw [← hh, Bd.state]; rfl
  have N0 := Fr.nil n0
  have pre0 : ∀ t, Steps p.tables e below (s₁.setTop (mkF m 0 #[.val (.int p0), .unset, .unset, .unset, .unset] [])) t → Steps p.tables e below (s₁.setTop (entryFrame m #[(.int p0)] maxLocals)) t := fun t k => castTop (ef_0_I m (p0)) k
  obtain ⟨T1, h1, Lc1, b1, k1, X1, e1, Ol1, K1, N1, V1, st1⟩ := fill hw ad NF h0 n0 Ol p0 X0 hx hZ hby hml hown e0
  obtain ⟨cl2, Ar2, q2, S2, M2, H2, G2⟩ := id V1
  have hin2 : ¬ ((8 : Int32) < 0 ∨ cl2.slots.size ≤ ((8 : Int32)).toNatClampNeg) := inb_of S2 ⟨by decide, by decide⟩
  have hat2 : cl2.slots[((8 : Int32)).toNatClampNeg]? = some (.ref (ad 8)) := Has.at H2 hin2 rfl
  obtain ⟨cq3, kq3, qa3, qb3, qc3⟩ := isOf hZ e1 ((ft_8 NF).ext Ol1.2)
  obtain ⟨_, _, ⟨T3, L3, k3, n3⟩, -, X3, ⟨Lc3, hQ3, l3, y3, z3⟩, st3⟩ := X1.virtualBack hx (y := (⟨"com/example/pivotlex/pivotlex/terminology/IssueCode", "isOfValueSet", "()Z"⟩ : MethodName)) (z := (⟨"com/example/pivotlex/pivotlex/terminology/IssueCode", "isOfValueSet", "()Z"⟩ : MethodName)) hown (mvT hZ (hw _ (List.mem_of_getElem? (i := 65) rfl))) (mvT hZ (hw _ (List.mem_of_getElem? (i := 66) rfl))) (notFace_of_selects (args := #[]) (mvT hZ (hw _ (List.mem_of_getElem? (i := 68) rfl)))) (mvT hZ (hw _ (List.mem_of_getElem? (i := 68) rfl))) (mvT hZ (hw _ (List.mem_of_getElem? (i := 67) rfl))) (by decide) (backOf (W := 0) (rm1_ad8 l Z a0 hw [] ad NF h1 n0 Ol1) hZ (hw _ (List.mem_of_getElem? (i := 69) rfl)) (hw _ (List.mem_of_getElem? (i := 3) rfl)) (by decide) (by decide)) qa3 qc3 (g := (mkF m 242 #[.val (.int p0), .val (.ref b1), .val (.int (8 : Int32)), .val (.ref (ad 8)), .val (.int (0 : Int32))] [(.ref (ad 8))])) rfl (by rw [hml]; rfl) (Steps.refl _) (argsL := []) (rest := []) (lenOf pd_1 rfl) rfl (by show 2 * 0 + _ ≤ _; exact Nat.le_of_eq rfl) (hb hby at_242) (fun _ _ => ⟨rfl, e1, (by decide : 1 + 0 ≤ _), (by decide : 30 + 0 ≤ _)⟩)
  dsimp only [Pt.U, Pt.locs, Pt.cells, Pt.slots] at X3 l3 y3 z3 st3 hQ3
  subst l3 y3 z3
  obtain ⟨rfl, Nq3, e3⟩ := hQ3
  have N3 := Fr.app N1 Nq3
  obtain ⟨fs, hr, hrun, hended, hW, hsame⟩ := X3.leave (v := some (.int (1 : Int32))) (fun h => by rw [Bd.returns] at h; cases h)
  refine ⟨_, _, pre0 _ ?_, hrun, hended, _, _, rfl, ?_, ⟨_, rfl⟩, hW, hsame.mono (by decide) (by decide)⟩
  · show Steps p.tables e below (s₁.setTop (mkF m 0 #[.val (.int p0), .unset, .unset, .unset, .unset] [])) _
    refine st1 _ ?_
    show Steps p.tables e below (T1.setTop (mkF m 210 #[.val (.int p0), .val (.ref b1), .unset, .unset, .unset] [])) _
    refine XS.iloadN X1.here hx rfl (hb hby at_210) rfl ?_
    show Steps p.tables e below (T1.setTop (mkF m 211 #[.val (.int p0), .val (.ref b1), .unset, .unset, .unset] [(.int p0)])) _
    refine X1.ldcInt hx hown (mvT hZ (hw _ (List.mem_of_getElem? (i := 64) rfl))) (g := (mkF m 211 #[.val (.int p0), .val (.ref b1), .unset, .unset, .unset] [(.int p0)])) rfl (hb hby at_211) _ ?_
    show Steps p.tables e below (T1.setTop (mkF m 213 #[.val (.int p0), .val (.ref b1), .unset, .unset, .unset] [(.int (2147483647 : Int32)), (.int p0)])) _
    refine XS.iand X1.here hx rfl (hb hby at_213) rfl ?_
    show Steps p.tables e below (T1.setTop (mkF m 214 #[.val (.int p0), .val (.ref b1), .unset, .unset, .unset] [(.int (p0 &&& (2147483647 : Int32)))])) _
    refine XS.bipush X1.here hx rfl (hb hby at_214) ?_
    show Steps p.tables e below (T1.setTop (mkF m 216 #[.val (.int p0), .val (.ref b1), .unset, .unset, .unset] [(.int (30 : Int32)), (.int (p0 &&& (2147483647 : Int32)))])) _
    refine iremM X1 hx rfl (hb hby at_216) rfl (by decide) ?_
    show Steps p.tables e below (T1.setTop (mkF m 217 #[.val (.int p0), .val (.ref b1), .unset, .unset, .unset] [(.int ((p0 &&& (2147483647 : Int32)) % (30 : Int32)))])) _
    rw [hi]
    show Steps p.tables e below (T1.setTop (mkF m 217 #[.val (.int p0), .val (.ref b1), .unset, .unset, .unset] [(.int (8 : Int32))])) _
    refine XS.istoreN X1.here hx rfl (hb hby at_217) rfl (l' := #[.val (.int p0), .val (.ref b1), .val (.int (8 : Int32)), .unset, .unset]) rfl ?_
    show Steps p.tables e below (T1.setTop (mkF m 218 #[.val (.int p0), .val (.ref b1), .val (.int (8 : Int32)), .unset, .unset] [])) _
    refine XS.aloadN X1.here hx rfl (hb hby at_218) rfl rfl ?_
    show Steps p.tables e below (T1.setTop (mkF m 219 #[.val (.int p0), .val (.ref b1), .val (.int (8 : Int32)), .unset, .unset] [(.ref b1)])) _
    refine XS.iloadN X1.here hx rfl (hb hby at_219) rfl ?_
    show Steps p.tables e below (T1.setTop (mkF m 220 #[.val (.int p0), .val (.ref b1), .val (.int (8 : Int32)), .unset, .unset] [(.int (8 : Int32)), (.ref b1)])) _
    refine X1.aaload hx (j := (8 : Int32)) (v := (.ref (ad 8))) (by rw [e1]; exact Ar2.1) (State.isArrayOf_alike hZ.alike Ar2.2.1) rfl Ar2.2.2 hin2 hat2 (g := (mkF m 220 #[.val (.int p0), .val (.ref b1), .val (.int (8 : Int32)), .unset, .unset] [(.int (8 : Int32)), (.ref b1)])) rfl rfl (hb hby at_220) _ ?_
    show Steps p.tables e below (T1.setTop (mkF m 221 #[.val (.int p0), .val (.ref b1), .val (.int (8 : Int32)), .unset, .unset] [(.ref (ad 8))])) _
    refine XS.astoreN X1.here hx rfl (hb hby at_221) rfl rfl (l' := #[.val (.int p0), .val (.ref b1), .val (.int (8 : Int32)), .val (.ref (ad 8)), .unset]) rfl ?_
    show Steps p.tables e below (T1.setTop (mkF m 222 #[.val (.int p0), .val (.ref b1), .val (.int (8 : Int32)), .val (.ref (ad 8)), .unset] [])) _
    refine XS.iloadN X1.here hx rfl (hb hby at_222) rfl ?_
    show Steps p.tables e below (T1.setTop (mkF m 223 #[.val (.int p0), .val (.ref b1), .val (.int (8 : Int32)), .val (.ref (ad 8)), .unset] [(.int (8 : Int32))])) _
    refine XS.bipush X1.here hx rfl (hb hby at_223) ?_
    show Steps p.tables e below (T1.setTop (mkF m 225 #[.val (.int p0), .val (.ref b1), .val (.int (8 : Int32)), .val (.ref (ad 8)), .unset] [(.int (12 : Int32)), (.int (8 : Int32))])) _
    refine XS.icmpYes X1.here hx rfl (pc0 := 225) (pc' := 238) rfl (hb hby at_225) rfl (tlt (by decide)).1 (by decide) (by decide) ?_
    show Steps p.tables e below (T1.setTop (mkF m 238 #[.val (.int p0), .val (.ref b1), .val (.int (8 : Int32)), .val (.ref (ad 8)), .unset] [])) _
    refine XS.iconst X1.here hx rfl (hb hby at_238) ?_
    show Steps p.tables e below (T1.setTop (mkF m 239 #[.val (.int p0), .val (.ref b1), .val (.int (8 : Int32)), .val (.ref (ad 8)), .unset] [(.int (0 : Int32))])) _
    refine XS.istore X1.here hx rfl (hb hby at_239) rfl (l' := #[.val (.int p0), .val (.ref b1), .val (.int (8 : Int32)), .val (.ref (ad 8)), .val (.int (0 : Int32))]) rfl ?_
    show Steps p.tables e below (T1.setTop (mkF m 241 #[.val (.int p0), .val (.ref b1), .val (.int (8 : Int32)), .val (.ref (ad 8)), .val (.int (0 : Int32))] [])) _
    refine XS.aloadN X1.here hx rfl (hb hby at_241) rfl rfl ?_
    show Steps p.tables e below (T1.setTop (mkF m 242 #[.val (.int p0), .val (.ref b1), .val (.int (8 : Int32)), .val (.ref (ad 8)), .val (.int (0 : Int32))] [(.ref (ad 8))])) _
    refine st3.trans ?_
    show Steps p.tables e below (T3.setTop (mkF m 245 #[.val (.int p0), .val (.ref b1), .val (.int (8 : Int32)), .val (.ref (ad 8)), .val (.int (0 : Int32))] [(.int (0 : Int32))])) _
    refine XS.iload X3.here hx rfl (hb hby at_245) rfl ?_
    show Steps p.tables e below (T3.setTop (mkF m 247 #[.val (.int p0), .val (.ref b1), .val (.int (8 : Int32)), .val (.ref (ad 8)), .val (.int (0 : Int32))] [(.int (0 : Int32)), (.int (0 : Int32))])) _
    refine XS.icmpNo X3.here hx rfl (hb hby at_247) rfl (teq (by decide)).2 ?_
    show Steps p.tables e below (T3.setTop (mkF m 250 #[.val (.int p0), .val (.ref b1), .val (.int (8 : Int32)), .val (.ref (ad 8)), .val (.int (0 : Int32))] [])) _
    refine XS.iconst X3.here hx rfl (hb hby at_250) ?_
    show Steps p.tables e below (T3.setTop (mkF m 251 #[.val (.int p0), .val (.ref b1), .val (.int (8 : Int32)), .val (.ref (ad 8)), .val (.int (0 : Int32))] [(.int (1 : Int32))])) _
    refine XS.goto X3.here hx rfl (pc0 := 251) (pc' := 255) rfl (hb hby at_251) (by decide) (by decide) ?_
    show Steps p.tables e below (T3.setTop (mkF m 255 #[.val (.int p0), .val (.ref b1), .val (.int (8 : Int32)), .val (.ref (ad 8)), .val (.int (0 : Int32))] [(.int (1 : Int32))])) _
    exact retN X3 hx (t := .boolean) Bd.returns (by simp) (hb hby at_255) hr
  · exact ⟨rfl, N3⟩
set_option maxRecDepth 65536 in
set_option maxHeartbeats 40000000 in
theorem rm1_ad9 (l : Launch) (Z : State) (a0 : Array Value) (hw : ∀ d ∈ tables_1, d.before a0 Z = true) (ws : List Jvm.Cond) (ad : Nat → Addr) (NF : Facts Z ad) (h0 : Heap) (n0 : Nat) (Ol : Old Z n0 h0) :
    MetFree l (⟨"com/example/pivotlex/pivotlex/terminology/IssueCode", "isOfValueSet", "()Z"⟩ : MethodName) (head1 (Jvm.Cond.code (⟨"com/example/pivotlex/pivotlex/terminology/IssueCode", "isOfValueSet", "()Z"⟩ : MethodName) prog_80_method_4_code 1 (some .boolean) :: ws) ({ frames := 0, cells := 0, slots := 0, locals := 0 } : Room)) (fun a U => a = #[(.ref (ad 9))] ∧ Z.Warmed39 U.vm ∧ U.heap = h0) (fun _ _ _ _ _ => True) (fun _ U o U' => ∃ v L, o = .returned v ∧ QS (.int (0 : Int32)) h0 n0 v U'.heap L ∧ FrameEnd U o U' L ({ frames := 0, cells := 0, slots := 0, locals := 0 } : Room).cells ({ frames := 0, cells := 0, slots := 0, locals := 0 } : Room).slots) := by
  refine MetFree.of_bodySF (plainFor_of_name pn_1) hisR ?_
  intro p e s m args below meth c s₁ Bd hml0 hP hK
  obtain ⟨rfl, hZ, hh⟩ := hP
  have hx := Bd.exec
  have hby := Bd.bytes
  have hml : c.maxLocals = 1 := hml0
  have hown : s.vm.findClass "com/example/pivotlex/pivotlex/terminology/IssueCode" = some m.cls := findClass_of_methodNamed Bd.named
  have X0 : Stand p l e ({ frames := 0, cells := 0, slots := 0, locals := 0 } : Room) s m #[(.ref (ad 9))] below meth c s₁ [] 0 0 := Stand.of_body Bd
  have e0 : s₁.heap = h0 := by rw [← hh, Bd.state]; rfl
  have N0 := Fr.nil n0
  have pre0 : ∀ t, Steps p.tables e below (s₁.setTop (mkF m 0 #[.val (.ref (ad 9))] [])) t → Steps p.tables e below (s₁.setTop (entryFrame m #[(.ref (ad 9))] 1)) t := fun t k => castTop (ef_1_R m (ad 9)) k
  obtain ⟨T1, X1, e1, st1⟩ := getS2 X0 hx hZ hown (host := "") (Or.inl (hw _ (List.mem_of_getElem? (i := 70) rfl))) Via.refl e0 ((ft_42 NF).ext Ol.2) (g := (mkF m 1 #[.val (.ref (ad 9))] [(.ref (ad 9))])) rfl (hb hby d1_1)
  obtain ⟨T2, X2, e2, st2⟩ := getS2 X1 hx hZ hown (host := "") (Or.inl (hw _ (List.mem_of_getElem? (i := 71) rfl))) Via.refl e1 ((ft_43 NF).ext Ol.2) (g := (mkF m 8 #[.val (.ref (ad 9))] [(.ref (ad 9))])) rfl (hb hby d1_8)
  obtain ⟨T3, X3, e3, st3⟩ := getS2 X2 hx hZ hown (host := "") (Or.inl (hw _ (List.mem_of_getElem? (i := 72) rfl))) Via.refl e2 ((ft_44 NF).ext Ol.2) (g := (mkF m 15 #[.val (.ref (ad 9))] [(.ref (ad 9))])) rfl (hb hby d1_15)
  obtain ⟨T4, X4, e4, st4⟩ := getS2 X3 hx hZ hown (host := "") (Or.inl (hw _ (List.mem_of_getElem? (i := 73) rfl))) Via.refl e3 ((ft_45 NF).ext Ol.2) (g := (mkF m 22 #[.val (.ref (ad 9))] [(.ref (ad 9))])) rfl (hb hby d1_22)
  obtain ⟨fs, hr, hrun, hended, hW, hsame⟩ := X4.leave (v := some (.int (0 : Int32))) (fun h => by rw [Bd.returns] at h; cases h)
  refine ⟨_, _, pre0 _ ?_, hrun, hended, _, _, rfl, ?_, ⟨_, rfl⟩, hW, hsame.mono (by decide) (by decide)⟩
  · show Steps p.tables e below (s₁.setTop (mkF m 0 #[.val (.ref (ad 9))] [])) _
    refine XS.aloadN X0.here hx rfl (hb hby d1_0) rfl rfl ?_
    show Steps p.tables e below (s₁.setTop (mkF m 1 #[.val (.ref (ad 9))] [(.ref (ad 9))])) _
    refine st1 _ ?_
    show Steps p.tables e below (T1.setTop (mkF m 4 #[.val (.ref (ad 9))] [(.ref (ad 12)), (.ref (ad 9))])) _
    refine acmp X1 hx rfl (x := (.ref (ad 9))) (y := (.ref (ad 12))) rfl rfl (pc0 := 4) (pc' := 7) (same := false) rfl (hb hby d1_4) rfl (decide_eq_false (fun h => (Fld.ne (ft_83 NF) (ft_61 NF) (by decide)) (Value.ref.inj h))) (by decide) (by decide) ?_
    show Steps p.tables e below (T1.setTop (mkF m 7 #[.val (.ref (ad 9))] [])) _
    refine XS.aloadN X1.here hx rfl (hb hby d1_7) rfl rfl ?_
    show Steps p.tables e below (T1.setTop (mkF m 8 #[.val (.ref (ad 9))] [(.ref (ad 9))])) _
    refine st2 _ ?_
    show Steps p.tables e below (T2.setTop (mkF m 11 #[.val (.ref (ad 9))] [(.ref (ad 13)), (.ref (ad 9))])) _
    refine acmp X2 hx rfl (x := (.ref (ad 9))) (y := (.ref (ad 13))) rfl rfl (pc0 := 11) (pc' := 14) (same := false) rfl (hb hby d1_11) rfl (decide_eq_false (fun h => (Fld.ne (ft_83 NF) (ft_62 NF) (by decide)) (Value.ref.inj h))) (by decide) (by decide) ?_
    show Steps p.tables e below (T2.setTop (mkF m 14 #[.val (.ref (ad 9))] [])) _
    refine XS.aloadN X2.here hx rfl (hb hby d1_14) rfl rfl ?_
    show Steps p.tables e below (T2.setTop (mkF m 15 #[.val (.ref (ad 9))] [(.ref (ad 9))])) _
    refine st3 _ ?_
    show Steps p.tables e below (T3.setTop (mkF m 18 #[.val (.ref (ad 9))] [(.ref (ad 14)), (.ref (ad 9))])) _
    refine acmp X3 hx rfl (x := (.ref (ad 9))) (y := (.ref (ad 14))) rfl rfl (pc0 := 18) (pc' := 21) (same := false) rfl (hb hby d1_18) rfl (decide_eq_false (fun h => (Fld.ne (ft_83 NF) (ft_63 NF) (by decide)) (Value.ref.inj h))) (by decide) (by decide) ?_
    show Steps p.tables e below (T3.setTop (mkF m 21 #[.val (.ref (ad 9))] [])) _
    refine XS.aloadN X3.here hx rfl (hb hby d1_21) rfl rfl ?_
    show Steps p.tables e below (T3.setTop (mkF m 22 #[.val (.ref (ad 9))] [(.ref (ad 9))])) _
    refine st4 _ ?_
    show Steps p.tables e below (T4.setTop (mkF m 25 #[.val (.ref (ad 9))] [(.ref (ad 15)), (.ref (ad 9))])) _
    refine acmp X4 hx rfl (x := (.ref (ad 9))) (y := (.ref (ad 15))) rfl rfl (pc0 := 25) (pc' := 32) (same := false) rfl (hb hby d1_25) rfl (decide_eq_false (fun h => (Fld.ne (ft_83 NF) (ft_64 NF) (by decide)) (Value.ref.inj h))) (by decide) (by decide) ?_
    show Steps p.tables e below (T4.setTop (mkF m 32 #[.val (.ref (ad 9))] [])) _
    refine XS.iconst X4.here hx rfl (hb hby d1_32) ?_
    show Steps p.tables e below (T4.setTop (mkF m 33 #[.val (.ref (ad 9))] [(.int (0 : Int32))])) _
    exact retN X4 hx (t := .boolean) Bd.returns (by simp) (hb hby d1_33) hr
  · exact ⟨rfl, N0, e4⟩
set_option maxRecDepth 65536 in
set_option maxHeartbeats 40000000 in
theorem rm0_9 (l : Launch) (Z : State) (a0 : Array Value) (hw : ∀ d ∈ tables_1, d.before a0 Z = true) (ws : List Jvm.Cond) (ad : Nat → Addr) (NF : Facts Z ad) (h0 : Heap) (n0 : Nat) (Ol : Old Z n0 h0) (p0 : Int32) (hi : (p0 &&& (2147483647 : Int32)) % (30 : Int32) = (9 : Int32)) :
    MetFree l x (head1 (Jvm.Cond.code x code maxLocals ret :: ws) room_1) (fun a U => a = #[(.int p0)] ∧ Z.Warmed39 U.vm ∧ U.heap = h0) (fun _ _ _ _ _ => True) (fun _ U o U' => ∃ v L, o = .returned v ∧ QL n0 v U'.heap L ∧ FrameEnd U o U' L room_1.cells room_1.slots) := by
  refine MetFree.of_bodySF (plainFor_of_name pn_0) hisR ?_
  intro p e s m args below meth c s₁ Bd hml0 hP hK
  obtain ⟨rfl, hZ, hh⟩ := hP
  have hx := Bd.exec
  have hby := Bd.bytes
  have hml : c.maxLocals = 5 := hml0
  have hown : s.vm.findClass "com/example/pivotlex/pivotlex/terminology/IssueCodeIsOfValueSetPinLaw" = some m.cls := findClass_of_methodNamed Bd.named
  have X0 : Stand p l e room_1 s m #[(.int p0)] below meth c s₁ [] 0 0 := Stand.of_body Bd
  have e0 : s₁.heap = h0 := by rw [← hh, Bd.state]; rfl
  have N0 := Fr.nil n0
  have pre0 : ∀ t, Steps p.tables e below (s₁.setTop (mkF m 0 #[.val (.int p0), .unset, .unset, .unset, .unset] [])) t → Steps p.tables e below (s₁.setTop (entryFrame m #[(.int p0)] maxLocals)) t := fun t k => castTop (ef_0_I m (p0)) k
  obtain ⟨T1, h1, Lc1, b1, k1, X1, e1, Ol1, K1, N1, V1, st1⟩ := fill hw ad NF h0 n0 Ol p0 X0 hx hZ hby hml hown e0
  obtain ⟨cl2, Ar2, q2, S2, M2, H2, G2⟩ := id V1
  have hin2 : ¬ ((9 : Int32) < 0 ∨ cl2.slots.size ≤ ((9 : Int32)).toNatClampNeg) := inb_of S2 ⟨by decide, by decide⟩
  have hat2 : cl2.slots[((9 : Int32)).toNatClampNeg]? = some (.ref (ad 9)) := Has.at H2 hin2 rfl
  obtain ⟨cq3, kq3, qa3, qb3, qc3⟩ := isOf hZ e1 ((ft_9 NF).ext Ol1.2)
  obtain ⟨_, _, ⟨T3, L3, k3, n3⟩, -, X3, ⟨Lc3, hQ3, l3, y3, z3⟩, st3⟩ := X1.virtualBack hx (y := (⟨"com/example/pivotlex/pivotlex/terminology/IssueCode", "isOfValueSet", "()Z"⟩ : MethodName)) (z := (⟨"com/example/pivotlex/pivotlex/terminology/IssueCode", "isOfValueSet", "()Z"⟩ : MethodName)) hown (mvT hZ (hw _ (List.mem_of_getElem? (i := 65) rfl))) (mvT hZ (hw _ (List.mem_of_getElem? (i := 66) rfl))) (notFace_of_selects (args := #[]) (mvT hZ (hw _ (List.mem_of_getElem? (i := 68) rfl)))) (mvT hZ (hw _ (List.mem_of_getElem? (i := 68) rfl))) (mvT hZ (hw _ (List.mem_of_getElem? (i := 67) rfl))) (by decide) (backOf (W := 0) (rm1_ad9 l Z a0 hw [] ad NF h1 n0 Ol1) hZ (hw _ (List.mem_of_getElem? (i := 69) rfl)) (hw _ (List.mem_of_getElem? (i := 3) rfl)) (by decide) (by decide)) qa3 qc3 (g := (mkF m 242 #[.val (.int p0), .val (.ref b1), .val (.int (9 : Int32)), .val (.ref (ad 9)), .val (.int (0 : Int32))] [(.ref (ad 9))])) rfl (by rw [hml]; rfl) (Steps.refl _) (argsL := []) (rest := []) (lenOf pd_1 rfl) rfl (by show 2 * 0 + _ ≤ _; exact Nat.le_of_eq rfl) (hb hby at_242) (fun _ _ => ⟨rfl, e1, (by decide : 1 + 0 ≤ _), (by decide : 30 + 0 ≤ _)⟩)
  dsimp only [Pt.U, Pt.locs, Pt.cells, Pt.slots] at X3 l3 y3 z3 st3 hQ3
  subst l3 y3 z3
  obtain ⟨rfl, Nq3, e3⟩ := hQ3
  have N3 := Fr.app N1 Nq3
  obtain ⟨fs, hr, hrun, hended, hW, hsame⟩ := X3.leave (v := some (.int (1 : Int32))) (fun h => by rw [Bd.returns] at h; cases h)
  refine ⟨_, _, pre0 _ ?_, hrun, hended, _, _, rfl, ?_, ⟨_, rfl⟩, hW, hsame.mono (by decide) (by decide)⟩
  · show Steps p.tables e below (s₁.setTop (mkF m 0 #[.val (.int p0), .unset, .unset, .unset, .unset] [])) _
    refine st1 _ ?_
    show Steps p.tables e below (T1.setTop (mkF m 210 #[.val (.int p0), .val (.ref b1), .unset, .unset, .unset] [])) _
    refine XS.iloadN X1.here hx rfl (hb hby at_210) rfl ?_
    show Steps p.tables e below (T1.setTop (mkF m 211 #[.val (.int p0), .val (.ref b1), .unset, .unset, .unset] [(.int p0)])) _
    refine X1.ldcInt hx hown (mvT hZ (hw _ (List.mem_of_getElem? (i := 64) rfl))) (g := (mkF m 211 #[.val (.int p0), .val (.ref b1), .unset, .unset, .unset] [(.int p0)])) rfl (hb hby at_211) _ ?_
    show Steps p.tables e below (T1.setTop (mkF m 213 #[.val (.int p0), .val (.ref b1), .unset, .unset, .unset] [(.int (2147483647 : Int32)), (.int p0)])) _
    refine XS.iand X1.here hx rfl (hb hby at_213) rfl ?_
    show Steps p.tables e below (T1.setTop (mkF m 214 #[.val (.int p0), .val (.ref b1), .unset, .unset, .unset] [(.int (p0 &&& (2147483647 : Int32)))])) _
    refine XS.bipush X1.here hx rfl (hb hby at_214) ?_
    show Steps p.tables e below (T1.setTop (mkF m 216 #[.val (.int p0), .val (.ref b1), .unset, .unset, .unset] [(.int (30 : Int32)), (.int (p0 &&& (2147483647 : Int32)))])) _
    refine iremM X1 hx rfl (hb hby at_216) rfl (by decide) ?_
    show Steps p.tables e below (T1.setTop (mkF m 217 #[.val (.int p0), .val (.ref b1), .unset, .unset, .unset] [(.int ((p0 &&& (2147483647 : Int32)) % (30 : Int32)))])) _
    rw [hi]
    show Steps p.tables e below (T1.setTop (mkF m 217 #[.val (.int p0), .val (.ref b1), .unset, .unset, .unset] [(.int (9 : Int32))])) _
    refine XS.istoreN X1.here hx rfl (hb hby at_217) rfl (l' := #[.val (.int p0), .val (.ref b1), .val (.int (9 : Int32)), .unset, .unset]) rfl ?_
    show Steps p.tables e below (T1.setTop (mkF m 218 #[.val (.int p0), .val (.ref b1), .val (.int (9 : Int32)), .unset, .unset] [])) _
    refine XS.aloadN X1.here hx rfl (hb hby at_218) rfl rfl ?_
    show Steps p.tables e below (T1.setTop (mkF m 219 #[.val (.int p0), .val (.ref b1), .val (.int (9 : Int32)), .unset, .unset] [(.ref b1)])) _
    refine XS.iloadN X1.here hx rfl (hb hby at_219) rfl ?_
    show Steps p.tables e below (T1.setTop (mkF m 220 #[.val (.int p0), .val (.ref b1), .val (.int (9 : Int32)), .unset, .unset] [(.int (9 : Int32)), (.ref b1)])) _
    refine X1.aaload hx (j := (9 : Int32)) (v := (.ref (ad 9))) (by rw [e1]; exact Ar2.1) (State.isArrayOf_alike hZ.alike Ar2.2.1) rfl Ar2.2.2 hin2 hat2 (g := (mkF m 220 #[.val (.int p0), .val (.ref b1), .val (.int (9 : Int32)), .unset, .unset] [(.int (9 : Int32)), (.ref b1)])) rfl rfl (hb hby at_220) _ ?_
    show Steps p.tables e below (T1.setTop (mkF m 221 #[.val (.int p0), .val (.ref b1), .val (.int (9 : Int32)), .unset, .unset] [(.ref (ad 9))])) _
    refine XS.astoreN X1.here hx rfl (hb hby at_221) rfl rfl (l' := #[.val (.int p0), .val (.ref b1), .val (.int (9 : Int32)), .val (.ref (ad 9)), .unset]) rfl ?_
    show Steps p.tables e below (T1.setTop (mkF m 222 #[.val (.int p0), .val (.ref b1), .val (.int (9 : Int32)), .val (.ref (ad 9)), .unset] [])) _
    refine XS.iloadN X1.here hx rfl (hb hby at_222) rfl ?_
    show Steps p.tables e below (T1.setTop (mkF m 223 #[.val (.int p0), .val (.ref b1), .val (.int (9 : Int32)), .val (.ref (ad 9)), .unset] [(.int (9 : Int32))])) _
    refine XS.bipush X1.here hx rfl (hb hby at_223) ?_
    show Steps p.tables e below (T1.setTop (mkF m 225 #[.val (.int p0), .val (.ref b1), .val (.int (9 : Int32)), .val (.ref (ad 9)), .unset] [(.int (12 : Int32)), (.int (9 : Int32))])) _
    refine XS.icmpYes X1.here hx rfl (pc0 := 225) (pc' := 238) rfl (hb hby at_225) rfl (tlt (by decide)).1 (by decide) (by decide) ?_
    show Steps p.tables e below (T1.setTop (mkF m 238 #[.val (.int p0), .val (.ref b1), .val (.int (9 : Int32)), .val (.ref (ad 9)), .unset] [])) _
    refine XS.iconst X1.here hx rfl (hb hby at_238) ?_
    show Steps p.tables e below (T1.setTop (mkF m 239 #[.val (.int p0), .val (.ref b1), .val (.int (9 : Int32)), .val (.ref (ad 9)), .unset] [(.int (0 : Int32))])) _
    refine XS.istore X1.here hx rfl (hb hby at_239) rfl (l' := #[.val (.int p0), .val (.ref b1), .val (.int (9 : Int32)), .val (.ref (ad 9)), .val (.int (0 : Int32))]) rfl ?_
    show Steps p.tables e below (T1.setTop (mkF m 241 #[.val (.int p0), .val (.ref b1), .val (.int (9 : Int32)), .val (.ref (ad 9)), .val (.int (0 : Int32))] [])) _
    refine XS.aloadN X1.here hx rfl (hb hby at_241) rfl rfl ?_
    show Steps p.tables e below (T1.setTop (mkF m 242 #[.val (.int p0), .val (.ref b1), .val (.int (9 : Int32)), .val (.ref (ad 9)), .val (.int (0 : Int32))] [(.ref (ad 9))])) _
    refine st3.trans ?_
    show Steps p.tables e below (T3.setTop (mkF m 245 #[.val (.int p0), .val (.ref b1), .val (.int (9 : Int32)), .val (.ref (ad 9)), .val (.int (0 : Int32))] [(.int (0 : Int32))])) _
    refine XS.iload X3.here hx rfl (hb hby at_245) rfl ?_
    show Steps p.tables e below (T3.setTop (mkF m 247 #[.val (.int p0), .val (.ref b1), .val (.int (9 : Int32)), .val (.ref (ad 9)), .val (.int (0 : Int32))] [(.int (0 : Int32)), (.int (0 : Int32))])) _
    refine XS.icmpNo X3.here hx rfl (hb hby at_247) rfl (teq (by decide)).2 ?_
    show Steps p.tables e below (T3.setTop (mkF m 250 #[.val (.int p0), .val (.ref b1), .val (.int (9 : Int32)), .val (.ref (ad 9)), .val (.int (0 : Int32))] [])) _
    refine XS.iconst X3.here hx rfl (hb hby at_250) ?_
    show Steps p.tables e below (T3.setTop (mkF m 251 #[.val (.int p0), .val (.ref b1), .val (.int (9 : Int32)), .val (.ref (ad 9)), .val (.int (0 : Int32))] [(.int (1 : Int32))])) _
    refine XS.goto X3.here hx rfl (pc0 := 251) (pc' := 255) rfl (hb hby at_251) (by decide) (by decide) ?_
    show Steps p.tables e below (T3.setTop (mkF m 255 #[.val (.int p0), .val (.ref b1), .val (.int (9 : Int32)), .val (.ref (ad 9)), .val (.int (0 : Int32))] [(.int (1 : Int32))])) _
    exact retN X3 hx (t := .boolean) Bd.returns (by simp) (hb hby at_255) hr
  · exact ⟨rfl, N3⟩
set_option maxRecDepth 65536 in
set_option maxHeartbeats 40000000 in
theorem rm1_ad10 (l : Launch) (Z : State) (a0 : Array Value) (hw : ∀ d ∈ tables_1, d.before a0 Z = true) (ws : List Jvm.Cond) (ad : Nat → Addr) (NF : Facts Z ad) (h0 : Heap) (n0 : Nat) (Ol : Old Z n0 h0) :
    MetFree l (⟨"com/example/pivotlex/pivotlex/terminology/IssueCode", "isOfValueSet", "()Z"⟩ : MethodName) (head1 (Jvm.Cond.code (⟨"com/example/pivotlex/pivotlex/terminology/IssueCode", "isOfValueSet", "()Z"⟩ : MethodName) prog_80_method_4_code 1 (some .boolean) :: ws) ({ frames := 0, cells := 0, slots := 0, locals := 0 } : Room)) (fun a U => a = #[(.ref (ad 10))] ∧ Z.Warmed39 U.vm ∧ U.heap = h0) (fun _ _ _ _ _ => True) (fun _ U o U' => ∃ v L, o = .returned v ∧ QS (.int (0 : Int32)) h0 n0 v U'.heap L ∧ FrameEnd U o U' L ({ frames := 0, cells := 0, slots := 0, locals := 0 } : Room).cells ({ frames := 0, cells := 0, slots := 0, locals := 0 } : Room).slots) := by
  refine MetFree.of_bodySF (plainFor_of_name pn_1) hisR ?_
  intro p e s m args below meth c s₁ Bd hml0 hP hK
  obtain ⟨rfl, hZ, hh⟩ := hP
  have hx := Bd.exec
  have hby := Bd.bytes
  have hml : c.maxLocals = 1 := hml0
  have hown : s.vm.findClass "com/example/pivotlex/pivotlex/terminology/IssueCode" = some m.cls := findClass_of_methodNamed Bd.named
  have X0 : Stand p l e ({ frames := 0, cells := 0, slots := 0, locals := 0 } : Room) s m #[(.ref (ad 10))] below meth c s₁ [] 0 0 := Stand.of_body Bd
  have e0 : s₁.heap = h0 := by rw [← hh, Bd.state]; rfl
  have N0 := Fr.nil n0
  have pre0 : ∀ t, Steps p.tables e below (s₁.setTop (mkF m 0 #[.val (.ref (ad 10))] [])) t → Steps p.tables e below (s₁.setTop (entryFrame m #[(.ref (ad 10))] 1)) t := fun t k => castTop (ef_1_R m (ad 10)) k
  obtain ⟨T1, X1, e1, st1⟩ := getS2 X0 hx hZ hown (host := "") (Or.inl (hw _ (List.mem_of_getElem? (i := 70) rfl))) Via.refl e0 ((ft_42 NF).ext Ol.2) (g := (mkF m 1 #[.val (.ref (ad 10))] [(.ref (ad 10))])) rfl (hb hby d1_1)
  obtain ⟨T2, X2, e2, st2⟩ := getS2 X1 hx hZ hown (host := "") (Or.inl (hw _ (List.mem_of_getElem? (i := 71) rfl))) Via.refl e1 ((ft_43 NF).ext Ol.2) (g := (mkF m 8 #[.val (.ref (ad 10))] [(.ref (ad 10))])) rfl (hb hby d1_8)
  obtain ⟨T3, X3, e3, st3⟩ := getS2 X2 hx hZ hown (host := "") (Or.inl (hw _ (List.mem_of_getElem? (i := 72) rfl))) Via.refl e2 ((ft_44 NF).ext Ol.2) (g := (mkF m 15 #[.val (.ref (ad 10))] [(.ref (ad 10))])) rfl (hb hby d1_15)
  obtain ⟨T4, X4, e4, st4⟩ := getS2 X3 hx hZ hown (host := "") (Or.inl (hw _ (List.mem_of_getElem? (i := 73) rfl))) Via.refl e3 ((ft_45 NF).ext Ol.2) (g := (mkF m 22 #[.val (.ref (ad 10))] [(.ref (ad 10))])) rfl (hb hby d1_22)
  obtain ⟨fs, hr, hrun, hended, hW, hsame⟩ := X4.leave (v := some (.int (0 : Int32))) (fun h => by rw [Bd.returns] at h; cases h)
  refine ⟨_, _, pre0 _ ?_, hrun, hended, _, _, rfl, ?_, ⟨_, rfl⟩, hW, hsame.mono (by decide) (by decide)⟩
  · show Steps p.tables e below (s₁.setTop (mkF m 0 #[.val (.ref (ad 10))] [])) _
    refine XS.aloadN X0.here hx rfl (hb hby d1_0) rfl rfl ?_
    show Steps p.tables e below (s₁.setTop (mkF m 1 #[.val (.ref (ad 10))] [(.ref (ad 10))])) _
    refine st1 _ ?_
    show Steps p.tables e below (T1.setTop (mkF m 4 #[.val (.ref (ad 10))] [(.ref (ad 12)), (.ref (ad 10))])) _
    refine acmp X1 hx rfl (x := (.ref (ad 10))) (y := (.ref (ad 12))) rfl rfl (pc0 := 4) (pc' := 7) (same := false) rfl (hb hby d1_4) rfl (decide_eq_false (fun h => (Fld.ne (ft_71 NF) (ft_61 NF) (by decide)) (Value.ref.inj h))) (by decide) (by decide) ?_
    show Steps p.tables e below (T1.setTop (mkF m 7 #[.val (.ref (ad 10))] [])) _
    refine XS.aloadN X1.here hx rfl (hb hby d1_7) rfl rfl ?_
    show Steps p.tables e below (T1.setTop (mkF m 8 #[.val (.ref (ad 10))] [(.ref (ad 10))])) _
    refine st2 _ ?_
    show Steps p.tables e below (T2.setTop (mkF m 11 #[.val (.ref (ad 10))] [(.ref (ad 13)), (.ref (ad 10))])) _
    refine acmp X2 hx rfl (x := (.ref (ad 10))) (y := (.ref (ad 13))) rfl rfl (pc0 := 11) (pc' := 14) (same := false) rfl (hb hby d1_11) rfl (decide_eq_false (fun h => (Fld.ne (ft_71 NF) (ft_62 NF) (by decide)) (Value.ref.inj h))) (by decide) (by decide) ?_
    show Steps p.tables e below (T2.setTop (mkF m 14 #[.val (.ref (ad 10))] [])) _
    refine XS.aloadN X2.here hx rfl (hb hby d1_14) rfl rfl ?_
    show Steps p.tables e below (T2.setTop (mkF m 15 #[.val (.ref (ad 10))] [(.ref (ad 10))])) _
    refine st3 _ ?_
    show Steps p.tables e below (T3.setTop (mkF m 18 #[.val (.ref (ad 10))] [(.ref (ad 14)), (.ref (ad 10))])) _
    refine acmp X3 hx rfl (x := (.ref (ad 10))) (y := (.ref (ad 14))) rfl rfl (pc0 := 18) (pc' := 21) (same := false) rfl (hb hby d1_18) rfl (decide_eq_false (fun h => (Fld.ne (ft_71 NF) (ft_63 NF) (by decide)) (Value.ref.inj h))) (by decide) (by decide) ?_
    show Steps p.tables e below (T3.setTop (mkF m 21 #[.val (.ref (ad 10))] [])) _
    refine XS.aloadN X3.here hx rfl (hb hby d1_21) rfl rfl ?_
    show Steps p.tables e below (T3.setTop (mkF m 22 #[.val (.ref (ad 10))] [(.ref (ad 10))])) _
    refine st4 _ ?_
    show Steps p.tables e below (T4.setTop (mkF m 25 #[.val (.ref (ad 10))] [(.ref (ad 15)), (.ref (ad 10))])) _
    refine acmp X4 hx rfl (x := (.ref (ad 10))) (y := (.ref (ad 15))) rfl rfl (pc0 := 25) (pc' := 32) (same := false) rfl (hb hby d1_25) rfl (decide_eq_false (fun h => (Fld.ne (ft_71 NF) (ft_64 NF) (by decide)) (Value.ref.inj h))) (by decide) (by decide) ?_
    show Steps p.tables e below (T4.setTop (mkF m 32 #[.val (.ref (ad 10))] [])) _
    refine XS.iconst X4.here hx rfl (hb hby d1_32) ?_
    show Steps p.tables e below (T4.setTop (mkF m 33 #[.val (.ref (ad 10))] [(.int (0 : Int32))])) _
    exact retN X4 hx (t := .boolean) Bd.returns (by simp) (hb hby d1_33) hr
  · exact ⟨rfl, N0, e4⟩
set_option maxRecDepth 65536 in
set_option maxHeartbeats 40000000 in
theorem rm0_10 (l : Launch) (Z : State) (a0 : Array Value) (hw : ∀ d ∈ tables_1, d.before a0 Z = true) (ws : List Jvm.Cond) (ad : Nat → Addr) (NF : Facts Z ad) (h0 : Heap) (n0 : Nat) (Ol : Old Z n0 h0) (p0 : Int32) (hi : (p0 &&& (2147483647 : Int32)) % (30 : Int32) = (10 : Int32)) :
    MetFree l x (head1 (Jvm.Cond.code x code maxLocals ret :: ws) room_1) (fun a U => a = #[(.int p0)] ∧ Z.Warmed39 U.vm ∧ U.heap = h0) (fun _ _ _ _ _ => True) (fun _ U o U' => ∃ v L, o = .returned v ∧ QL n0 v U'.heap L ∧ FrameEnd U o U' L room_1.cells room_1.slots) := by
  refine MetFree.of_bodySF (plainFor_of_name pn_0) hisR ?_
  intro p e s m args below meth c s₁ Bd hml0 hP hK
  obtain ⟨rfl, hZ, hh⟩ := hP
  have hx := Bd.exec
  have hby := Bd.bytes
  have hml : c.maxLocals = 5 := hml0
  have hown : s.vm.findClass "com/example/pivotlex/pivotlex/terminology/IssueCodeIsOfValueSetPinLaw" = some m.cls := findClass_of_methodNamed Bd.named
  have X0 : Stand p l e room_1 s m #[(.int p0)] below meth c s₁ [] 0 0 := Stand.of_body Bd
  have e0 : s₁.heap = h0 := by rw [← hh, Bd.state]; rfl
  have N0 := Fr.nil n0
  have pre0 : ∀ t, Steps p.tables e below (s₁.setTop (mkF m 0 #[.val (.int p0), .unset, .unset, .unset, .unset] [])) t → Steps p.tables e below (s₁.setTop (entryFrame m #[(.int p0)] maxLocals)) t := fun t k => castTop (ef_0_I m (p0)) k
  obtain ⟨T1, h1, Lc1, b1, k1, X1, e1, Ol1, K1, N1, V1, st1⟩ := fill hw ad NF h0 n0 Ol p0 X0 hx hZ hby hml hown e0
  obtain ⟨cl2, Ar2, q2, S2, M2, H2, G2⟩ := id V1
  have hin2 : ¬ ((10 : Int32) < 0 ∨ cl2.slots.size ≤ ((10 : Int32)).toNatClampNeg) := inb_of S2 ⟨by decide, by decide⟩
  have hat2 : cl2.slots[((10 : Int32)).toNatClampNeg]? = some (.ref (ad 10)) := Has.at H2 hin2 rfl
  obtain ⟨cq3, kq3, qa3, qb3, qc3⟩ := isOf hZ e1 ((ft_10 NF).ext Ol1.2)
  obtain ⟨_, _, ⟨T3, L3, k3, n3⟩, -, X3, ⟨Lc3, hQ3, l3, y3, z3⟩, st3⟩ := X1.virtualBack hx (y := (⟨"com/example/pivotlex/pivotlex/terminology/IssueCode", "isOfValueSet", "()Z"⟩ : MethodName)) (z := (⟨"com/example/pivotlex/pivotlex/terminology/IssueCode", "isOfValueSet", "()Z"⟩ : MethodName)) hown (mvT hZ (hw _ (List.mem_of_getElem? (i := 65) rfl))) (mvT hZ (hw _ (List.mem_of_getElem? (i := 66) rfl))) (notFace_of_selects (args := #[]) (mvT hZ (hw _ (List.mem_of_getElem? (i := 68) rfl)))) (mvT hZ (hw _ (List.mem_of_getElem? (i := 68) rfl))) (mvT hZ (hw _ (List.mem_of_getElem? (i := 67) rfl))) (by decide) (backOf (W := 0) (rm1_ad10 l Z a0 hw [] ad NF h1 n0 Ol1) hZ (hw _ (List.mem_of_getElem? (i := 69) rfl)) (hw _ (List.mem_of_getElem? (i := 3) rfl)) (by decide) (by decide)) qa3 qc3 (g := (mkF m 242 #[.val (.int p0), .val (.ref b1), .val (.int (10 : Int32)), .val (.ref (ad 10)), .val (.int (0 : Int32))] [(.ref (ad 10))])) rfl (by rw [hml]; rfl) (Steps.refl _) (argsL := []) (rest := []) (lenOf pd_1 rfl) rfl (by show 2 * 0 + _ ≤ _; exact Nat.le_of_eq rfl) (hb hby at_242) (fun _ _ => ⟨rfl, e1, (by decide : 1 + 0 ≤ _), (by decide : 30 + 0 ≤ _)⟩)
  dsimp only [Pt.U, Pt.locs, Pt.cells, Pt.slots] at X3 l3 y3 z3 st3 hQ3
  subst l3 y3 z3
  obtain ⟨rfl, Nq3, e3⟩ := hQ3
  have N3 := Fr.app N1 Nq3
  obtain ⟨fs, hr, hrun, hended, hW, hsame⟩ := X3.leave (v := some (.int (1 : Int32))) (fun h => by rw [Bd.returns] at h; cases h)
  refine ⟨_, _, pre0 _ ?_, hrun, hended, _, _, rfl, ?_, ⟨_, rfl⟩, hW, hsame.mono (by decide) (by decide)⟩
  · show Steps p.tables e below (s₁.setTop (mkF m 0 #[.val (.int p0), .unset, .unset, .unset, .unset] [])) _
    refine st1 _ ?_
    show Steps p.tables e below (T1.setTop (mkF m 210 #[.val (.int p0), .val (.ref b1), .unset, .unset, .unset] [])) _
    refine XS.iloadN X1.here hx rfl (hb hby at_210) rfl ?_
    show Steps p.tables e below (T1.setTop (mkF m 211 #[.val (.int p0), .val (.ref b1), .unset, .unset, .unset] [(.int p0)])) _
    refine X1.ldcInt hx hown (mvT hZ (hw _ (List.mem_of_getElem? (i := 64) rfl))) (g := (mkF m 211 #[.val (.int p0), .val (.ref b1), .unset, .unset, .unset] [(.int p0)])) rfl (hb hby at_211) _ ?_
    show Steps p.tables e below (T1.setTop (mkF m 213 #[.val (.int p0), .val (.ref b1), .unset, .unset, .unset] [(.int (2147483647 : Int32)), (.int p0)])) _
    refine XS.iand X1.here hx rfl (hb hby at_213) rfl ?_
    show Steps p.tables e below (T1.setTop (mkF m 214 #[.val (.int p0), .val (.ref b1), .unset, .unset, .unset] [(.int (p0 &&& (2147483647 : Int32)))])) _
    refine XS.bipush X1.here hx rfl (hb hby at_214) ?_
    show Steps p.tables e below (T1.setTop (mkF m 216 #[.val (.int p0), .val (.ref b1), .unset, .unset, .unset] [(.int (30 : Int32)), (.int (p0 &&& (2147483647 : Int32)))])) _
    refine iremM X1 hx rfl (hb hby at_216) rfl (by decide) ?_
    show Steps p.tables e below (T1.setTop (mkF m 217 #[.val (.int p0), .val (.ref b1), .unset, .unset, .unset] [(.int ((p0 &&& (2147483647 : Int32)) % (30 : Int32)))])) _
    rw [hi]
    show Steps p.tables e below (T1.setTop (mkF m 217 #[.val (.int p0), .val (.ref b1), .unset, .unset, .unset] [(.int (10 : Int32))])) _
    refine XS.istoreN X1.here hx rfl (hb hby at_217) rfl (l' := #[.val (.int p0), .val (.ref b1), .val (.int (10 : Int32)), .unset, .unset]) rfl ?_
    show Steps p.tables e below (T1.setTop (mkF m 218 #[.val (.int p0), .val (.ref b1), .val (.int (10 : Int32)), .unset, .unset] [])) _
    refine XS.aloadN X1.here hx rfl (hb hby at_218) rfl rfl ?_
    show Steps p.tables e below (T1.setTop (mkF m 219 #[.val (.int p0), .val (.ref b1), .val (.int (10 : Int32)), .unset, .unset] [(.ref b1)])) _
    refine XS.iloadN X1.here hx rfl (hb hby at_219) rfl ?_
    show Steps p.tables e below (T1.setTop (mkF m 220 #[.val (.int p0), .val (.ref b1), .val (.int (10 : Int32)), .unset, .unset] [(.int (10 : Int32)), (.ref b1)])) _
    refine X1.aaload hx (j := (10 : Int32)) (v := (.ref (ad 10))) (by rw [e1]; exact Ar2.1) (State.isArrayOf_alike hZ.alike Ar2.2.1) rfl Ar2.2.2 hin2 hat2 (g := (mkF m 220 #[.val (.int p0), .val (.ref b1), .val (.int (10 : Int32)), .unset, .unset] [(.int (10 : Int32)), (.ref b1)])) rfl rfl (hb hby at_220) _ ?_
    show Steps p.tables e below (T1.setTop (mkF m 221 #[.val (.int p0), .val (.ref b1), .val (.int (10 : Int32)), .unset, .unset] [(.ref (ad 10))])) _
    refine XS.astoreN X1.here hx rfl (hb hby at_221) rfl rfl (l' := #[.val (.int p0), .val (.ref b1), .val (.int (10 : Int32)), .val (.ref (ad 10)), .unset]) rfl ?_
    show Steps p.tables e below (T1.setTop (mkF m 222 #[.val (.int p0), .val (.ref b1), .val (.int (10 : Int32)), .val (.ref (ad 10)), .unset] [])) _
    refine XS.iloadN X1.here hx rfl (hb hby at_222) rfl ?_
    show Steps p.tables e below (T1.setTop (mkF m 223 #[.val (.int p0), .val (.ref b1), .val (.int (10 : Int32)), .val (.ref (ad 10)), .unset] [(.int (10 : Int32))])) _
    refine XS.bipush X1.here hx rfl (hb hby at_223) ?_
    show Steps p.tables e below (T1.setTop (mkF m 225 #[.val (.int p0), .val (.ref b1), .val (.int (10 : Int32)), .val (.ref (ad 10)), .unset] [(.int (12 : Int32)), (.int (10 : Int32))])) _
    refine XS.icmpYes X1.here hx rfl (pc0 := 225) (pc' := 238) rfl (hb hby at_225) rfl (tlt (by decide)).1 (by decide) (by decide) ?_
    show Steps p.tables e below (T1.setTop (mkF m 238 #[.val (.int p0), .val (.ref b1), .val (.int (10 : Int32)), .val (.ref (ad 10)), .unset] [])) _
    refine XS.iconst X1.here hx rfl (hb hby at_238) ?_
    show Steps p.tables e below (T1.setTop (mkF m 239 #[.val (.int p0), .val (.ref b1), .val (.int (10 : Int32)), .val (.ref (ad 10)), .unset] [(.int (0 : Int32))])) _
    refine XS.istore X1.here hx rfl (hb hby at_239) rfl (l' := #[.val (.int p0), .val (.ref b1), .val (.int (10 : Int32)), .val (.ref (ad 10)), .val (.int (0 : Int32))]) rfl ?_
    show Steps p.tables e below (T1.setTop (mkF m 241 #[.val (.int p0), .val (.ref b1), .val (.int (10 : Int32)), .val (.ref (ad 10)), .val (.int (0 : Int32))] [])) _
    refine XS.aloadN X1.here hx rfl (hb hby at_241) rfl rfl ?_
    show Steps p.tables e below (T1.setTop (mkF m 242 #[.val (.int p0), .val (.ref b1), .val (.int (10 : Int32)), .val (.ref (ad 10)), .val (.int (0 : Int32))] [(.ref (ad 10))])) _
    refine st3.trans ?_
    show Steps p.tables e below (T3.setTop (mkF m 245 #[.val (.int p0), .val (.ref b1), .val (.int (10 : Int32)), .val (.ref (ad 10)), .val (.int (0 : Int32))] [(.int (0 : Int32))])) _
    refine XS.iload X3.here hx rfl (hb hby at_245) rfl ?_
    show Steps p.tables e below (T3.setTop (mkF m 247 #[.val (.int p0), .val (.ref b1), .val (.int (10 : Int32)), .val (.ref (ad 10)), .val (.int (0 : Int32))] [(.int (0 : Int32)), (.int (0 : Int32))])) _
    refine XS.icmpNo X3.here hx rfl (hb hby at_247) rfl (teq (by decide)).2 ?_
    show Steps p.tables e below (T3.setTop (mkF m 250 #[.val (.int p0), .val (.ref b1), .val (.int (10 : Int32)), .val (.ref (ad 10)), .val (.int (0 : Int32))] [])) _
    refine XS.iconst X3.here hx rfl (hb hby at_250) ?_
    show Steps p.tables e below (T3.setTop (mkF m 251 #[.val (.int p0), .val (.ref b1), .val (.int (10 : Int32)), .val (.ref (ad 10)), .val (.int (0 : Int32))] [(.int (1 : Int32))])) _
    refine XS.goto X3.here hx rfl (pc0 := 251) (pc' := 255) rfl (hb hby at_251) (by decide) (by decide) ?_
    show Steps p.tables e below (T3.setTop (mkF m 255 #[.val (.int p0), .val (.ref b1), .val (.int (10 : Int32)), .val (.ref (ad 10)), .val (.int (0 : Int32))] [(.int (1 : Int32))])) _
    exact retN X3 hx (t := .boolean) Bd.returns (by simp) (hb hby at_255) hr
  · exact ⟨rfl, N3⟩
set_option maxRecDepth 65536 in
set_option maxHeartbeats 40000000 in
theorem rm1_ad11 (l : Launch) (Z : State) (a0 : Array Value) (hw : ∀ d ∈ tables_1, d.before a0 Z = true) (ws : List Jvm.Cond) (ad : Nat → Addr) (NF : Facts Z ad) (h0 : Heap) (n0 : Nat) (Ol : Old Z n0 h0) :
    MetFree l (⟨"com/example/pivotlex/pivotlex/terminology/IssueCode", "isOfValueSet", "()Z"⟩ : MethodName) (head1 (Jvm.Cond.code (⟨"com/example/pivotlex/pivotlex/terminology/IssueCode", "isOfValueSet", "()Z"⟩ : MethodName) prog_80_method_4_code 1 (some .boolean) :: ws) ({ frames := 0, cells := 0, slots := 0, locals := 0 } : Room)) (fun a U => a = #[(.ref (ad 11))] ∧ Z.Warmed39 U.vm ∧ U.heap = h0) (fun _ _ _ _ _ => True) (fun _ U o U' => ∃ v L, o = .returned v ∧ QS (.int (0 : Int32)) h0 n0 v U'.heap L ∧ FrameEnd U o U' L ({ frames := 0, cells := 0, slots := 0, locals := 0 } : Room).cells ({ frames := 0, cells := 0, slots := 0, locals := 0 } : Room).slots) := by
  refine MetFree.of_bodySF (plainFor_of_name pn_1) hisR ?_
  intro p e s m args below meth c s₁ Bd hml0 hP hK
  obtain ⟨rfl, hZ, hh⟩ := hP
  have hx := Bd.exec
  have hby := Bd.bytes
  have hml : c.maxLocals = 1 := hml0
  have hown : s.vm.findClass "com/example/pivotlex/pivotlex/terminology/IssueCode" = some m.cls := findClass_of_methodNamed Bd.named
  have X0 : Stand p l e ({ frames := 0, cells := 0, slots := 0, locals := 0 } : Room) s m #[(.ref (ad 11))] below meth c s₁ [] 0 0 := Stand.of_body Bd
  have e0 : s₁.heap = h0 := by rw [← hh, Bd.state]; rfl
  have N0 := Fr.nil n0
  have pre0 : ∀ t, Steps p.tables e below (s₁.setTop (mkF m 0 #[.val (.ref (ad 11))] [])) t → Steps p.tables e below (s₁.setTop (entryFrame m #[(.ref (ad 11))] 1)) t := fun t k => castTop (ef_1_R m (ad 11)) k
  obtain ⟨T1, X1, e1, st1⟩ := getS2 X0 hx hZ hown (host := "") (Or.inl (hw _ (List.mem_of_getElem? (i := 70) rfl))) Via.refl e0 ((ft_42 NF).ext Ol.2) (g := (mkF m 1 #[.val (.ref (ad 11))] [(.ref (ad 11))])) rfl (hb hby d1_1)
  obtain ⟨T2, X2, e2, st2⟩ := getS2 X1 hx hZ hown (host := "") (Or.inl (hw _ (List.mem_of_getElem? (i := 71) rfl))) Via.refl e1 ((ft_43 NF).ext Ol.2) (g := (mkF m 8 #[.val (.ref (ad 11))] [(.ref (ad 11))])) rfl (hb hby d1_8)
  obtain ⟨T3, X3, e3, st3⟩ := getS2 X2 hx hZ hown (host := "") (Or.inl (hw _ (List.mem_of_getElem? (i := 72) rfl))) Via.refl e2 ((ft_44 NF).ext Ol.2) (g := (mkF m 15 #[.val (.ref (ad 11))] [(.ref (ad 11))])) rfl (hb hby d1_15)
  obtain ⟨T4, X4, e4, st4⟩ := getS2 X3 hx hZ hown (host := "") (Or.inl (hw _ (List.mem_of_getElem? (i := 73) rfl))) Via.refl e3 ((ft_45 NF).ext Ol.2) (g := (mkF m 22 #[.val (.ref (ad 11))] [(.ref (ad 11))])) rfl (hb hby d1_22)
  obtain ⟨fs, hr, hrun, hended, hW, hsame⟩ := X4.leave (v := some (.int (0 : Int32))) (fun h => by rw [Bd.returns] at h; cases h)
  refine ⟨_, _, pre0 _ ?_, hrun, hended, _, _, rfl, ?_, ⟨_, rfl⟩, hW, hsame.mono (by decide) (by decide)⟩
  · show Steps p.tables e below (s₁.setTop (mkF m 0 #[.val (.ref (ad 11))] [])) _
    refine XS.aloadN X0.here hx rfl (hb hby d1_0) rfl rfl ?_
    show Steps p.tables e below (s₁.setTop (mkF m 1 #[.val (.ref (ad 11))] [(.ref (ad 11))])) _
    refine st1 _ ?_
    show Steps p.tables e below (T1.setTop (mkF m 4 #[.val (.ref (ad 11))] [(.ref (ad 12)), (.ref (ad 11))])) _
    refine acmp X1 hx rfl (x := (.ref (ad 11))) (y := (.ref (ad 12))) rfl rfl (pc0 := 4) (pc' := 7) (same := false) rfl (hb hby d1_4) rfl (decide_eq_false (fun h => (Fld.ne (ft_70 NF) (ft_61 NF) (by decide)) (Value.ref.inj h))) (by decide) (by decide) ?_
    show Steps p.tables e below (T1.setTop (mkF m 7 #[.val (.ref (ad 11))] [])) _
    refine XS.aloadN X1.here hx rfl (hb hby d1_7) rfl rfl ?_
    show Steps p.tables e below (T1.setTop (mkF m 8 #[.val (.ref (ad 11))] [(.ref (ad 11))])) _
    refine st2 _ ?_
    show Steps p.tables e below (T2.setTop (mkF m 11 #[.val (.ref (ad 11))] [(.ref (ad 13)), (.ref (ad 11))])) _
    refine acmp X2 hx rfl (x := (.ref (ad 11))) (y := (.ref (ad 13))) rfl rfl (pc0 := 11) (pc' := 14) (same := false) rfl (hb hby d1_11) rfl (decide_eq_false (fun h => (Fld.ne (ft_70 NF) (ft_62 NF) (by decide)) (Value.ref.inj h))) (by decide) (by decide) ?_
    show Steps p.tables e below (T2.setTop (mkF m 14 #[.val (.ref (ad 11))] [])) _
    refine XS.aloadN X2.here hx rfl (hb hby d1_14) rfl rfl ?_
    show Steps p.tables e below (T2.setTop (mkF m 15 #[.val (.ref (ad 11))] [(.ref (ad 11))])) _
    refine st3 _ ?_
    show Steps p.tables e below (T3.setTop (mkF m 18 #[.val (.ref (ad 11))] [(.ref (ad 14)), (.ref (ad 11))])) _
    refine acmp X3 hx rfl (x := (.ref (ad 11))) (y := (.ref (ad 14))) rfl rfl (pc0 := 18) (pc' := 21) (same := false) rfl (hb hby d1_18) rfl (decide_eq_false (fun h => (Fld.ne (ft_70 NF) (ft_63 NF) (by decide)) (Value.ref.inj h))) (by decide) (by decide) ?_
    show Steps p.tables e below (T3.setTop (mkF m 21 #[.val (.ref (ad 11))] [])) _
    refine XS.aloadN X3.here hx rfl (hb hby d1_21) rfl rfl ?_
    show Steps p.tables e below (T3.setTop (mkF m 22 #[.val (.ref (ad 11))] [(.ref (ad 11))])) _
    refine st4 _ ?_
    show Steps p.tables e below (T4.setTop (mkF m 25 #[.val (.ref (ad 11))] [(.ref (ad 15)), (.ref (ad 11))])) _
    refine acmp X4 hx rfl (x := (.ref (ad 11))) (y := (.ref (ad 15))) rfl rfl (pc0 := 25) (pc' := 32) (same := false) rfl (hb hby d1_25) rfl (decide_eq_false (fun h => (Fld.ne (ft_70 NF) (ft_64 NF) (by decide)) (Value.ref.inj h))) (by decide) (by decide) ?_
    show Steps p.tables e below (T4.setTop (mkF m 32 #[.val (.ref (ad 11))] [])) _
    refine XS.iconst X4.here hx rfl (hb hby d1_32) ?_
    show Steps p.tables e below (T4.setTop (mkF m 33 #[.val (.ref (ad 11))] [(.int (0 : Int32))])) _
    exact retN X4 hx (t := .boolean) Bd.returns (by simp) (hb hby d1_33) hr
  · exact ⟨rfl, N0, e4⟩
set_option maxRecDepth 65536 in
set_option maxHeartbeats 40000000 in
theorem rm0_11 (l : Launch) (Z : State) (a0 : Array Value) (hw : ∀ d ∈ tables_1, d.before a0 Z = true) (ws : List Jvm.Cond) (ad : Nat → Addr) (NF : Facts Z ad) (h0 : Heap) (n0 : Nat) (Ol : Old Z n0 h0) (p0 : Int32) (hi : (p0 &&& (2147483647 : Int32)) % (30 : Int32) = (11 : Int32)) :
    MetFree l x (head1 (Jvm.Cond.code x code maxLocals ret :: ws) room_1) (fun a U => a = #[(.int p0)] ∧ Z.Warmed39 U.vm ∧ U.heap = h0) (fun _ _ _ _ _ => True) (fun _ U o U' => ∃ v L, o = .returned v ∧ QL n0 v U'.heap L ∧ FrameEnd U o U' L room_1.cells room_1.slots) := by
  refine MetFree.of_bodySF (plainFor_of_name pn_0) hisR ?_
  intro p e s m args below meth c s₁ Bd hml0 hP hK
  obtain ⟨rfl, hZ, hh⟩ := hP
  have hx := Bd.exec
  have hby := Bd.bytes
  have hml : c.maxLocals = 5 := hml0
  have hown : s.vm.findClass "com/example/pivotlex/pivotlex/terminology/IssueCodeIsOfValueSetPinLaw" = some m.cls := findClass_of_methodNamed Bd.named
  have X0 : Stand p l e room_1 s m #[(.int p0)] below meth c s₁ [] 0 0 := Stand.of_body Bd
  have e0 : s₁.heap = h0 := by rw [← hh, Bd.state]; rfl
  have N0 := Fr.nil n0
  have pre0 : ∀ t, Steps p.tables e below (s₁.setTop (mkF m 0 #[.val (.int p0), .unset, .unset, .unset, .unset] [])) t → Steps p.tables e below (s₁.setTop (entryFrame m #[(.int p0)] maxLocals)) t := fun t k => castTop (ef_0_I m (p0)) k
  obtain ⟨T1, h1, Lc1, b1, k1, X1, e1, Ol1, K1, N1, V1, st1⟩ := fill hw ad NF h0 n0 Ol p0 X0 hx hZ hby hml hown e0
  obtain ⟨cl2, Ar2, q2, S2, M2, H2, G2⟩ := id V1
  have hin2 : ¬ ((11 : Int32) < 0 ∨ cl2.slots.size ≤ ((11 : Int32)).toNatClampNeg) := inb_of S2 ⟨by decide, by decide⟩
  have hat2 : cl2.slots[((11 : Int32)).toNatClampNeg]? = some (.ref (ad 11)) := Has.at H2 hin2 rfl
  obtain ⟨cq3, kq3, qa3, qb3, qc3⟩ := isOf hZ e1 ((ft_11 NF).ext Ol1.2)
  obtain ⟨_, _, ⟨T3, L3, k3, n3⟩, -, X3, ⟨Lc3, hQ3, l3, y3, z3⟩, st3⟩ := X1.virtualBack hx (y := (⟨"com/example/pivotlex/pivotlex/terminology/IssueCode", "isOfValueSet", "()Z"⟩ : MethodName)) (z := (⟨"com/example/pivotlex/pivotlex/terminology/IssueCode", "isOfValueSet", "()Z"⟩ : MethodName)) hown (mvT hZ (hw _ (List.mem_of_getElem? (i := 65) rfl))) (mvT hZ (hw _ (List.mem_of_getElem? (i := 66) rfl))) (notFace_of_selects (args := #[]) (mvT hZ (hw _ (List.mem_of_getElem? (i := 68) rfl)))) (mvT hZ (hw _ (List.mem_of_getElem? (i := 68) rfl))) (mvT hZ (hw _ (List.mem_of_getElem? (i := 67) rfl))) (by decide) (backOf (W := 0) (rm1_ad11 l Z a0 hw [] ad NF h1 n0 Ol1) hZ (hw _ (List.mem_of_getElem? (i := 69) rfl)) (hw _ (List.mem_of_getElem? (i := 3) rfl)) (by decide) (by decide)) qa3 qc3 (g := (mkF m 242 #[.val (.int p0), .val (.ref b1), .val (.int (11 : Int32)), .val (.ref (ad 11)), .val (.int (0 : Int32))] [(.ref (ad 11))])) rfl (by rw [hml]; rfl) (Steps.refl _) (argsL := []) (rest := []) (lenOf pd_1 rfl) rfl (by show 2 * 0 + _ ≤ _; exact Nat.le_of_eq rfl) (hb hby at_242) (fun _ _ => ⟨rfl, e1, (by decide : 1 + 0 ≤ _), (by decide : 30 + 0 ≤ _)⟩)
  dsimp only [Pt.U, Pt.locs, Pt.cells, Pt.slots] at X3 l3 y3 z3 st3 hQ3
  subst l3 y3 z3
  obtain ⟨rfl, Nq3, e3⟩ := hQ3
  have N3 := Fr.app N1 Nq3
  obtain ⟨fs, hr, hrun, hended, hW, hsame⟩ := X3.leave (v := some (.int (1 : Int32))) (fun h => by rw [Bd.returns] at h; cases h)
  refine ⟨_, _, pre0 _ ?_, hrun, hended, _, _, rfl, ?_, ⟨_, rfl⟩, hW, hsame.mono (by decide) (by decide)⟩
  · show Steps p.tables e below (s₁.setTop (mkF m 0 #[.val (.int p0), .unset, .unset, .unset, .unset] [])) _
    refine st1 _ ?_
    show Steps p.tables e below (T1.setTop (mkF m 210 #[.val (.int p0), .val (.ref b1), .unset, .unset, .unset] [])) _
    refine XS.iloadN X1.here hx rfl (hb hby at_210) rfl ?_
    show Steps p.tables e below (T1.setTop (mkF m 211 #[.val (.int p0), .val (.ref b1), .unset, .unset, .unset] [(.int p0)])) _
    refine X1.ldcInt hx hown (mvT hZ (hw _ (List.mem_of_getElem? (i := 64) rfl))) (g := (mkF m 211 #[.val (.int p0), .val (.ref b1), .unset, .unset, .unset] [(.int p0)])) rfl (hb hby at_211) _ ?_
    show Steps p.tables e below (T1.setTop (mkF m 213 #[.val (.int p0), .val (.ref b1), .unset, .unset, .unset] [(.int (2147483647 : Int32)), (.int p0)])) _
    refine XS.iand X1.here hx rfl (hb hby at_213) rfl ?_
    show Steps p.tables e below (T1.setTop (mkF m 214 #[.val (.int p0), .val (.ref b1), .unset, .unset, .unset] [(.int (p0 &&& (2147483647 : Int32)))])) _
    refine XS.bipush X1.here hx rfl (hb hby at_214) ?_
    show Steps p.tables e below (T1.setTop (mkF m 216 #[.val (.int p0), .val (.ref b1), .unset, .unset, .unset] [(.int (30 : Int32)), (.int (p0 &&& (2147483647 : Int32)))])) _
    refine iremM X1 hx rfl (hb hby at_216) rfl (by decide) ?_
    show Steps p.tables e below (T1.setTop (mkF m 217 #[.val (.int p0), .val (.ref b1), .unset, .unset, .unset] [(.int ((p0 &&& (2147483647 : Int32)) % (30 : Int32)))])) _
    rw [hi]
    show Steps p.tables e below (T1.setTop (mkF m 217 #[.val (.int p0), .val (.ref b1), .unset, .unset, .unset] [(.int (11 : Int32))])) _
    refine XS.istoreN X1.here hx rfl (hb hby at_217) rfl (l' := #[.val (.int p0), .val (.ref b1), .val (.int (11 : Int32)), .unset, .unset]) rfl ?_
    show Steps p.tables e below (T1.setTop (mkF m 218 #[.val (.int p0), .val (.ref b1), .val (.int (11 : Int32)), .unset, .unset] [])) _
    refine XS.aloadN X1.here hx rfl (hb hby at_218) rfl rfl ?_
    show Steps p.tables e below (T1.setTop (mkF m 219 #[.val (.int p0), .val (.ref b1), .val (.int (11 : Int32)), .unset, .unset] [(.ref b1)])) _
    refine XS.iloadN X1.here hx rfl (hb hby at_219) rfl ?_
    show Steps p.tables e below (T1.setTop (mkF m 220 #[.val (.int p0), .val (.ref b1), .val (.int (11 : Int32)), .unset, .unset] [(.int (11 : Int32)), (.ref b1)])) _
    refine X1.aaload hx (j := (11 : Int32)) (v := (.ref (ad 11))) (by rw [e1]; exact Ar2.1) (State.isArrayOf_alike hZ.alike Ar2.2.1) rfl Ar2.2.2 hin2 hat2 (g := (mkF m 220 #[.val (.int p0), .val (.ref b1), .val (.int (11 : Int32)), .unset, .unset] [(.int (11 : Int32)), (.ref b1)])) rfl rfl (hb hby at_220) _ ?_
    show Steps p.tables e below (T1.setTop (mkF m 221 #[.val (.int p0), .val (.ref b1), .val (.int (11 : Int32)), .unset, .unset] [(.ref (ad 11))])) _
    refine XS.astoreN X1.here hx rfl (hb hby at_221) rfl rfl (l' := #[.val (.int p0), .val (.ref b1), .val (.int (11 : Int32)), .val (.ref (ad 11)), .unset]) rfl ?_
    show Steps p.tables e below (T1.setTop (mkF m 222 #[.val (.int p0), .val (.ref b1), .val (.int (11 : Int32)), .val (.ref (ad 11)), .unset] [])) _
    refine XS.iloadN X1.here hx rfl (hb hby at_222) rfl ?_
    show Steps p.tables e below (T1.setTop (mkF m 223 #[.val (.int p0), .val (.ref b1), .val (.int (11 : Int32)), .val (.ref (ad 11)), .unset] [(.int (11 : Int32))])) _
    refine XS.bipush X1.here hx rfl (hb hby at_223) ?_
    show Steps p.tables e below (T1.setTop (mkF m 225 #[.val (.int p0), .val (.ref b1), .val (.int (11 : Int32)), .val (.ref (ad 11)), .unset] [(.int (12 : Int32)), (.int (11 : Int32))])) _
    refine XS.icmpYes X1.here hx rfl (pc0 := 225) (pc' := 238) rfl (hb hby at_225) rfl (tlt (by decide)).1 (by decide) (by decide) ?_
    show Steps p.tables e below (T1.setTop (mkF m 238 #[.val (.int p0), .val (.ref b1), .val (.int (11 : Int32)), .val (.ref (ad 11)), .unset] [])) _
    refine XS.iconst X1.here hx rfl (hb hby at_238) ?_
    show Steps p.tables e below (T1.setTop (mkF m 239 #[.val (.int p0), .val (.ref b1), .val (.int (11 : Int32)), .val (.ref (ad 11)), .unset] [(.int (0 : Int32))])) _
    refine XS.istore X1.here hx rfl (hb hby at_239) rfl (l' := #[.val (.int p0), .val (.ref b1), .val (.int (11 : Int32)), .val (.ref (ad 11)), .val (.int (0 : Int32))]) rfl ?_
    show Steps p.tables e below (T1.setTop (mkF m 241 #[.val (.int p0), .val (.ref b1), .val (.int (11 : Int32)), .val (.ref (ad 11)), .val (.int (0 : Int32))] [])) _
    refine XS.aloadN X1.here hx rfl (hb hby at_241) rfl rfl ?_
    show Steps p.tables e below (T1.setTop (mkF m 242 #[.val (.int p0), .val (.ref b1), .val (.int (11 : Int32)), .val (.ref (ad 11)), .val (.int (0 : Int32))] [(.ref (ad 11))])) _
    refine st3.trans ?_
    show Steps p.tables e below (T3.setTop (mkF m 245 #[.val (.int p0), .val (.ref b1), .val (.int (11 : Int32)), .val (.ref (ad 11)), .val (.int (0 : Int32))] [(.int (0 : Int32))])) _
    refine XS.iload X3.here hx rfl (hb hby at_245) rfl ?_
    show Steps p.tables e below (T3.setTop (mkF m 247 #[.val (.int p0), .val (.ref b1), .val (.int (11 : Int32)), .val (.ref (ad 11)), .val (.int (0 : Int32))] [(.int (0 : Int32)), (.int (0 : Int32))])) _
    refine XS.icmpNo X3.here hx rfl (hb hby at_247) rfl (teq (by decide)).2 ?_
    show Steps p.tables e below (T3.setTop (mkF m 250 #[.val (.int p0), .val (.ref b1), .val (.int (11 : Int32)), .val (.ref (ad 11)), .val (.int (0 : Int32))] [])) _
    refine XS.iconst X3.here hx rfl (hb hby at_250) ?_
    show Steps p.tables e below (T3.setTop (mkF m 251 #[.val (.int p0), .val (.ref b1), .val (.int (11 : Int32)), .val (.ref (ad 11)), .val (.int (0 : Int32))] [(.int (1 : Int32))])) _
    refine XS.goto X3.here hx rfl (pc0 := 251) (pc' := 255) rfl (hb hby at_251) (by decide) (by decide) ?_
    show Steps p.tables e below (T3.setTop (mkF m 255 #[.val (.int p0), .val (.ref b1), .val (.int (11 : Int32)), .val (.ref (ad 11)), .val (.int (0 : Int32))] [(.int (1 : Int32))])) _
    exact retN X3 hx (t := .boolean) Bd.returns (by simp) (hb hby at_255) hr
  · exact ⟨rfl, N3⟩
theorem d1_28 : decode prog_80_method_4_code 28 = .ok (.iconst 1, 1) := by decide +kernel
theorem d1_29 : decode prog_80_method_4_code 29 = .ok (.goto 4, 3) := by decide +kernel
set_option maxRecDepth 65536 in
set_option maxHeartbeats 40000000 in
theorem rm1_ad12 (l : Launch) (Z : State) (a0 : Array Value) (hw : ∀ d ∈ tables_1, d.before a0 Z = true) (ws : List Jvm.Cond) (ad : Nat → Addr) (NF : Facts Z ad) (h0 : Heap) (n0 : Nat) (Ol : Old Z n0 h0) :
    MetFree l (⟨"com/example/pivotlex/pivotlex/terminology/IssueCode", "isOfValueSet", "()Z"⟩ : MethodName) (head1 (Jvm.Cond.code (⟨"com/example/pivotlex/pivotlex/terminology/IssueCode", "isOfValueSet", "()Z"⟩ : MethodName) prog_80_method_4_code 1 (some .boolean) :: ws) ({ frames := 0, cells := 0, slots := 0, locals := 0 } : Room)) (fun a U => a = #[(.ref (ad 12))] ∧ Z.Warmed39 U.vm ∧ U.heap = h0) (fun _ _ _ _ _ => True) (fun _ U o U' => ∃ v L, o = .returned v ∧ QS (.int (1 : Int32)) h0 n0 v U'.heap L ∧ FrameEnd U o U' L ({ frames := 0, cells := 0, slots := 0, locals := 0 } : Room).cells ({ frames := 0, cells := 0, slots := 0, locals := 0 } : Room).slots) := by
  refine MetFree.of_bodySF (plainFor_of_name pn_1) hisR ?_
  intro p e s m args below meth c s₁ Bd hml0 hP hK
  obtain ⟨rfl, hZ, hh⟩ := hP
  have hx := Bd.exec
  have hby := Bd.bytes
  have hml : c.maxLocals = 1 := hml0
  have hown : s.vm.findClass "com/example/pivotlex/pivotlex/terminology/IssueCode" = some m.cls := findClass_of_methodNamed Bd.named
  have X0 : Stand p l e ({ frames := 0, cells := 0, slots := 0, locals := 0 } : Room) s m #[(.ref (ad 12))] below meth c s₁ [] 0 0 := Stand.of_body Bd
  have e0 : s₁.heap = h0 := by rw [← hh, Bd.state]; rfl
  have N0 := Fr.nil n0
  have pre0 : ∀ t, Steps p.tables e below (s₁.setTop (mkF m 0 #[.val (.ref (ad 12))] [])) t → Steps p.tables e below (s₁.setTop (entryFrame m #[(.ref (ad 12))] 1)) t := fun t k => castTop (ef_1_R m (ad 12)) k
  obtain ⟨T1, X1, e1, st1⟩ := getS2 X0 hx hZ hown (host := "") (Or.inl (hw _ (List.mem_of_getElem? (i := 70) rfl))) Via.refl e0 ((ft_42 NF).ext Ol.2) (g := (mkF m 1 #[.val (.ref (ad 12))] [(.ref (ad 12))])) rfl (hb hby d1_1)
  obtain ⟨fs, hr, hrun, hended, hW, hsame⟩ := X1.leave (v := some (.int (1 : Int32))) (fun h => by rw [Bd.returns] at h; cases h)
  refine ⟨_, _, pre0 _ ?_, hrun, hended, _, _, rfl, ?_, ⟨_, rfl⟩, hW, hsame.mono (by decide) (by decide)⟩
  · show Steps p.tables e below (s₁.setTop (mkF m 0 #[.val (.ref (ad 12))] [])) _
    refine XS.aloadN X0.here hx rfl (hb hby d1_0) rfl rfl ?_
    show Steps p.tables e below (s₁.setTop (mkF m 1 #[.val (.ref (ad 12))] [(.ref (ad 12))])) _
    refine st1 _ ?_
    show Steps p.tables e below (T1.setTop (mkF m 4 #[.val (.ref (ad 12))] [(.ref (ad 12)), (.ref (ad 12))])) _
    refine acmp X1 hx rfl (x := (.ref (ad 12))) (y := (.ref (ad 12))) rfl rfl (pc0 := 4) (pc' := 28) (same := true) rfl (hb hby d1_4) rfl (decide_eq_true rfl) (by decide) (by decide) ?_
    show Steps p.tables e below (T1.setTop (mkF m 28 #[.val (.ref (ad 12))] [])) _
    refine XS.iconst X1.here hx rfl (hb hby d1_28) ?_
    show Steps p.tables e below (T1.setTop (mkF m 29 #[.val (.ref (ad 12))] [(.int (1 : Int32))])) _
    refine XS.goto X1.here hx rfl (pc0 := 29) (pc' := 33) rfl (hb hby d1_29) (by decide) (by decide) ?_
    show Steps p.tables e below (T1.setTop (mkF m 33 #[.val (.ref (ad 12))] [(.int (1 : Int32))])) _
    exact retN X1 hx (t := .boolean) Bd.returns (by simp) (hb hby d1_33) hr
  · exact ⟨rfl, N0, e1⟩
set_option maxRecDepth 65536 in
set_option maxHeartbeats 40000000 in
theorem rm0_12 (l : Launch) (Z : State) (a0 : Array Value) (hw : ∀ d ∈ tables_1, d.before a0 Z = true) (ws : List Jvm.Cond) (ad : Nat → Addr) (NF : Facts Z ad) (h0 : Heap) (n0 : Nat) (Ol : Old Z n0 h0) (p0 : Int32) (hi : (p0 &&& (2147483647 : Int32)) % (30 : Int32) = (12 : Int32)) :
    MetFree l x (head1 (Jvm.Cond.code x code maxLocals ret :: ws) room_1) (fun a U => a = #[(.int p0)] ∧ Z.Warmed39 U.vm ∧ U.heap = h0) (fun _ _ _ _ _ => True) (fun _ U o U' => ∃ v L, o = .returned v ∧ QL n0 v U'.heap L ∧ FrameEnd U o U' L room_1.cells room_1.slots) := by
  refine MetFree.of_bodySF (plainFor_of_name pn_0) hisR ?_
  intro p e s m args below meth c s₁ Bd hml0 hP hK
  obtain ⟨rfl, hZ, hh⟩ := hP
  have hx := Bd.exec
  have hby := Bd.bytes
  have hml : c.maxLocals = 5 := hml0
  have hown : s.vm.findClass "com/example/pivotlex/pivotlex/terminology/IssueCodeIsOfValueSetPinLaw" = some m.cls := findClass_of_methodNamed Bd.named
  have X0 : Stand p l e room_1 s m #[(.int p0)] below meth c s₁ [] 0 0 := Stand.of_body Bd
  have e0 : s₁.heap = h0 := by rw [← hh, Bd.state]; rfl
  have N0 := Fr.nil n0
  have pre0 : ∀ t, Steps p.tables e below (s₁.setTop (mkF m 0 #[.val (.int p0), .unset, .unset, .unset, .unset] [])) t → Steps p.tables e below (s₁.setTop (entryFrame m #[(.int p0)] maxLocals)) t := fun t k => castTop (ef_0_I m (p0)) k
  obtain ⟨T1, h1, Lc1, b1, k1, X1, e1, Ol1, K1, N1, V1, st1⟩ := fill hw ad NF h0 n0 Ol p0 X0 hx hZ hby hml hown e0
  obtain ⟨cl2, Ar2, q2, S2, M2, H2, G2⟩ := id V1
  have hin2 : ¬ ((12 : Int32) < 0 ∨ cl2.slots.size ≤ ((12 : Int32)).toNatClampNeg) := inb_of S2 ⟨by decide, by decide⟩
  have hat2 : cl2.slots[((12 : Int32)).toNatClampNeg]? = some (.ref (ad 12)) := Has.at H2 hin2 rfl
  obtain ⟨cq3, kq3, qa3, qb3, qc3⟩ := isOf hZ e1 ((ft_12 NF).ext Ol1.2)
  obtain ⟨_, _, ⟨T3, L3, k3, n3⟩, -, X3, ⟨Lc3, hQ3, l3, y3, z3⟩, st3⟩ := X1.virtualBack hx (y := (⟨"com/example/pivotlex/pivotlex/terminology/IssueCode", "isOfValueSet", "()Z"⟩ : MethodName)) (z := (⟨"com/example/pivotlex/pivotlex/terminology/IssueCode", "isOfValueSet", "()Z"⟩ : MethodName)) hown (mvT hZ (hw _ (List.mem_of_getElem? (i := 65) rfl))) (mvT hZ (hw _ (List.mem_of_getElem? (i := 66) rfl))) (notFace_of_selects (args := #[]) (mvT hZ (hw _ (List.mem_of_getElem? (i := 68) rfl)))) (mvT hZ (hw _ (List.mem_of_getElem? (i := 68) rfl))) (mvT hZ (hw _ (List.mem_of_getElem? (i := 67) rfl))) (by decide) (backOf (W := 0) (rm1_ad12 l Z a0 hw [] ad NF h1 n0 Ol1) hZ (hw _ (List.mem_of_getElem? (i := 69) rfl)) (hw _ (List.mem_of_getElem? (i := 3) rfl)) (by decide) (by decide)) qa3 qc3 (g := (mkF m 242 #[.val (.int p0), .val (.ref b1), .val (.int (12 : Int32)), .val (.ref (ad 12)), .val (.int (1 : Int32))] [(.ref (ad 12))])) rfl (by rw [hml]; rfl) (Steps.refl _) (argsL := []) (rest := []) (lenOf pd_1 rfl) rfl (by show 2 * 0 + _ ≤ _; exact Nat.le_of_eq rfl) (hb hby at_242) (fun _ _ => ⟨rfl, e1, (by decide : 1 + 0 ≤ _), (by decide : 30 + 0 ≤ _)⟩)
  dsimp only [Pt.U, Pt.locs, Pt.cells, Pt.slots] at X3 l3 y3 z3 st3 hQ3
  subst l3 y3 z3
  obtain ⟨rfl, Nq3, e3⟩ := hQ3
  have N3 := Fr.app N1 Nq3
  obtain ⟨fs, hr, hrun, hended, hW, hsame⟩ := X3.leave (v := some (.int (1 : Int32))) (fun h => by rw [Bd.returns] at h; cases h)
  refine ⟨_, _, pre0 _ ?_, hrun, hended, _, _, rfl, ?_, ⟨_, rfl⟩, hW, hsame.mono (by decide) (by decide)⟩
  · show Steps p.tables e below (s₁.setTop (mkF m 0 #[.val (.int p0), .unset, .unset, .unset, .unset] [])) _
    refine st1 _ ?_
    show Steps p.tables e below (T1.setTop (mkF m 210 #[.val (.int p0), .val (.ref b1), .unset, .unset, .unset] [])) _
    refine XS.iloadN X1.here hx rfl (hb hby at_210) rfl ?_
    show Steps p.tables e below (T1.setTop (mkF m 211 #[.val (.int p0), .val (.ref b1), .unset, .unset, .unset] [(.int p0)])) _
    refine X1.ldcInt hx hown (mvT hZ (hw _ (List.mem_of_getElem? (i := 64) rfl))) (g := (mkF m 211 #[.val (.int p0), .val (.ref b1), .unset, .unset, .unset] [(.int p0)])) rfl (hb hby at_211) _ ?_
    show Steps p.tables e below (T1.setTop (mkF m 213 #[.val (.int p0), .val (.ref b1), .unset, .unset, .unset] [(.int (2147483647 : Int32)), (.int p0)])) _
    refine XS.iand X1.here hx rfl (hb hby at_213) rfl ?_
    show Steps p.tables e below (T1.setTop (mkF m 214 #[.val (.int p0), .val (.ref b1), .unset, .unset, .unset] [(.int (p0 &&& (2147483647 : Int32)))])) _
    refine XS.bipush X1.here hx rfl (hb hby at_214) ?_
    show Steps p.tables e below (T1.setTop (mkF m 216 #[.val (.int p0), .val (.ref b1), .unset, .unset, .unset] [(.int (30 : Int32)), (.int (p0 &&& (2147483647 : Int32)))])) _
    refine iremM X1 hx rfl (hb hby at_216) rfl (by decide) ?_
    show Steps p.tables e below (T1.setTop (mkF m 217 #[.val (.int p0), .val (.ref b1), .unset, .unset, .unset] [(.int ((p0 &&& (2147483647 : Int32)) % (30 : Int32)))])) _
    rw [hi]
    show Steps p.tables e below (T1.setTop (mkF m 217 #[.val (.int p0), .val (.ref b1), .unset, .unset, .unset] [(.int (12 : Int32))])) _
    refine XS.istoreN X1.here hx rfl (hb hby at_217) rfl (l' := #[.val (.int p0), .val (.ref b1), .val (.int (12 : Int32)), .unset, .unset]) rfl ?_
    show Steps p.tables e below (T1.setTop (mkF m 218 #[.val (.int p0), .val (.ref b1), .val (.int (12 : Int32)), .unset, .unset] [])) _
    refine XS.aloadN X1.here hx rfl (hb hby at_218) rfl rfl ?_
    show Steps p.tables e below (T1.setTop (mkF m 219 #[.val (.int p0), .val (.ref b1), .val (.int (12 : Int32)), .unset, .unset] [(.ref b1)])) _
    refine XS.iloadN X1.here hx rfl (hb hby at_219) rfl ?_
    show Steps p.tables e below (T1.setTop (mkF m 220 #[.val (.int p0), .val (.ref b1), .val (.int (12 : Int32)), .unset, .unset] [(.int (12 : Int32)), (.ref b1)])) _
    refine X1.aaload hx (j := (12 : Int32)) (v := (.ref (ad 12))) (by rw [e1]; exact Ar2.1) (State.isArrayOf_alike hZ.alike Ar2.2.1) rfl Ar2.2.2 hin2 hat2 (g := (mkF m 220 #[.val (.int p0), .val (.ref b1), .val (.int (12 : Int32)), .unset, .unset] [(.int (12 : Int32)), (.ref b1)])) rfl rfl (hb hby at_220) _ ?_
    show Steps p.tables e below (T1.setTop (mkF m 221 #[.val (.int p0), .val (.ref b1), .val (.int (12 : Int32)), .unset, .unset] [(.ref (ad 12))])) _
    refine XS.astoreN X1.here hx rfl (hb hby at_221) rfl rfl (l' := #[.val (.int p0), .val (.ref b1), .val (.int (12 : Int32)), .val (.ref (ad 12)), .unset]) rfl ?_
    show Steps p.tables e below (T1.setTop (mkF m 222 #[.val (.int p0), .val (.ref b1), .val (.int (12 : Int32)), .val (.ref (ad 12)), .unset] [])) _
    refine XS.iloadN X1.here hx rfl (hb hby at_222) rfl ?_
    show Steps p.tables e below (T1.setTop (mkF m 223 #[.val (.int p0), .val (.ref b1), .val (.int (12 : Int32)), .val (.ref (ad 12)), .unset] [(.int (12 : Int32))])) _
    refine XS.bipush X1.here hx rfl (hb hby at_223) ?_
    show Steps p.tables e below (T1.setTop (mkF m 225 #[.val (.int p0), .val (.ref b1), .val (.int (12 : Int32)), .val (.ref (ad 12)), .unset] [(.int (12 : Int32)), (.int (12 : Int32))])) _
    refine XS.icmpNo X1.here hx rfl (hb hby at_225) rfl (flt (by decide)).1 ?_
    show Steps p.tables e below (T1.setTop (mkF m 228 #[.val (.int p0), .val (.ref b1), .val (.int (12 : Int32)), .val (.ref (ad 12)), .unset] [])) _
    refine XS.iloadN X1.here hx rfl (hb hby at_228) rfl ?_
    show Steps p.tables e below (T1.setTop (mkF m 229 #[.val (.int p0), .val (.ref b1), .val (.int (12 : Int32)), .val (.ref (ad 12)), .unset] [(.int (12 : Int32))])) _
    refine XS.bipush X1.here hx rfl (hb hby at_229) ?_
    show Steps p.tables e below (T1.setTop (mkF m 231 #[.val (.int p0), .val (.ref b1), .val (.int (12 : Int32)), .val (.ref (ad 12)), .unset] [(.int (15 : Int32)), (.int (12 : Int32))])) _
    refine XS.icmpNo X1.here hx rfl (hb hby at_231) rfl (flt (by decide)).2.2.1 ?_
    show Steps p.tables e below (T1.setTop (mkF m 234 #[.val (.int p0), .val (.ref b1), .val (.int (12 : Int32)), .val (.ref (ad 12)), .unset] [])) _
    refine XS.iconst X1.here hx rfl (hb hby at_234) ?_
    show Steps p.tables e below (T1.setTop (mkF m 235 #[.val (.int p0), .val (.ref b1), .val (.int (12 : Int32)), .val (.ref (ad 12)), .unset] [(.int (1 : Int32))])) _
    refine XS.goto X1.here hx rfl (pc0 := 235) (pc' := 239) rfl (hb hby at_235) (by decide) (by decide) ?_
    show Steps p.tables e below (T1.setTop (mkF m 239 #[.val (.int p0), .val (.ref b1), .val (.int (12 : Int32)), .val (.ref (ad 12)), .unset] [(.int (1 : Int32))])) _
    refine XS.istore X1.here hx rfl (hb hby at_239) rfl (l' := #[.val (.int p0), .val (.ref b1), .val (.int (12 : Int32)), .val (.ref (ad 12)), .val (.int (1 : Int32))]) rfl ?_
    show Steps p.tables e below (T1.setTop (mkF m 241 #[.val (.int p0), .val (.ref b1), .val (.int (12 : Int32)), .val (.ref (ad 12)), .val (.int (1 : Int32))] [])) _
    refine XS.aloadN X1.here hx rfl (hb hby at_241) rfl rfl ?_
    show Steps p.tables e below (T1.setTop (mkF m 242 #[.val (.int p0), .val (.ref b1), .val (.int (12 : Int32)), .val (.ref (ad 12)), .val (.int (1 : Int32))] [(.ref (ad 12))])) _
    refine st3.trans ?_
    show Steps p.tables e below (T3.setTop (mkF m 245 #[.val (.int p0), .val (.ref b1), .val (.int (12 : Int32)), .val (.ref (ad 12)), .val (.int (1 : Int32))] [(.int (1 : Int32))])) _
    refine XS.iload X3.here hx rfl (hb hby at_245) rfl ?_
    show Steps p.tables e below (T3.setTop (mkF m 247 #[.val (.int p0), .val (.ref b1), .val (.int (12 : Int32)), .val (.ref (ad 12)), .val (.int (1 : Int32))] [(.int (1 : Int32)), (.int (1 : Int32))])) _
    refine XS.icmpNo X3.here hx rfl (hb hby at_247) rfl (teq (by decide)).2 ?_
    show Steps p.tables e below (T3.setTop (mkF m 250 #[.val (.int p0), .val (.ref b1), .val (.int (12 : Int32)), .val (.ref (ad 12)), .val (.int (1 : Int32))] [])) _
    refine XS.iconst X3.here hx rfl (hb hby at_250) ?_
    show Steps p.tables e below (T3.setTop (mkF m 251 #[.val (.int p0), .val (.ref b1), .val (.int (12 : Int32)), .val (.ref (ad 12)), .val (.int (1 : Int32))] [(.int (1 : Int32))])) _
    refine XS.goto X3.here hx rfl (pc0 := 251) (pc' := 255) rfl (hb hby at_251) (by decide) (by decide) ?_
    show Steps p.tables e below (T3.setTop (mkF m 255 #[.val (.int p0), .val (.ref b1), .val (.int (12 : Int32)), .val (.ref (ad 12)), .val (.int (1 : Int32))] [(.int (1 : Int32))])) _
    exact retN X3 hx (t := .boolean) Bd.returns (by simp) (hb hby at_255) hr
  · exact ⟨rfl, N3⟩
set_option maxRecDepth 65536 in
set_option maxHeartbeats 40000000 in
theorem rm1_ad13 (l : Launch) (Z : State) (a0 : Array Value) (hw : ∀ d ∈ tables_1, d.before a0 Z = true) (ws : List Jvm.Cond) (ad : Nat → Addr) (NF : Facts Z ad) (h0 : Heap) (n0 : Nat) (Ol : Old Z n0 h0) :
    MetFree l (⟨"com/example/pivotlex/pivotlex/terminology/IssueCode", "isOfValueSet", "()Z"⟩ : MethodName) (head1 (Jvm.Cond.code (⟨"com/example/pivotlex/pivotlex/terminology/IssueCode", "isOfValueSet", "()Z"⟩ : MethodName) prog_80_method_4_code 1 (some .boolean) :: ws) ({ frames := 0, cells := 0, slots := 0, locals := 0 } : Room)) (fun a U => a = #[(.ref (ad 13))] ∧ Z.Warmed39 U.vm ∧ U.heap = h0) (fun _ _ _ _ _ => True) (fun _ U o U' => ∃ v L, o = .returned v ∧ QS (.int (1 : Int32)) h0 n0 v U'.heap L ∧ FrameEnd U o U' L ({ frames := 0, cells := 0, slots := 0, locals := 0 } : Room).cells ({ frames := 0, cells := 0, slots := 0, locals := 0 } : Room).slots) := by
  refine MetFree.of_bodySF (plainFor_of_name pn_1) hisR ?_
  intro p e s m args below meth c s₁ Bd hml0 hP hK
  obtain ⟨rfl, hZ, hh⟩ := hP
  have hx := Bd.exec
  have hby := Bd.bytes
  have hml : c.maxLocals = 1 := hml0
  have hown : s.vm.findClass "com/example/pivotlex/pivotlex/terminology/IssueCode" = some m.cls := findClass_of_methodNamed Bd.named
  have X0 : Stand p l e ({ frames := 0, cells := 0, slots := 0, locals := 0 } : Room) s m #[(.ref (ad 13))] below meth c s₁ [] 0 0 := Stand.of_body Bd
  have e0 : s₁.heap = h0 := by rw [← hh, Bd.state]; rfl
  have N0 := Fr.nil n0
  have pre0 : ∀ t, Steps p.tables e below (s₁.setTop (mkF m 0 #[.val (.ref (ad 13))] [])) t → Steps p.tables e below (s₁.setTop (entryFrame m #[(.ref (ad 13))] 1)) t := fun t k => castTop (ef_1_R m (ad 13)) k
  obtain ⟨T1, X1, e1, st1⟩ := getS2 X0 hx hZ hown (host := "") (Or.inl (hw _ (List.mem_of_getElem? (i := 70) rfl))) Via.refl e0 ((ft_42 NF).ext Ol.2) (g := (mkF m 1 #[.val (.ref (ad 13))] [(.ref (ad 13))])) rfl (hb hby d1_1)
  obtain ⟨T2, X2, e2, st2⟩ := getS2 X1 hx hZ hown (host := "") (Or.inl (hw _ (List.mem_of_getElem? (i := 71) rfl))) Via.refl e1 ((ft_43 NF).ext Ol.2) (g := (mkF m 8 #[.val (.ref (ad 13))] [(.ref (ad 13))])) rfl (hb hby d1_8)
  obtain ⟨fs, hr, hrun, hended, hW, hsame⟩ := X2.leave (v := some (.int (1 : Int32))) (fun h => by rw [Bd.returns] at h; cases h)
  refine ⟨_, _, pre0 _ ?_, hrun, hended, _, _, rfl, ?_, ⟨_, rfl⟩, hW, hsame.mono (by decide) (by decide)⟩
  · show Steps p.tables e below (s₁.setTop (mkF m 0 #[.val (.ref (ad 13))] [])) _
    refine XS.aloadN X0.here hx rfl (hb hby d1_0) rfl rfl ?_
    show Steps p.tables e below (s₁.setTop (mkF m 1 #[.val (.ref (ad 13))] [(.ref (ad 13))])) _
    refine st1 _ ?_
    show Steps p.tables e below (T1.setTop (mkF m 4 #[.val (.ref (ad 13))] [(.ref (ad 12)), (.ref (ad 13))])) _
    refine acmp X1 hx rfl (x := (.ref (ad 13))) (y := (.ref (ad 12))) rfl rfl (pc0 := 4) (pc' := 7) (same := false) rfl (hb hby d1_4) rfl (decide_eq_false (fun h => (Fld.ne (ft_62 NF) (ft_61 NF) (by decide)) (Value.ref.inj h))) (by decide) (by decide) ?_
    show Steps p.tables e below (T1.setTop (mkF m 7 #[.val (.ref (ad 13))] [])) _
    refine XS.aloadN X1.here hx rfl (hb hby d1_7) rfl rfl ?_
    show Steps p.tables e below (T1.setTop (mkF m 8 #[.val (.ref (ad 13))] [(.ref (ad 13))])) _
    refine st2 _ ?_
    show Steps p.tables e below (T2.setTop (mkF m 11 #[.val (.ref (ad 13))] [(.ref (ad 13)), (.ref (ad 13))])) _
    refine acmp X2 hx rfl (x := (.ref (ad 13))) (y := (.ref (ad 13))) rfl rfl (pc0 := 11) (pc' := 28) (same := true) rfl (hb hby d1_11) rfl (decide_eq_true rfl) (by decide) (by decide) ?_
    show Steps p.tables e below (T2.setTop (mkF m 28 #[.val (.ref (ad 13))] [])) _
    refine XS.iconst X2.here hx rfl (hb hby d1_28) ?_
    show Steps p.tables e below (T2.setTop (mkF m 29 #[.val (.ref (ad 13))] [(.int (1 : Int32))])) _
    refine XS.goto X2.here hx rfl (pc0 := 29) (pc' := 33) rfl (hb hby d1_29) (by decide) (by decide) ?_
    show Steps p.tables e below (T2.setTop (mkF m 33 #[.val (.ref (ad 13))] [(.int (1 : Int32))])) _
    exact retN X2 hx (t := .boolean) Bd.returns (by simp) (hb hby d1_33) hr
  · exact ⟨rfl, N0, e2⟩
set_option maxRecDepth 65536 in
set_option maxHeartbeats 40000000 in
theorem rm0_13 (l : Launch) (Z : State) (a0 : Array Value) (hw : ∀ d ∈ tables_1, d.before a0 Z = true) (ws : List Jvm.Cond) (ad : Nat → Addr) (NF : Facts Z ad) (h0 : Heap) (n0 : Nat) (Ol : Old Z n0 h0) (p0 : Int32) (hi : (p0 &&& (2147483647 : Int32)) % (30 : Int32) = (13 : Int32)) :
    MetFree l x (head1 (Jvm.Cond.code x code maxLocals ret :: ws) room_1) (fun a U => a = #[(.int p0)] ∧ Z.Warmed39 U.vm ∧ U.heap = h0) (fun _ _ _ _ _ => True) (fun _ U o U' => ∃ v L, o = .returned v ∧ QL n0 v U'.heap L ∧ FrameEnd U o U' L room_1.cells room_1.slots) := by
  refine MetFree.of_bodySF (plainFor_of_name pn_0) hisR ?_
  intro p e s m args below meth c s₁ Bd hml0 hP hK
  obtain ⟨rfl, hZ, hh⟩ := hP
  have hx := Bd.exec
  have hby := Bd.bytes
  have hml : c.maxLocals = 5 := hml0
  have hown : s.vm.findClass "com/example/pivotlex/pivotlex/terminology/IssueCodeIsOfValueSetPinLaw" = some m.cls := findClass_of_methodNamed Bd.named
  have X0 : Stand p l e room_1 s m #[(.int p0)] below meth c s₁ [] 0 0 := Stand.of_body Bd
  have e0 : s₁.heap = h0 := by rw [← hh, Bd.state]; rfl
  have N0 := Fr.nil n0
  have pre0 : ∀ t, Steps p.tables e below (s₁.setTop (mkF m 0 #[.val (.int p0), .unset, .unset, .unset, .unset] [])) t → Steps p.tables e below (s₁.setTop (entryFrame m #[(.int p0)] maxLocals)) t := fun t k => castTop (ef_0_I m (p0)) k
  obtain ⟨T1, h1, Lc1, b1, k1, X1, e1, Ol1, K1, N1, V1, st1⟩ := fill hw ad NF h0 n0 Ol p0 X0 hx hZ hby hml hown e0
  obtain ⟨cl2, Ar2, q2, S2, M2, H2, G2⟩ := id V1
  have hin2 : ¬ ((13 : Int32) < 0 ∨ cl2.slots.size ≤ ((13 : Int32)).toNatClampNeg) := inb_of S2 ⟨by decide, by decide⟩
  have hat2 : cl2.slots[((13 : Int32)).toNatClampNeg]? = some (.ref (ad 13)) := Has.at H2 hin2 rfl
  obtain ⟨cq3, kq3, qa3, qb3, qc3⟩ := isOf hZ e1 ((ft_13 NF).ext Ol1.2)
  obtain ⟨_, _, ⟨T3, L3, k3, n3⟩, -, X3, ⟨Lc3, hQ3, l3, y3, z3⟩, st3⟩ := X1.virtualBack hx (y := (⟨"com/example/pivotlex/pivotlex/terminology/IssueCode", "isOfValueSet", "()Z"⟩ : MethodName)) (z := (⟨"com/example/pivotlex/pivotlex/terminology/IssueCode", "isOfValueSet", "()Z"⟩ : MethodName)) hown (mvT hZ (hw _ (List.mem_of_getElem? (i := 65) rfl))) (mvT hZ (hw _ (List.mem_of_getElem? (i := 66) rfl))) (notFace_of_selects (args := #[]) (mvT hZ (hw _ (List.mem_of_getElem? (i := 68) rfl)))) (mvT hZ (hw _ (List.mem_of_getElem? (i := 68) rfl))) (mvT hZ (hw _ (List.mem_of_getElem? (i := 67) rfl))) (by decide) (backOf (W := 0) (rm1_ad13 l Z a0 hw [] ad NF h1 n0 Ol1) hZ (hw _ (List.mem_of_getElem? (i := 69) rfl)) (hw _ (List.mem_of_getElem? (i := 3) rfl)) (by decide) (by decide)) qa3 qc3 (g := (mkF m 242 #[.val (.int p0), .val (.ref b1), .val (.int (13 : Int32)), .val (.ref (ad 13)), .val (.int (1 : Int32))] [(.ref (ad 13))])) rfl (by rw [hml]; rfl) (Steps.refl _) (argsL := []) (rest := []) (lenOf pd_1 rfl) rfl (by show 2 * 0 + _ ≤ _; exact Nat.le_of_eq rfl) (hb hby at_242) (fun _ _ => ⟨rfl, e1, (by decide : 1 + 0 ≤ _), (by decide : 30 + 0 ≤ _)⟩)
  dsimp only [Pt.U, Pt.locs, Pt.cells, Pt.slots] at X3 l3 y3 z3 st3 hQ3
  subst l3 y3 z3
  obtain ⟨rfl, Nq3, e3⟩ := hQ3
  have N3 := Fr.app N1 Nq3
  obtain ⟨fs, hr, hrun, hended, hW, hsame⟩ := X3.leave (v := some (.int (1 : Int32))) (fun h => by rw [Bd.returns] at h; cases h)
  refine ⟨_, _, pre0 _ ?_, hrun, hended, _, _, rfl, ?_, ⟨_, rfl⟩, hW, hsame.mono (by decide) (by decide)⟩
  · show Steps p.tables e below (s₁.setTop (mkF m 0 #[.val (.int p0), .unset, .unset, .unset, .unset] [])) _
    refine st1 _ ?_
    show Steps p.tables e below (T1.setTop (mkF m 210 #[.val (.int p0), .val (.ref b1), .unset, .unset, .unset] [])) _
    refine XS.iloadN X1.here hx rfl (hb hby at_210) rfl ?_
    show Steps p.tables e below (T1.setTop (mkF m 211 #[.val (.int p0), .val (.ref b1), .unset, .unset, .unset] [(.int p0)])) _
    refine X1.ldcInt hx hown (mvT hZ (hw _ (List.mem_of_getElem? (i := 64) rfl))) (g := (mkF m 211 #[.val (.int p0), .val (.ref b1), .unset, .unset, .unset] [(.int p0)])) rfl (hb hby at_211) _ ?_
    show Steps p.tables e below (T1.setTop (mkF m 213 #[.val (.int p0), .val (.ref b1), .unset, .unset, .unset] [(.int (2147483647 : Int32)), (.int p0)])) _
    refine XS.iand X1.here hx rfl (hb hby at_213) rfl ?_
    show Steps p.tables e below (T1.setTop (mkF m 214 #[.val (.int p0), .val (.ref b1), .unset, .unset, .unset] [(.int (p0 &&& (2147483647 : Int32)))])) _
    refine XS.bipush X1.here hx rfl (hb hby at_214) ?_
    show Steps p.tables e below (T1.setTop (mkF m 216 #[.val (.int p0), .val (.ref b1), .unset, .unset, .unset] [(.int (30 : Int32)), (.int (p0 &&& (2147483647 : Int32)))])) _
    refine iremM X1 hx rfl (hb hby at_216) rfl (by decide) ?_
    show Steps p.tables e below (T1.setTop (mkF m 217 #[.val (.int p0), .val (.ref b1), .unset, .unset, .unset] [(.int ((p0 &&& (2147483647 : Int32)) % (30 : Int32)))])) _
    rw [hi]
    show Steps p.tables e below (T1.setTop (mkF m 217 #[.val (.int p0), .val (.ref b1), .unset, .unset, .unset] [(.int (13 : Int32))])) _
    refine XS.istoreN X1.here hx rfl (hb hby at_217) rfl (l' := #[.val (.int p0), .val (.ref b1), .val (.int (13 : Int32)), .unset, .unset]) rfl ?_
    show Steps p.tables e below (T1.setTop (mkF m 218 #[.val (.int p0), .val (.ref b1), .val (.int (13 : Int32)), .unset, .unset] [])) _
    refine XS.aloadN X1.here hx rfl (hb hby at_218) rfl rfl ?_
    show Steps p.tables e below (T1.setTop (mkF m 219 #[.val (.int p0), .val (.ref b1), .val (.int (13 : Int32)), .unset, .unset] [(.ref b1)])) _
    refine XS.iloadN X1.here hx rfl (hb hby at_219) rfl ?_
    show Steps p.tables e below (T1.setTop (mkF m 220 #[.val (.int p0), .val (.ref b1), .val (.int (13 : Int32)), .unset, .unset] [(.int (13 : Int32)), (.ref b1)])) _
    refine X1.aaload hx (j := (13 : Int32)) (v := (.ref (ad 13))) (by rw [e1]; exact Ar2.1) (State.isArrayOf_alike hZ.alike Ar2.2.1) rfl Ar2.2.2 hin2 hat2 (g := (mkF m 220 #[.val (.int p0), .val (.ref b1), .val (.int (13 : Int32)), .unset, .unset] [(.int (13 : Int32)), (.ref b1)])) rfl rfl (hb hby at_220) _ ?_
    show Steps p.tables e below (T1.setTop (mkF m 221 #[.val (.int p0), .val (.ref b1), .val (.int (13 : Int32)), .unset, .unset] [(.ref (ad 13))])) _
    refine XS.astoreN X1.here hx rfl (hb hby at_221) rfl rfl (l' := #[.val (.int p0), .val (.ref b1), .val (.int (13 : Int32)), .val (.ref (ad 13)), .unset]) rfl ?_
    show Steps p.tables e below (T1.setTop (mkF m 222 #[.val (.int p0), .val (.ref b1), .val (.int (13 : Int32)), .val (.ref (ad 13)), .unset] [])) _
    refine XS.iloadN X1.here hx rfl (hb hby at_222) rfl ?_
    show Steps p.tables e below (T1.setTop (mkF m 223 #[.val (.int p0), .val (.ref b1), .val (.int (13 : Int32)), .val (.ref (ad 13)), .unset] [(.int (13 : Int32))])) _
    refine XS.bipush X1.here hx rfl (hb hby at_223) ?_
    show Steps p.tables e below (T1.setTop (mkF m 225 #[.val (.int p0), .val (.ref b1), .val (.int (13 : Int32)), .val (.ref (ad 13)), .unset] [(.int (12 : Int32)), (.int (13 : Int32))])) _
    refine XS.icmpNo X1.here hx rfl (hb hby at_225) rfl (flt (by decide)).1 ?_
    show Steps p.tables e below (T1.setTop (mkF m 228 #[.val (.int p0), .val (.ref b1), .val (.int (13 : Int32)), .val (.ref (ad 13)), .unset] [])) _
    refine XS.iloadN X1.here hx rfl (hb hby at_228) rfl ?_
    show Steps p.tables e below (T1.setTop (mkF m 229 #[.val (.int p0), .val (.ref b1), .val (.int (13 : Int32)), .val (.ref (ad 13)), .unset] [(.int (13 : Int32))])) _
    refine XS.bipush X1.here hx rfl (hb hby at_229) ?_
    show Steps p.tables e below (T1.setTop (mkF m 231 #[.val (.int p0), .val (.ref b1), .val (.int (13 : Int32)), .val (.ref (ad 13)), .unset] [(.int (15 : Int32)), (.int (13 : Int32))])) _
    refine XS.icmpNo X1.here hx rfl (hb hby at_231) rfl (flt (by decide)).2.2.1 ?_
    show Steps p.tables e below (T1.setTop (mkF m 234 #[.val (.int p0), .val (.ref b1), .val (.int (13 : Int32)), .val (.ref (ad 13)), .unset] [])) _
    refine XS.iconst X1.here hx rfl (hb hby at_234) ?_
    show Steps p.tables e below (T1.setTop (mkF m 235 #[.val (.int p0), .val (.ref b1), .val (.int (13 : Int32)), .val (.ref (ad 13)), .unset] [(.int (1 : Int32))])) _
    refine XS.goto X1.here hx rfl (pc0 := 235) (pc' := 239) rfl (hb hby at_235) (by decide) (by decide) ?_
    show Steps p.tables e below (T1.setTop (mkF m 239 #[.val (.int p0), .val (.ref b1), .val (.int (13 : Int32)), .val (.ref (ad 13)), .unset] [(.int (1 : Int32))])) _
    refine XS.istore X1.here hx rfl (hb hby at_239) rfl (l' := #[.val (.int p0), .val (.ref b1), .val (.int (13 : Int32)), .val (.ref (ad 13)), .val (.int (1 : Int32))]) rfl ?_
    show Steps p.tables e below (T1.setTop (mkF m 241 #[.val (.int p0), .val (.ref b1), .val (.int (13 : Int32)), .val (.ref (ad 13)), .val (.int (1 : Int32))] [])) _
    refine XS.aloadN X1.here hx rfl (hb hby at_241) rfl rfl ?_
    show Steps p.tables e below (T1.setTop (mkF m 242 #[.val (.int p0), .val (.ref b1), .val (.int (13 : Int32)), .val (.ref (ad 13)), .val (.int (1 : Int32))] [(.ref (ad 13))])) _
    refine st3.trans ?_
    show Steps p.tables e below (T3.setTop (mkF m 245 #[.val (.int p0), .val (.ref b1), .val (.int (13 : Int32)), .val (.ref (ad 13)), .val (.int (1 : Int32))] [(.int (1 : Int32))])) _
    refine XS.iload X3.here hx rfl (hb hby at_245) rfl ?_
    show Steps p.tables e below (T3.setTop (mkF m 247 #[.val (.int p0), .val (.ref b1), .val (.int (13 : Int32)), .val (.ref (ad 13)), .val (.int (1 : Int32))] [(.int (1 : Int32)), (.int (1 : Int32))])) _
    refine XS.icmpNo X3.here hx rfl (hb hby at_247) rfl (teq (by decide)).2 ?_
    show Steps p.tables e below (T3.setTop (mkF m 250 #[.val (.int p0), .val (.ref b1), .val (.int (13 : Int32)), .val (.ref (ad 13)), .val (.int (1 : Int32))] [])) _
    refine XS.iconst X3.here hx rfl (hb hby at_250) ?_
    show Steps p.tables e below (T3.setTop (mkF m 251 #[.val (.int p0), .val (.ref b1), .val (.int (13 : Int32)), .val (.ref (ad 13)), .val (.int (1 : Int32))] [(.int (1 : Int32))])) _
    refine XS.goto X3.here hx rfl (pc0 := 251) (pc' := 255) rfl (hb hby at_251) (by decide) (by decide) ?_
    show Steps p.tables e below (T3.setTop (mkF m 255 #[.val (.int p0), .val (.ref b1), .val (.int (13 : Int32)), .val (.ref (ad 13)), .val (.int (1 : Int32))] [(.int (1 : Int32))])) _
    exact retN X3 hx (t := .boolean) Bd.returns (by simp) (hb hby at_255) hr
  · exact ⟨rfl, N3⟩
set_option maxRecDepth 65536 in
set_option maxHeartbeats 40000000 in
theorem rm1_ad14 (l : Launch) (Z : State) (a0 : Array Value) (hw : ∀ d ∈ tables_1, d.before a0 Z = true) (ws : List Jvm.Cond) (ad : Nat → Addr) (NF : Facts Z ad) (h0 : Heap) (n0 : Nat) (Ol : Old Z n0 h0) :
    MetFree l (⟨"com/example/pivotlex/pivotlex/terminology/IssueCode", "isOfValueSet", "()Z"⟩ : MethodName) (head1 (Jvm.Cond.code (⟨"com/example/pivotlex/pivotlex/terminology/IssueCode", "isOfValueSet", "()Z"⟩ : MethodName) prog_80_method_4_code 1 (some .boolean) :: ws) ({ frames := 0, cells := 0, slots := 0, locals := 0 } : Room)) (fun a U => a = #[(.ref (ad 14))] ∧ Z.Warmed39 U.vm ∧ U.heap = h0) (fun _ _ _ _ _ => True) (fun _ U o U' => ∃ v L, o = .returned v ∧ QS (.int (1 : Int32)) h0 n0 v U'.heap L ∧ FrameEnd U o U' L ({ frames := 0, cells := 0, slots := 0, locals := 0 } : Room).cells ({ frames := 0, cells := 0, slots := 0, locals := 0 } : Room).slots) := by
  refine MetFree.of_bodySF (plainFor_of_name pn_1) hisR ?_
  intro p e s m args below meth c s₁ Bd hml0 hP hK
  obtain ⟨rfl, hZ, hh⟩ := hP
  have hx := Bd.exec
  have hby := Bd.bytes
  have hml : c.maxLocals = 1 := hml0
  have hown : s.vm.findClass "com/example/pivotlex/pivotlex/terminology/IssueCode" = some m.cls := findClass_of_methodNamed Bd.named
  have X0 : Stand p l e ({ frames := 0, cells := 0, slots := 0, locals := 0 } : Room) s m #[(.ref (ad 14))] below meth c s₁ [] 0 0 := Stand.of_body Bd
  have e0 : s₁.heap = h0 := by rw [← hh, Bd.state]; rfl
  have N0 := Fr.nil n0
  have pre0 : ∀ t, Steps p.tables e below (s₁.setTop (mkF m 0 #[.val (.ref (ad 14))] [])) t → Steps p.tables e below (s₁.setTop (entryFrame m #[(.ref (ad 14))] 1)) t := fun t k => castTop (ef_1_R m (ad 14)) k
  obtain ⟨T1, X1, e1, st1⟩ := getS2 X0 hx hZ hown (host := "") (Or.inl (hw _ (List.mem_of_getElem? (i := 70) rfl))) Via.refl e0 ((ft_42 NF).ext Ol.2) (g := (mkF m 1 #[.val (.ref (ad 14))] [(.ref (ad 14))])) rfl (hb hby d1_1)
  obtain ⟨T2, X2, e2, st2⟩ := getS2 X1 hx hZ hown (host := "") (Or.inl (hw _ (List.mem_of_getElem? (i := 71) rfl))) Via.refl e1 ((ft_43 NF).ext Ol.2) (g := (mkF m 8 #[.val (.ref (ad 14))] [(.ref (ad 14))])) rfl (hb hby d1_8)
  obtain ⟨T3, X3, e3, st3⟩ := getS2 X2 hx hZ hown (host := "") (Or.inl (hw _ (List.mem_of_getElem? (i := 72) rfl))) Via.refl e2 ((ft_44 NF).ext Ol.2) (g := (mkF m 15 #[.val (.ref (ad 14))] [(.ref (ad 14))])) rfl (hb hby d1_15)
  obtain ⟨fs, hr, hrun, hended, hW, hsame⟩ := X3.leave (v := some (.int (1 : Int32))) (fun h => by rw [Bd.returns] at h; cases h)
  refine ⟨_, _, pre0 _ ?_, hrun, hended, _, _, rfl, ?_, ⟨_, rfl⟩, hW, hsame.mono (by decide) (by decide)⟩
  · show Steps p.tables e below (s₁.setTop (mkF m 0 #[.val (.ref (ad 14))] [])) _
    refine XS.aloadN X0.here hx rfl (hb hby d1_0) rfl rfl ?_
    show Steps p.tables e below (s₁.setTop (mkF m 1 #[.val (.ref (ad 14))] [(.ref (ad 14))])) _
    refine st1 _ ?_
    show Steps p.tables e below (T1.setTop (mkF m 4 #[.val (.ref (ad 14))] [(.ref (ad 12)), (.ref (ad 14))])) _
    refine acmp X1 hx rfl (x := (.ref (ad 14))) (y := (.ref (ad 12))) rfl rfl (pc0 := 4) (pc' := 7) (same := false) rfl (hb hby d1_4) rfl (decide_eq_false (fun h => (Fld.ne (ft_63 NF) (ft_61 NF) (by decide)) (Value.ref.inj h))) (by decide) (by decide) ?_
    show Steps p.tables e below (T1.setTop (mkF m 7 #[.val (.ref (ad 14))] [])) _
    refine XS.aloadN X1.here hx rfl (hb hby d1_7) rfl rfl ?_
    show Steps p.tables e below (T1.setTop (mkF m 8 #[.val (.ref (ad 14))] [(.ref (ad 14))])) _
    refine st2 _ ?_
    show Steps p.tables e below (T2.setTop (mkF m 11 #[.val (.ref (ad 14))] [(.ref (ad 13)), (.ref (ad 14))])) _
    refine acmp X2 hx rfl (x := (.ref (ad 14))) (y := (.ref (ad 13))) rfl rfl (pc0 := 11) (pc' := 14) (same := false) rfl (hb hby d1_11) rfl (decide_eq_false (fun h => (Fld.ne (ft_63 NF) (ft_62 NF) (by decide)) (Value.ref.inj h))) (by decide) (by decide) ?_
    show Steps p.tables e below (T2.setTop (mkF m 14 #[.val (.ref (ad 14))] [])) _
    refine XS.aloadN X2.here hx rfl (hb hby d1_14) rfl rfl ?_
    show Steps p.tables e below (T2.setTop (mkF m 15 #[.val (.ref (ad 14))] [(.ref (ad 14))])) _
    refine st3 _ ?_
    show Steps p.tables e below (T3.setTop (mkF m 18 #[.val (.ref (ad 14))] [(.ref (ad 14)), (.ref (ad 14))])) _
    refine acmp X3 hx rfl (x := (.ref (ad 14))) (y := (.ref (ad 14))) rfl rfl (pc0 := 18) (pc' := 28) (same := true) rfl (hb hby d1_18) rfl (decide_eq_true rfl) (by decide) (by decide) ?_
    show Steps p.tables e below (T3.setTop (mkF m 28 #[.val (.ref (ad 14))] [])) _
    refine XS.iconst X3.here hx rfl (hb hby d1_28) ?_
    show Steps p.tables e below (T3.setTop (mkF m 29 #[.val (.ref (ad 14))] [(.int (1 : Int32))])) _
    refine XS.goto X3.here hx rfl (pc0 := 29) (pc' := 33) rfl (hb hby d1_29) (by decide) (by decide) ?_
    show Steps p.tables e below (T3.setTop (mkF m 33 #[.val (.ref (ad 14))] [(.int (1 : Int32))])) _
    exact retN X3 hx (t := .boolean) Bd.returns (by simp) (hb hby d1_33) hr
  · exact ⟨rfl, N0, e3⟩
set_option maxRecDepth 65536 in
set_option maxHeartbeats 40000000 in
theorem rm0_14 (l : Launch) (Z : State) (a0 : Array Value) (hw : ∀ d ∈ tables_1, d.before a0 Z = true) (ws : List Jvm.Cond) (ad : Nat → Addr) (NF : Facts Z ad) (h0 : Heap) (n0 : Nat) (Ol : Old Z n0 h0) (p0 : Int32) (hi : (p0 &&& (2147483647 : Int32)) % (30 : Int32) = (14 : Int32)) :
    MetFree l x (head1 (Jvm.Cond.code x code maxLocals ret :: ws) room_1) (fun a U => a = #[(.int p0)] ∧ Z.Warmed39 U.vm ∧ U.heap = h0) (fun _ _ _ _ _ => True) (fun _ U o U' => ∃ v L, o = .returned v ∧ QL n0 v U'.heap L ∧ FrameEnd U o U' L room_1.cells room_1.slots) := by
  refine MetFree.of_bodySF (plainFor_of_name pn_0) hisR ?_
  intro p e s m args below meth c s₁ Bd hml0 hP hK
  obtain ⟨rfl, hZ, hh⟩ := hP
  have hx := Bd.exec
  have hby := Bd.bytes
  have hml : c.maxLocals = 5 := hml0
  have hown : s.vm.findClass "com/example/pivotlex/pivotlex/terminology/IssueCodeIsOfValueSetPinLaw" = some m.cls := findClass_of_methodNamed Bd.named
  have X0 : Stand p l e room_1 s m #[(.int p0)] below meth c s₁ [] 0 0 := Stand.of_body Bd
  have e0 : s₁.heap = h0 := by rw [← hh, Bd.state]; rfl
  have N0 := Fr.nil n0
  have pre0 : ∀ t, Steps p.tables e below (s₁.setTop (mkF m 0 #[.val (.int p0), .unset, .unset, .unset, .unset] [])) t → Steps p.tables e below (s₁.setTop (entryFrame m #[(.int p0)] maxLocals)) t := fun t k => castTop (ef_0_I m (p0)) k
  obtain ⟨T1, h1, Lc1, b1, k1, X1, e1, Ol1, K1, N1, V1, st1⟩ := fill hw ad NF h0 n0 Ol p0 X0 hx hZ hby hml hown e0
  obtain ⟨cl2, Ar2, q2, S2, M2, H2, G2⟩ := id V1
  have hin2 : ¬ ((14 : Int32) < 0 ∨ cl2.slots.size ≤ ((14 : Int32)).toNatClampNeg) := inb_of S2 ⟨by decide, by decide⟩
  have hat2 : cl2.slots[((14 : Int32)).toNatClampNeg]? = some (.ref (ad 14)) := Has.at H2 hin2 rfl
  obtain ⟨cq3, kq3, qa3, qb3, qc3⟩ := isOf hZ e1 ((ft_14 NF).ext Ol1.2)
  obtain ⟨_, _, ⟨T3, L3, k3, n3⟩, -, X3, ⟨Lc3, hQ3, l3, y3, z3⟩, st3⟩ := X1.virtualBack hx (y := (⟨"com/example/pivotlex/pivotlex/terminology/IssueCode", "isOfValueSet", "()Z"⟩ : MethodName)) (z := (⟨"com/example/pivotlex/pivotlex/terminology/IssueCode", "isOfValueSet", "()Z"⟩ : MethodName)) hown (mvT hZ (hw _ (List.mem_of_getElem? (i := 65) rfl))) (mvT hZ (hw _ (List.mem_of_getElem? (i := 66) rfl))) (notFace_of_selects (args := #[]) (mvT hZ (hw _ (List.mem_of_getElem? (i := 68) rfl)))) (mvT hZ (hw _ (List.mem_of_getElem? (i := 68) rfl))) (mvT hZ (hw _ (List.mem_of_getElem? (i := 67) rfl))) (by decide) (backOf (W := 0) (rm1_ad14 l Z a0 hw [] ad NF h1 n0 Ol1) hZ (hw _ (List.mem_of_getElem? (i := 69) rfl)) (hw _ (List.mem_of_getElem? (i := 3) rfl)) (by decide) (by decide)) qa3 qc3 (g := (mkF m 242 #[.val (.int p0), .val (.ref b1), .val (.int (14 : Int32)), .val (.ref (ad 14)), .val (.int (1 : Int32))] [(.ref (ad 14))])) rfl (by rw [hml]; rfl) (Steps.refl _) (argsL := []) (rest := []) (lenOf pd_1 rfl) rfl (by show 2 * 0 + _ ≤ _; exact Nat.le_of_eq rfl) (hb hby at_242) (fun _ _ => ⟨rfl, e1, (by decide : 1 + 0 ≤ _), (by decide : 30 + 0 ≤ _)⟩)
  dsimp only [Pt.U, Pt.locs, Pt.cells, Pt.slots] at X3 l3 y3 z3 st3 hQ3
  subst l3 y3 z3
  obtain ⟨rfl, Nq3, e3⟩ := hQ3
  have N3 := Fr.app N1 Nq3
  obtain ⟨fs, hr, hrun, hended, hW, hsame⟩ := X3.leave (v := some (.int (1 : Int32))) (fun h => by rw [Bd.returns] at h; cases h)
  refine ⟨_, _, pre0 _ ?_, hrun, hended, _, _, rfl, ?_, ⟨_, rfl⟩, hW, hsame.mono (by decide) (by decide)⟩
  · show Steps p.tables e below (s₁.setTop (mkF m 0 #[.val (.int p0), .unset, .unset, .unset, .unset] [])) _
    refine st1 _ ?_
    show Steps p.tables e below (T1.setTop (mkF m 210 #[.val (.int p0), .val (.ref b1), .unset, .unset, .unset] [])) _
    refine XS.iloadN X1.here hx rfl (hb hby at_210) rfl ?_
    show Steps p.tables e below (T1.setTop (mkF m 211 #[.val (.int p0), .val (.ref b1), .unset, .unset, .unset] [(.int p0)])) _
    refine X1.ldcInt hx hown (mvT hZ (hw _ (List.mem_of_getElem? (i := 64) rfl))) (g := (mkF m 211 #[.val (.int p0), .val (.ref b1), .unset, .unset, .unset] [(.int p0)])) rfl (hb hby at_211) _ ?_
    show Steps p.tables e below (T1.setTop (mkF m 213 #[.val (.int p0), .val (.ref b1), .unset, .unset, .unset] [(.int (2147483647 : Int32)), (.int p0)])) _
    refine XS.iand X1.here hx rfl (hb hby at_213) rfl ?_
    show Steps p.tables e below (T1.setTop (mkF m 214 #[.val (.int p0), .val (.ref b1), .unset, .unset, .unset] [(.int (p0 &&& (2147483647 : Int32)))])) _
    refine XS.bipush X1.here hx rfl (hb hby at_214) ?_
    show Steps p.tables e below (T1.setTop (mkF m 216 #[.val (.int p0), .val (.ref b1), .unset, .unset, .unset] [(.int (30 : Int32)), (.int (p0 &&& (2147483647 : Int32)))])) _
    refine iremM X1 hx rfl (hb hby at_216) rfl (by decide) ?_
    show Steps p.tables e below (T1.setTop (mkF m 217 #[.val (.int p0), .val (.ref b1), .unset, .unset, .unset] [(.int ((p0 &&& (2147483647 : Int32)) % (30 : Int32)))])) _
    rw [hi]
    show Steps p.tables e below (T1.setTop (mkF m 217 #[.val (.int p0), .val (.ref b1), .unset, .unset, .unset] [(.int (14 : Int32))])) _
    refine XS.istoreN X1.here hx rfl (hb hby at_217) rfl (l' := #[.val (.int p0), .val (.ref b1), .val (.int (14 : Int32)), .unset, .unset]) rfl ?_
    show Steps p.tables e below (T1.setTop (mkF m 218 #[.val (.int p0), .val (.ref b1), .val (.int (14 : Int32)), .unset, .unset] [])) _
    refine XS.aloadN X1.here hx rfl (hb hby at_218) rfl rfl ?_
    show Steps p.tables e below (T1.setTop (mkF m 219 #[.val (.int p0), .val (.ref b1), .val (.int (14 : Int32)), .unset, .unset] [(.ref b1)])) _
    refine XS.iloadN X1.here hx rfl (hb hby at_219) rfl ?_
    show Steps p.tables e below (T1.setTop (mkF m 220 #[.val (.int p0), .val (.ref b1), .val (.int (14 : Int32)), .unset, .unset] [(.int (14 : Int32)), (.ref b1)])) _
    refine X1.aaload hx (j := (14 : Int32)) (v := (.ref (ad 14))) (by rw [e1]; exact Ar2.1) (State.isArrayOf_alike hZ.alike Ar2.2.1) rfl Ar2.2.2 hin2 hat2 (g := (mkF m 220 #[.val (.int p0), .val (.ref b1), .val (.int (14 : Int32)), .unset, .unset] [(.int (14 : Int32)), (.ref b1)])) rfl rfl (hb hby at_220) _ ?_
    show Steps p.tables e below (T1.setTop (mkF m 221 #[.val (.int p0), .val (.ref b1), .val (.int (14 : Int32)), .unset, .unset] [(.ref (ad 14))])) _
    refine XS.astoreN X1.here hx rfl (hb hby at_221) rfl rfl (l' := #[.val (.int p0), .val (.ref b1), .val (.int (14 : Int32)), .val (.ref (ad 14)), .unset]) rfl ?_
    show Steps p.tables e below (T1.setTop (mkF m 222 #[.val (.int p0), .val (.ref b1), .val (.int (14 : Int32)), .val (.ref (ad 14)), .unset] [])) _
    refine XS.iloadN X1.here hx rfl (hb hby at_222) rfl ?_
    show Steps p.tables e below (T1.setTop (mkF m 223 #[.val (.int p0), .val (.ref b1), .val (.int (14 : Int32)), .val (.ref (ad 14)), .unset] [(.int (14 : Int32))])) _
    refine XS.bipush X1.here hx rfl (hb hby at_223) ?_
    show Steps p.tables e below (T1.setTop (mkF m 225 #[.val (.int p0), .val (.ref b1), .val (.int (14 : Int32)), .val (.ref (ad 14)), .unset] [(.int (12 : Int32)), (.int (14 : Int32))])) _
    refine XS.icmpNo X1.here hx rfl (hb hby at_225) rfl (flt (by decide)).1 ?_
    show Steps p.tables e below (T1.setTop (mkF m 228 #[.val (.int p0), .val (.ref b1), .val (.int (14 : Int32)), .val (.ref (ad 14)), .unset] [])) _
    refine XS.iloadN X1.here hx rfl (hb hby at_228) rfl ?_
    show Steps p.tables e below (T1.setTop (mkF m 229 #[.val (.int p0), .val (.ref b1), .val (.int (14 : Int32)), .val (.ref (ad 14)), .unset] [(.int (14 : Int32))])) _
    refine XS.bipush X1.here hx rfl (hb hby at_229) ?_
    show Steps p.tables e below (T1.setTop (mkF m 231 #[.val (.int p0), .val (.ref b1), .val (.int (14 : Int32)), .val (.ref (ad 14)), .unset] [(.int (15 : Int32)), (.int (14 : Int32))])) _
    refine XS.icmpNo X1.here hx rfl (hb hby at_231) rfl (flt (by decide)).2.2.1 ?_
    show Steps p.tables e below (T1.setTop (mkF m 234 #[.val (.int p0), .val (.ref b1), .val (.int (14 : Int32)), .val (.ref (ad 14)), .unset] [])) _
    refine XS.iconst X1.here hx rfl (hb hby at_234) ?_
    show Steps p.tables e below (T1.setTop (mkF m 235 #[.val (.int p0), .val (.ref b1), .val (.int (14 : Int32)), .val (.ref (ad 14)), .unset] [(.int (1 : Int32))])) _
    refine XS.goto X1.here hx rfl (pc0 := 235) (pc' := 239) rfl (hb hby at_235) (by decide) (by decide) ?_
    show Steps p.tables e below (T1.setTop (mkF m 239 #[.val (.int p0), .val (.ref b1), .val (.int (14 : Int32)), .val (.ref (ad 14)), .unset] [(.int (1 : Int32))])) _
    refine XS.istore X1.here hx rfl (hb hby at_239) rfl (l' := #[.val (.int p0), .val (.ref b1), .val (.int (14 : Int32)), .val (.ref (ad 14)), .val (.int (1 : Int32))]) rfl ?_
    show Steps p.tables e below (T1.setTop (mkF m 241 #[.val (.int p0), .val (.ref b1), .val (.int (14 : Int32)), .val (.ref (ad 14)), .val (.int (1 : Int32))] [])) _
    refine XS.aloadN X1.here hx rfl (hb hby at_241) rfl rfl ?_
    show Steps p.tables e below (T1.setTop (mkF m 242 #[.val (.int p0), .val (.ref b1), .val (.int (14 : Int32)), .val (.ref (ad 14)), .val (.int (1 : Int32))] [(.ref (ad 14))])) _
    refine st3.trans ?_
    show Steps p.tables e below (T3.setTop (mkF m 245 #[.val (.int p0), .val (.ref b1), .val (.int (14 : Int32)), .val (.ref (ad 14)), .val (.int (1 : Int32))] [(.int (1 : Int32))])) _
    refine XS.iload X3.here hx rfl (hb hby at_245) rfl ?_
    show Steps p.tables e below (T3.setTop (mkF m 247 #[.val (.int p0), .val (.ref b1), .val (.int (14 : Int32)), .val (.ref (ad 14)), .val (.int (1 : Int32))] [(.int (1 : Int32)), (.int (1 : Int32))])) _
    refine XS.icmpNo X3.here hx rfl (hb hby at_247) rfl (teq (by decide)).2 ?_
    show Steps p.tables e below (T3.setTop (mkF m 250 #[.val (.int p0), .val (.ref b1), .val (.int (14 : Int32)), .val (.ref (ad 14)), .val (.int (1 : Int32))] [])) _
    refine XS.iconst X3.here hx rfl (hb hby at_250) ?_
    show Steps p.tables e below (T3.setTop (mkF m 251 #[.val (.int p0), .val (.ref b1), .val (.int (14 : Int32)), .val (.ref (ad 14)), .val (.int (1 : Int32))] [(.int (1 : Int32))])) _
    refine XS.goto X3.here hx rfl (pc0 := 251) (pc' := 255) rfl (hb hby at_251) (by decide) (by decide) ?_
    show Steps p.tables e below (T3.setTop (mkF m 255 #[.val (.int p0), .val (.ref b1), .val (.int (14 : Int32)), .val (.ref (ad 14)), .val (.int (1 : Int32))] [(.int (1 : Int32))])) _
    exact retN X3 hx (t := .boolean) Bd.returns (by simp) (hb hby at_255) hr
  · exact ⟨rfl, N3⟩
set_option maxRecDepth 65536 in
set_option maxHeartbeats 40000000 in
theorem rm1_ad15 (l : Launch) (Z : State) (a0 : Array Value) (hw : ∀ d ∈ tables_1, d.before a0 Z = true) (ws : List Jvm.Cond) (ad : Nat → Addr) (NF : Facts Z ad) (h0 : Heap) (n0 : Nat) (Ol : Old Z n0 h0) :
    MetFree l (⟨"com/example/pivotlex/pivotlex/terminology/IssueCode", "isOfValueSet", "()Z"⟩ : MethodName) (head1 (Jvm.Cond.code (⟨"com/example/pivotlex/pivotlex/terminology/IssueCode", "isOfValueSet", "()Z"⟩ : MethodName) prog_80_method_4_code 1 (some .boolean) :: ws) ({ frames := 0, cells := 0, slots := 0, locals := 0 } : Room)) (fun a U => a = #[(.ref (ad 15))] ∧ Z.Warmed39 U.vm ∧ U.heap = h0) (fun _ _ _ _ _ => True) (fun _ U o U' => ∃ v L, o = .returned v ∧ QS (.int (1 : Int32)) h0 n0 v U'.heap L ∧ FrameEnd U o U' L ({ frames := 0, cells := 0, slots := 0, locals := 0 } : Room).cells ({ frames := 0, cells := 0, slots := 0, locals := 0 } : Room).slots) := by
  refine MetFree.of_bodySF (plainFor_of_name pn_1) hisR ?_
  intro p e s m args below meth c s₁ Bd hml0 hP hK
  obtain ⟨rfl, hZ, hh⟩ := hP
  have hx := Bd.exec
  have hby := Bd.bytes
  have hml : c.maxLocals = 1 := hml0
  have hown : s.vm.findClass "com/example/pivotlex/pivotlex/terminology/IssueCode" = some m.cls := findClass_of_methodNamed Bd.named
  have X0 : Stand p l e ({ frames := 0, cells := 0, slots := 0, locals := 0 } : Room) s m #[(.ref (ad 15))] below meth c s₁ [] 0 0 := Stand.of_body Bd
  have e0 : s₁.heap = h0 := by rw [← hh, Bd.state]; rfl
  have N0 := Fr.nil n0
  have pre0 : ∀ t, Steps p.tables e below (s₁.setTop (mkF m 0 #[.val (.ref (ad 15))] [])) t → Steps p.tables e below (s₁.setTop (entryFrame m #[(.ref (ad 15))] 1)) t := fun t k => castTop (ef_1_R m (ad 15)) k
  obtain ⟨T1, X1, e1, st1⟩ := getS2 X0 hx hZ hown (host := "") (Or.inl (hw _ (List.mem_of_getElem? (i := 70) rfl))) Via.refl e0 ((ft_42 NF).ext Ol.2) (g := (mkF m 1 #[.val (.ref (ad 15))] [(.ref (ad 15))])) rfl (hb hby d1_1)
  obtain ⟨T2, X2, e2, st2⟩ := getS2 X1 hx hZ hown (host := "") (Or.inl (hw _ (List.mem_of_getElem? (i := 71) rfl))) Via.refl e1 ((ft_43 NF).ext Ol.2) (g := (mkF m 8 #[.val (.ref (ad 15))] [(.ref (ad 15))])) rfl (hb hby d1_8)
  obtain ⟨T3, X3, e3, st3⟩ := getS2 X2 hx hZ hown (host := "") (Or.inl (hw _ (List.mem_of_getElem? (i := 72) rfl))) Via.refl e2 ((ft_44 NF).ext Ol.2) (g := (mkF m 15 #[.val (.ref (ad 15))] [(.ref (ad 15))])) rfl (hb hby d1_15)
  obtain ⟨T4, X4, e4, st4⟩ := getS2 X3 hx hZ hown (host := "") (Or.inl (hw _ (List.mem_of_getElem? (i := 73) rfl))) Via.refl e3 ((ft_45 NF).ext Ol.2) (g := (mkF m 22 #[.val (.ref (ad 15))] [(.ref (ad 15))])) rfl (hb hby d1_22)
  obtain ⟨fs, hr, hrun, hended, hW, hsame⟩ := X4.leave (v := some (.int (1 : Int32))) (fun h => by rw [Bd.returns] at h; cases h)
  refine ⟨_, _, pre0 _ ?_, hrun, hended, _, _, rfl, ?_, ⟨_, rfl⟩, hW, hsame.mono (by decide) (by decide)⟩
  · show Steps p.tables e below (s₁.setTop (mkF m 0 #[.val (.ref (ad 15))] [])) _
    refine XS.aloadN X0.here hx rfl (hb hby d1_0) rfl rfl ?_
    show Steps p.tables e below (s₁.setTop (mkF m 1 #[.val (.ref (ad 15))] [(.ref (ad 15))])) _
    refine st1 _ ?_
    show Steps p.tables e below (T1.setTop (mkF m 4 #[.val (.ref (ad 15))] [(.ref (ad 12)), (.ref (ad 15))])) _
    refine acmp X1 hx rfl (x := (.ref (ad 15))) (y := (.ref (ad 12))) rfl rfl (pc0 := 4) (pc' := 7) (same := false) rfl (hb hby d1_4) rfl (decide_eq_false (fun h => (Fld.ne (ft_64 NF) (ft_61 NF) (by decide)) (Value.ref.inj h))) (by decide) (by decide) ?_
    show Steps p.tables e below (T1.setTop (mkF m 7 #[.val (.ref (ad 15))] [])) _
    refine XS.aloadN X1.here hx rfl (hb hby d1_7) rfl rfl ?_
    show Steps p.tables e below (T1.setTop (mkF m 8 #[.val (.ref (ad 15))] [(.ref (ad 15))])) _
    refine st2 _ ?_
    show Steps p.tables e below (T2.setTop (mkF m 11 #[.val (.ref (ad 15))] [(.ref (ad 13)), (.ref (ad 15))])) _
    refine acmp X2 hx rfl (x := (.ref (ad 15))) (y := (.ref (ad 13))) rfl rfl (pc0 := 11) (pc' := 14) (same := false) rfl (hb hby d1_11) rfl (decide_eq_false (fun h => (Fld.ne (ft_64 NF) (ft_62 NF) (by decide)) (Value.ref.inj h))) (by decide) (by decide) ?_
    show Steps p.tables e below (T2.setTop (mkF m 14 #[.val (.ref (ad 15))] [])) _
    refine XS.aloadN X2.here hx rfl (hb hby d1_14) rfl rfl ?_
    show Steps p.tables e below (T2.setTop (mkF m 15 #[.val (.ref (ad 15))] [(.ref (ad 15))])) _
    refine st3 _ ?_
    show Steps p.tables e below (T3.setTop (mkF m 18 #[.val (.ref (ad 15))] [(.ref (ad 14)), (.ref (ad 15))])) _
    refine acmp X3 hx rfl (x := (.ref (ad 15))) (y := (.ref (ad 14))) rfl rfl (pc0 := 18) (pc' := 21) (same := false) rfl (hb hby d1_18) rfl (decide_eq_false (fun h => (Fld.ne (ft_64 NF) (ft_63 NF) (by decide)) (Value.ref.inj h))) (by decide) (by decide) ?_
    show Steps p.tables e below (T3.setTop (mkF m 21 #[.val (.ref (ad 15))] [])) _
    refine XS.aloadN X3.here hx rfl (hb hby d1_21) rfl rfl ?_
    show Steps p.tables e below (T3.setTop (mkF m 22 #[.val (.ref (ad 15))] [(.ref (ad 15))])) _
    refine st4 _ ?_
    show Steps p.tables e below (T4.setTop (mkF m 25 #[.val (.ref (ad 15))] [(.ref (ad 15)), (.ref (ad 15))])) _
    refine acmp X4 hx rfl (x := (.ref (ad 15))) (y := (.ref (ad 15))) rfl rfl (pc0 := 25) (pc' := 28) (same := true) rfl (hb hby d1_25) rfl (decide_eq_true rfl) (by decide) (by decide) ?_
    show Steps p.tables e below (T4.setTop (mkF m 28 #[.val (.ref (ad 15))] [])) _
    refine XS.iconst X4.here hx rfl (hb hby d1_28) ?_
    show Steps p.tables e below (T4.setTop (mkF m 29 #[.val (.ref (ad 15))] [(.int (1 : Int32))])) _
    refine XS.goto X4.here hx rfl (pc0 := 29) (pc' := 33) rfl (hb hby d1_29) (by decide) (by decide) ?_
    show Steps p.tables e below (T4.setTop (mkF m 33 #[.val (.ref (ad 15))] [(.int (1 : Int32))])) _
    exact retN X4 hx (t := .boolean) Bd.returns (by simp) (hb hby d1_33) hr
  · exact ⟨rfl, N0, e4⟩
set_option maxRecDepth 65536 in
set_option maxHeartbeats 40000000 in
theorem rm0_15 (l : Launch) (Z : State) (a0 : Array Value) (hw : ∀ d ∈ tables_1, d.before a0 Z = true) (ws : List Jvm.Cond) (ad : Nat → Addr) (NF : Facts Z ad) (h0 : Heap) (n0 : Nat) (Ol : Old Z n0 h0) (p0 : Int32) (hi : (p0 &&& (2147483647 : Int32)) % (30 : Int32) = (15 : Int32)) :
    MetFree l x (head1 (Jvm.Cond.code x code maxLocals ret :: ws) room_1) (fun a U => a = #[(.int p0)] ∧ Z.Warmed39 U.vm ∧ U.heap = h0) (fun _ _ _ _ _ => True) (fun _ U o U' => ∃ v L, o = .returned v ∧ QL n0 v U'.heap L ∧ FrameEnd U o U' L room_1.cells room_1.slots) := by
  refine MetFree.of_bodySF (plainFor_of_name pn_0) hisR ?_
  intro p e s m args below meth c s₁ Bd hml0 hP hK
  obtain ⟨rfl, hZ, hh⟩ := hP
  have hx := Bd.exec
  have hby := Bd.bytes
  have hml : c.maxLocals = 5 := hml0
  have hown : s.vm.findClass "com/example/pivotlex/pivotlex/terminology/IssueCodeIsOfValueSetPinLaw" = some m.cls := findClass_of_methodNamed Bd.named
  have X0 : Stand p l e room_1 s m #[(.int p0)] below meth c s₁ [] 0 0 := Stand.of_body Bd
  have e0 : s₁.heap = h0 := by rw [← hh, Bd.state]; rfl
  have N0 := Fr.nil n0
  have pre0 : ∀ t, Steps p.tables e below (s₁.setTop (mkF m 0 #[.val (.int p0), .unset, .unset, .unset, .unset] [])) t → Steps p.tables e below (s₁.setTop (entryFrame m #[(.int p0)] maxLocals)) t := fun t k => castTop (ef_0_I m (p0)) k
  obtain ⟨T1, h1, Lc1, b1, k1, X1, e1, Ol1, K1, N1, V1, st1⟩ := fill hw ad NF h0 n0 Ol p0 X0 hx hZ hby hml hown e0
  obtain ⟨cl2, Ar2, q2, S2, M2, H2, G2⟩ := id V1
  have hin2 : ¬ ((15 : Int32) < 0 ∨ cl2.slots.size ≤ ((15 : Int32)).toNatClampNeg) := inb_of S2 ⟨by decide, by decide⟩
  have hat2 : cl2.slots[((15 : Int32)).toNatClampNeg]? = some (.ref (ad 15)) := Has.at H2 hin2 rfl
  obtain ⟨cq3, kq3, qa3, qb3, qc3⟩ := isOf hZ e1 ((ft_15 NF).ext Ol1.2)
  obtain ⟨_, _, ⟨T3, L3, k3, n3⟩, -, X3, ⟨Lc3, hQ3, l3, y3, z3⟩, st3⟩ := X1.virtualBack hx (y := (⟨"com/example/pivotlex/pivotlex/terminology/IssueCode", "isOfValueSet", "()Z"⟩ : MethodName)) (z := (⟨"com/example/pivotlex/pivotlex/terminology/IssueCode", "isOfValueSet", "()Z"⟩ : MethodName)) hown (mvT hZ (hw _ (List.mem_of_getElem? (i := 65) rfl))) (mvT hZ (hw _ (List.mem_of_getElem? (i := 66) rfl))) (notFace_of_selects (args := #[]) (mvT hZ (hw _ (List.mem_of_getElem? (i := 68) rfl)))) (mvT hZ (hw _ (List.mem_of_getElem? (i := 68) rfl))) (mvT hZ (hw _ (List.mem_of_getElem? (i := 67) rfl))) (by decide) (backOf (W := 0) (rm1_ad15 l Z a0 hw [] ad NF h1 n0 Ol1) hZ (hw _ (List.mem_of_getElem? (i := 69) rfl)) (hw _ (List.mem_of_getElem? (i := 3) rfl)) (by decide) (by decide)) qa3 qc3 (g := (mkF m 242 #[.val (.int p0), .val (.ref b1), .val (.int (15 : Int32)), .val (.ref (ad 15)), .val (.int (1 : Int32))] [(.ref (ad 15))])) rfl (by rw [hml]; rfl) (Steps.refl _) (argsL := []) (rest := []) (lenOf pd_1 rfl) rfl (by show 2 * 0 + _ ≤ _; exact Nat.le_of_eq rfl) (hb hby at_242) (fun _ _ => ⟨rfl, e1, (by decide : 1 + 0 ≤ _), (by decide : 30 + 0 ≤ _)⟩)
  dsimp only [Pt.U, Pt.locs, Pt.cells, Pt.slots] at X3 l3 y3 z3 st3 hQ3
  subst l3 y3 z3
  obtain ⟨rfl, Nq3, e3⟩ := hQ3
  have N3 := Fr.app N1 Nq3
  obtain ⟨fs, hr, hrun, hended, hW, hsame⟩ := X3.leave (v := some (.int (1 : Int32))) (fun h => by rw [Bd.returns] at h; cases h)
  refine ⟨_, _, pre0 _ ?_, hrun, hended, _, _, rfl, ?_, ⟨_, rfl⟩, hW, hsame.mono (by decide) (by decide)⟩
  · show Steps p.tables e below (s₁.setTop (mkF m 0 #[.val (.int p0), .unset, .unset, .unset, .unset] [])) _
    refine st1 _ ?_
    show Steps p.tables e below (T1.setTop (mkF m 210 #[.val (.int p0), .val (.ref b1), .unset, .unset, .unset] [])) _
    refine XS.iloadN X1.here hx rfl (hb hby at_210) rfl ?_
    show Steps p.tables e below (T1.setTop (mkF m 211 #[.val (.int p0), .val (.ref b1), .unset, .unset, .unset] [(.int p0)])) _
    refine X1.ldcInt hx hown (mvT hZ (hw _ (List.mem_of_getElem? (i := 64) rfl))) (g := (mkF m 211 #[.val (.int p0), .val (.ref b1), .unset, .unset, .unset] [(.int p0)])) rfl (hb hby at_211) _ ?_
    show Steps p.tables e below (T1.setTop (mkF m 213 #[.val (.int p0), .val (.ref b1), .unset, .unset, .unset] [(.int (2147483647 : Int32)), (.int p0)])) _
    refine XS.iand X1.here hx rfl (hb hby at_213) rfl ?_
    show Steps p.tables e below (T1.setTop (mkF m 214 #[.val (.int p0), .val (.ref b1), .unset, .unset, .unset] [(.int (p0 &&& (2147483647 : Int32)))])) _
    refine XS.bipush X1.here hx rfl (hb hby at_214) ?_
    show Steps p.tables e below (T1.setTop (mkF m 216 #[.val (.int p0), .val (.ref b1), .unset, .unset, .unset] [(.int (30 : Int32)), (.int (p0 &&& (2147483647 : Int32)))])) _
    refine iremM X1 hx rfl (hb hby at_216) rfl (by decide) ?_
    show Steps p.tables e below (T1.setTop (mkF m 217 #[.val (.int p0), .val (.ref b1), .unset, .unset, .unset] [(.int ((p0 &&& (2147483647 : Int32)) % (30 : Int32)))])) _
    rw [hi]
    show Steps p.tables e below (T1.setTop (mkF m 217 #[.val (.int p0), .val (.ref b1), .unset, .unset, .unset] [(.int (15 : Int32))])) _
    refine XS.istoreN X1.here hx rfl (hb hby at_217) rfl (l' := #[.val (.int p0), .val (.ref b1), .val (.int (15 : Int32)), .unset, .unset]) rfl ?_
    show Steps p.tables e below (T1.setTop (mkF m 218 #[.val (.int p0), .val (.ref b1), .val (.int (15 : Int32)), .unset, .unset] [])) _
    refine XS.aloadN X1.here hx rfl (hb hby at_218) rfl rfl ?_
    show Steps p.tables e below (T1.setTop (mkF m 219 #[.val (.int p0), .val (.ref b1), .val (.int (15 : Int32)), .unset, .unset] [(.ref b1)])) _
    refine XS.iloadN X1.here hx rfl (hb hby at_219) rfl ?_
    show Steps p.tables e below (T1.setTop (mkF m 220 #[.val (.int p0), .val (.ref b1), .val (.int (15 : Int32)), .unset, .unset] [(.int (15 : Int32)), (.ref b1)])) _
    refine X1.aaload hx (j := (15 : Int32)) (v := (.ref (ad 15))) (by rw [e1]; exact Ar2.1) (State.isArrayOf_alike hZ.alike Ar2.2.1) rfl Ar2.2.2 hin2 hat2 (g := (mkF m 220 #[.val (.int p0), .val (.ref b1), .val (.int (15 : Int32)), .unset, .unset] [(.int (15 : Int32)), (.ref b1)])) rfl rfl (hb hby at_220) _ ?_
    show Steps p.tables e below (T1.setTop (mkF m 221 #[.val (.int p0), .val (.ref b1), .val (.int (15 : Int32)), .unset, .unset] [(.ref (ad 15))])) _
    refine XS.astoreN X1.here hx rfl (hb hby at_221) rfl rfl (l' := #[.val (.int p0), .val (.ref b1), .val (.int (15 : Int32)), .val (.ref (ad 15)), .unset]) rfl ?_
    show Steps p.tables e below (T1.setTop (mkF m 222 #[.val (.int p0), .val (.ref b1), .val (.int (15 : Int32)), .val (.ref (ad 15)), .unset] [])) _
    refine XS.iloadN X1.here hx rfl (hb hby at_222) rfl ?_
    show Steps p.tables e below (T1.setTop (mkF m 223 #[.val (.int p0), .val (.ref b1), .val (.int (15 : Int32)), .val (.ref (ad 15)), .unset] [(.int (15 : Int32))])) _
    refine XS.bipush X1.here hx rfl (hb hby at_223) ?_
    show Steps p.tables e below (T1.setTop (mkF m 225 #[.val (.int p0), .val (.ref b1), .val (.int (15 : Int32)), .val (.ref (ad 15)), .unset] [(.int (12 : Int32)), (.int (15 : Int32))])) _
    refine XS.icmpNo X1.here hx rfl (hb hby at_225) rfl (flt (by decide)).1 ?_
    show Steps p.tables e below (T1.setTop (mkF m 228 #[.val (.int p0), .val (.ref b1), .val (.int (15 : Int32)), .val (.ref (ad 15)), .unset] [])) _
    refine XS.iloadN X1.here hx rfl (hb hby at_228) rfl ?_
    show Steps p.tables e below (T1.setTop (mkF m 229 #[.val (.int p0), .val (.ref b1), .val (.int (15 : Int32)), .val (.ref (ad 15)), .unset] [(.int (15 : Int32))])) _
    refine XS.bipush X1.here hx rfl (hb hby at_229) ?_
    show Steps p.tables e below (T1.setTop (mkF m 231 #[.val (.int p0), .val (.ref b1), .val (.int (15 : Int32)), .val (.ref (ad 15)), .unset] [(.int (15 : Int32)), (.int (15 : Int32))])) _
    refine XS.icmpNo X1.here hx rfl (hb hby at_231) rfl (flt (by decide)).2.2.1 ?_
    show Steps p.tables e below (T1.setTop (mkF m 234 #[.val (.int p0), .val (.ref b1), .val (.int (15 : Int32)), .val (.ref (ad 15)), .unset] [])) _
    refine XS.iconst X1.here hx rfl (hb hby at_234) ?_
    show Steps p.tables e below (T1.setTop (mkF m 235 #[.val (.int p0), .val (.ref b1), .val (.int (15 : Int32)), .val (.ref (ad 15)), .unset] [(.int (1 : Int32))])) _
    refine XS.goto X1.here hx rfl (pc0 := 235) (pc' := 239) rfl (hb hby at_235) (by decide) (by decide) ?_
    show Steps p.tables e below (T1.setTop (mkF m 239 #[.val (.int p0), .val (.ref b1), .val (.int (15 : Int32)), .val (.ref (ad 15)), .unset] [(.int (1 : Int32))])) _
    refine XS.istore X1.here hx rfl (hb hby at_239) rfl (l' := #[.val (.int p0), .val (.ref b1), .val (.int (15 : Int32)), .val (.ref (ad 15)), .val (.int (1 : Int32))]) rfl ?_
    show Steps p.tables e below (T1.setTop (mkF m 241 #[.val (.int p0), .val (.ref b1), .val (.int (15 : Int32)), .val (.ref (ad 15)), .val (.int (1 : Int32))] [])) _
    refine XS.aloadN X1.here hx rfl (hb hby at_241) rfl rfl ?_
    show Steps p.tables e below (T1.setTop (mkF m 242 #[.val (.int p0), .val (.ref b1), .val (.int (15 : Int32)), .val (.ref (ad 15)), .val (.int (1 : Int32))] [(.ref (ad 15))])) _
    refine st3.trans ?_
    show Steps p.tables e below (T3.setTop (mkF m 245 #[.val (.int p0), .val (.ref b1), .val (.int (15 : Int32)), .val (.ref (ad 15)), .val (.int (1 : Int32))] [(.int (1 : Int32))])) _
    refine XS.iload X3.here hx rfl (hb hby at_245) rfl ?_
    show Steps p.tables e below (T3.setTop (mkF m 247 #[.val (.int p0), .val (.ref b1), .val (.int (15 : Int32)), .val (.ref (ad 15)), .val (.int (1 : Int32))] [(.int (1 : Int32)), (.int (1 : Int32))])) _
    refine XS.icmpNo X3.here hx rfl (hb hby at_247) rfl (teq (by decide)).2 ?_
    show Steps p.tables e below (T3.setTop (mkF m 250 #[.val (.int p0), .val (.ref b1), .val (.int (15 : Int32)), .val (.ref (ad 15)), .val (.int (1 : Int32))] [])) _
    refine XS.iconst X3.here hx rfl (hb hby at_250) ?_
    show Steps p.tables e below (T3.setTop (mkF m 251 #[.val (.int p0), .val (.ref b1), .val (.int (15 : Int32)), .val (.ref (ad 15)), .val (.int (1 : Int32))] [(.int (1 : Int32))])) _
    refine XS.goto X3.here hx rfl (pc0 := 251) (pc' := 255) rfl (hb hby at_251) (by decide) (by decide) ?_
    show Steps p.tables e below (T3.setTop (mkF m 255 #[.val (.int p0), .val (.ref b1), .val (.int (15 : Int32)), .val (.ref (ad 15)), .val (.int (1 : Int32))] [(.int (1 : Int32))])) _
    exact retN X3 hx (t := .boolean) Bd.returns (by simp) (hb hby at_255) hr
  · exact ⟨rfl, N3⟩
set_option maxRecDepth 65536 in
set_option maxHeartbeats 40000000 in
theorem rm1_ad16 (l : Launch) (Z : State) (a0 : Array Value) (hw : ∀ d ∈ tables_1, d.before a0 Z = true) (ws : List Jvm.Cond) (ad : Nat → Addr) (NF : Facts Z ad) (h0 : Heap) (n0 : Nat) (Ol : Old Z n0 h0) :
    MetFree l (⟨"com/example/pivotlex/pivotlex/terminology/IssueCode", "isOfValueSet", "()Z"⟩ : MethodName) (head1 (Jvm.Cond.code (⟨"com/example/pivotlex/pivotlex/terminology/IssueCode", "isOfValueSet", "()Z"⟩ : MethodName) prog_80_method_4_code 1 (some .boolean) :: ws) ({ frames := 0, cells := 0, slots := 0, locals := 0 } : Room)) (fun a U => a = #[(.ref (ad 16))] ∧ Z.Warmed39 U.vm ∧ U.heap = h0) (fun _ _ _ _ _ => True) (fun _ U o U' => ∃ v L, o = .returned v ∧ QS (.int (0 : Int32)) h0 n0 v U'.heap L ∧ FrameEnd U o U' L ({ frames := 0, cells := 0, slots := 0, locals := 0 } : Room).cells ({ frames := 0, cells := 0, slots := 0, locals := 0 } : Room).slots) := by
  refine MetFree.of_bodySF (plainFor_of_name pn_1) hisR ?_
  intro p e s m args below meth c s₁ Bd hml0 hP hK
  obtain ⟨rfl, hZ, hh⟩ := hP
  have hx := Bd.exec
  have hby := Bd.bytes
  have hml : c.maxLocals = 1 := hml0
  have hown : s.vm.findClass "com/example/pivotlex/pivotlex/terminology/IssueCode" = some m.cls := findClass_of_methodNamed Bd.named
  have X0 : Stand p l e ({ frames := 0, cells := 0, slots := 0, locals := 0 } : Room) s m #[(.ref (ad 16))] below meth c s₁ [] 0 0 := Stand.of_body Bd
  have e0 : s₁.heap = h0 := by rw [← hh, Bd.state]; rfl
  have N0 := Fr.nil n0
  have pre0 : ∀ t, Steps p.tables e below (s₁.setTop (mkF m 0 #[.val (.ref (ad 16))] [])) t → Steps p.tables e below (s₁.setTop (entryFrame m #[(.ref (ad 16))] 1)) t := fun t k => castTop (ef_1_R m (ad 16)) k
  obtain ⟨T1, X1, e1, st1⟩ := getS2 X0 hx hZ hown (host := "") (Or.inl (hw _ (List.mem_of_getElem? (i := 70) rfl))) Via.refl e0 ((ft_42 NF).ext Ol.2) (g := (mkF m 1 #[.val (.ref (ad 16))] [(.ref (ad 16))])) rfl (hb hby d1_1)
  obtain ⟨T2, X2, e2, st2⟩ := getS2 X1 hx hZ hown (host := "") (Or.inl (hw _ (List.mem_of_getElem? (i := 71) rfl))) Via.refl e1 ((ft_43 NF).ext Ol.2) (g := (mkF m 8 #[.val (.ref (ad 16))] [(.ref (ad 16))])) rfl (hb hby d1_8)
  obtain ⟨T3, X3, e3, st3⟩ := getS2 X2 hx hZ hown (host := "") (Or.inl (hw _ (List.mem_of_getElem? (i := 72) rfl))) Via.refl e2 ((ft_44 NF).ext Ol.2) (g := (mkF m 15 #[.val (.ref (ad 16))] [(.ref (ad 16))])) rfl (hb hby d1_15)
  obtain ⟨T4, X4, e4, st4⟩ := getS2 X3 hx hZ hown (host := "") (Or.inl (hw _ (List.mem_of_getElem? (i := 73) rfl))) Via.refl e3 ((ft_45 NF).ext Ol.2) (g := (mkF m 22 #[.val (.ref (ad 16))] [(.ref (ad 16))])) rfl (hb hby d1_22)
  obtain ⟨fs, hr, hrun, hended, hW, hsame⟩ := X4.leave (v := some (.int (0 : Int32))) (fun h => by rw [Bd.returns] at h; cases h)
  refine ⟨_, _, pre0 _ ?_, hrun, hended, _, _, rfl, ?_, ⟨_, rfl⟩, hW, hsame.mono (by decide) (by decide)⟩
  · show Steps p.tables e below (s₁.setTop (mkF m 0 #[.val (.ref (ad 16))] [])) _
    refine XS.aloadN X0.here hx rfl (hb hby d1_0) rfl rfl ?_
    show Steps p.tables e below (s₁.setTop (mkF m 1 #[.val (.ref (ad 16))] [(.ref (ad 16))])) _
    refine st1 _ ?_
    show Steps p.tables e below (T1.setTop (mkF m 4 #[.val (.ref (ad 16))] [(.ref (ad 12)), (.ref (ad 16))])) _
    refine acmp X1 hx rfl (x := (.ref (ad 16))) (y := (.ref (ad 12))) rfl rfl (pc0 := 4) (pc' := 7) (same := false) rfl (hb hby d1_4) rfl (decide_eq_false (fun h => (Fld.ne (ft_76 NF) (ft_61 NF) (by decide)) (Value.ref.inj h))) (by decide) (by decide) ?_
    show Steps p.tables e below (T1.setTop (mkF m 7 #[.val (.ref (ad 16))] [])) _
    refine XS.aloadN X1.here hx rfl (hb hby d1_7) rfl rfl ?_
    show Steps p.tables e below (T1.setTop (mkF m 8 #[.val (.ref (ad 16))] [(.ref (ad 16))])) _
    refine st2 _ ?_
    show Steps p.tables e below (T2.setTop (mkF m 11 #[.val (.ref (ad 16))] [(.ref (ad 13)), (.ref (ad 16))])) _
    refine acmp X2 hx rfl (x := (.ref (ad 16))) (y := (.ref (ad 13))) rfl rfl (pc0 := 11) (pc' := 14) (same := false) rfl (hb hby d1_11) rfl (decide_eq_false (fun h => (Fld.ne (ft_76 NF) (ft_62 NF) (by decide)) (Value.ref.inj h))) (by decide) (by decide) ?_
    show Steps p.tables e below (T2.setTop (mkF m 14 #[.val (.ref (ad 16))] [])) _
    refine XS.aloadN X2.here hx rfl (hb hby d1_14) rfl rfl ?_
    show Steps p.tables e below (T2.setTop (mkF m 15 #[.val (.ref (ad 16))] [(.ref (ad 16))])) _
    refine st3 _ ?_
    show Steps p.tables e below (T3.setTop (mkF m 18 #[.val (.ref (ad 16))] [(.ref (ad 14)), (.ref (ad 16))])) _
    refine acmp X3 hx rfl (x := (.ref (ad 16))) (y := (.ref (ad 14))) rfl rfl (pc0 := 18) (pc' := 21) (same := false) rfl (hb hby d1_18) rfl (decide_eq_false (fun h => (Fld.ne (ft_76 NF) (ft_63 NF) (by decide)) (Value.ref.inj h))) (by decide) (by decide) ?_
    show Steps p.tables e below (T3.setTop (mkF m 21 #[.val (.ref (ad 16))] [])) _
    refine XS.aloadN X3.here hx rfl (hb hby d1_21) rfl rfl ?_
    show Steps p.tables e below (T3.setTop (mkF m 22 #[.val (.ref (ad 16))] [(.ref (ad 16))])) _
    refine st4 _ ?_
    show Steps p.tables e below (T4.setTop (mkF m 25 #[.val (.ref (ad 16))] [(.ref (ad 15)), (.ref (ad 16))])) _
    refine acmp X4 hx rfl (x := (.ref (ad 16))) (y := (.ref (ad 15))) rfl rfl (pc0 := 25) (pc' := 32) (same := false) rfl (hb hby d1_25) rfl (decide_eq_false (fun h => (Fld.ne (ft_76 NF) (ft_64 NF) (by decide)) (Value.ref.inj h))) (by decide) (by decide) ?_
    show Steps p.tables e below (T4.setTop (mkF m 32 #[.val (.ref (ad 16))] [])) _
    refine XS.iconst X4.here hx rfl (hb hby d1_32) ?_
    show Steps p.tables e below (T4.setTop (mkF m 33 #[.val (.ref (ad 16))] [(.int (0 : Int32))])) _
    exact retN X4 hx (t := .boolean) Bd.returns (by simp) (hb hby d1_33) hr
  · exact ⟨rfl, N0, e4⟩
set_option maxRecDepth 65536 in
set_option maxHeartbeats 40000000 in
theorem rm0_16 (l : Launch) (Z : State) (a0 : Array Value) (hw : ∀ d ∈ tables_1, d.before a0 Z = true) (ws : List Jvm.Cond) (ad : Nat → Addr) (NF : Facts Z ad) (h0 : Heap) (n0 : Nat) (Ol : Old Z n0 h0) (p0 : Int32) (hi : (p0 &&& (2147483647 : Int32)) % (30 : Int32) = (16 : Int32)) :
    MetFree l x (head1 (Jvm.Cond.code x code maxLocals ret :: ws) room_1) (fun a U => a = #[(.int p0)] ∧ Z.Warmed39 U.vm ∧ U.heap = h0) (fun _ _ _ _ _ => True) (fun _ U o U' => ∃ v L, o = .returned v ∧ QL n0 v U'.heap L ∧ FrameEnd U o U' L room_1.cells room_1.slots) := by
  refine MetFree.of_bodySF (plainFor_of_name pn_0) hisR ?_
  intro p e s m args below meth c s₁ Bd hml0 hP hK
  obtain ⟨rfl, hZ, hh⟩ := hP
  have hx := Bd.exec
  have hby := Bd.bytes
  have hml : c.maxLocals = 5 := hml0
  have hown : s.vm.findClass "com/example/pivotlex/pivotlex/terminology/IssueCodeIsOfValueSetPinLaw" = some m.cls := findClass_of_methodNamed Bd.named
  have X0 : Stand p l e room_1 s m #[(.int p0)] below meth c s₁ [] 0 0 := Stand.of_body Bd
  have e0 : s₁.heap = h0 := by rw [← hh, Bd.state]; rfl
  have N0 := Fr.nil n0
  have pre0 : ∀ t, Steps p.tables e below (s₁.setTop (mkF m 0 #[.val (.int p0), .unset, .unset, .unset, .unset] [])) t → Steps p.tables e below (s₁.setTop (entryFrame m #[(.int p0)] maxLocals)) t := fun t k => castTop (ef_0_I m (p0)) k
  obtain ⟨T1, h1, Lc1, b1, k1, X1, e1, Ol1, K1, N1, V1, st1⟩ := fill hw ad NF h0 n0 Ol p0 X0 hx hZ hby hml hown e0
  obtain ⟨cl2, Ar2, q2, S2, M2, H2, G2⟩ := id V1
  have hin2 : ¬ ((16 : Int32) < 0 ∨ cl2.slots.size ≤ ((16 : Int32)).toNatClampNeg) := inb_of S2 ⟨by decide, by decide⟩
  have hat2 : cl2.slots[((16 : Int32)).toNatClampNeg]? = some (.ref (ad 16)) := Has.at H2 hin2 rfl
  obtain ⟨cq3, kq3, qa3, qb3, qc3⟩ := isOf hZ e1 ((ft_16 NF).ext Ol1.2)
  obtain ⟨_, _, ⟨T3, L3, k3, n3⟩, -, X3, ⟨Lc3, hQ3, l3, y3, z3⟩, st3⟩ := X1.virtualBack hx (y := (⟨"com/example/pivotlex/pivotlex/terminology/IssueCode", "isOfValueSet", "()Z"⟩ : MethodName)) (z := (⟨"com/example/pivotlex/pivotlex/terminology/IssueCode", "isOfValueSet", "()Z"⟩ : MethodName)) hown (mvT hZ (hw _ (List.mem_of_getElem? (i := 65) rfl))) (mvT hZ (hw _ (List.mem_of_getElem? (i := 66) rfl))) (notFace_of_selects (args := #[]) (mvT hZ (hw _ (List.mem_of_getElem? (i := 68) rfl)))) (mvT hZ (hw _ (List.mem_of_getElem? (i := 68) rfl))) (mvT hZ (hw _ (List.mem_of_getElem? (i := 67) rfl))) (by decide) (backOf (W := 0) (rm1_ad16 l Z a0 hw [] ad NF h1 n0 Ol1) hZ (hw _ (List.mem_of_getElem? (i := 69) rfl)) (hw _ (List.mem_of_getElem? (i := 3) rfl)) (by decide) (by decide)) qa3 qc3 (g := (mkF m 242 #[.val (.int p0), .val (.ref b1), .val (.int (16 : Int32)), .val (.ref (ad 16)), .val (.int (0 : Int32))] [(.ref (ad 16))])) rfl (by rw [hml]; rfl) (Steps.refl _) (argsL := []) (rest := []) (lenOf pd_1 rfl) rfl (by show 2 * 0 + _ ≤ _; exact Nat.le_of_eq rfl) (hb hby at_242) (fun _ _ => ⟨rfl, e1, (by decide : 1 + 0 ≤ _), (by decide : 30 + 0 ≤ _)⟩)
  dsimp only [Pt.U, Pt.locs, Pt.cells, Pt.slots] at X3 l3 y3 z3 st3 hQ3
  subst l3 y3 z3
  obtain ⟨rfl, Nq3, e3⟩ := hQ3
  have N3 := Fr.app N1 Nq3
  obtain ⟨fs, hr, hrun, hended, hW, hsame⟩ := X3.leave (v := some (.int (1 : Int32))) (fun h => by rw [Bd.returns] at h; cases h)
  refine ⟨_, _, pre0 _ ?_, hrun, hended, _, _, rfl, ?_, ⟨_, rfl⟩, hW, hsame.mono (by decide) (by decide)⟩
  · show Steps p.tables e below (s₁.setTop (mkF m 0 #[.val (.int p0), .unset, .unset, .unset, .unset] [])) _
    refine st1 _ ?_
    show Steps p.tables e below (T1.setTop (mkF m 210 #[.val (.int p0), .val (.ref b1), .unset, .unset, .unset] [])) _
    refine XS.iloadN X1.here hx rfl (hb hby at_210) rfl ?_
    show Steps p.tables e below (T1.setTop (mkF m 211 #[.val (.int p0), .val (.ref b1), .unset, .unset, .unset] [(.int p0)])) _
    refine X1.ldcInt hx hown (mvT hZ (hw _ (List.mem_of_getElem? (i := 64) rfl))) (g := (mkF m 211 #[.val (.int p0), .val (.ref b1), .unset, .unset, .unset] [(.int p0)])) rfl (hb hby at_211) _ ?_
    show Steps p.tables e below (T1.setTop (mkF m 213 #[.val (.int p0), .val (.ref b1), .unset, .unset, .unset] [(.int (2147483647 : Int32)), (.int p0)])) _
    refine XS.iand X1.here hx rfl (hb hby at_213) rfl ?_
    show Steps p.tables e below (T1.setTop (mkF m 214 #[.val (.int p0), .val (.ref b1), .unset, .unset, .unset] [(.int (p0 &&& (2147483647 : Int32)))])) _
    refine XS.bipush X1.here hx rfl (hb hby at_214) ?_
    show Steps p.tables e below (T1.setTop (mkF m 216 #[.val (.int p0), .val (.ref b1), .unset, .unset, .unset] [(.int (30 : Int32)), (.int (p0 &&& (2147483647 : Int32)))])) _
    refine iremM X1 hx rfl (hb hby at_216) rfl (by decide) ?_
    show Steps p.tables e below (T1.setTop (mkF m 217 #[.val (.int p0), .val (.ref b1), .unset, .unset, .unset] [(.int ((p0 &&& (2147483647 : Int32)) % (30 : Int32)))])) _
    rw [hi]
    show Steps p.tables e below (T1.setTop (mkF m 217 #[.val (.int p0), .val (.ref b1), .unset, .unset, .unset] [(.int (16 : Int32))])) _
    refine XS.istoreN X1.here hx rfl (hb hby at_217) rfl (l' := #[.val (.int p0), .val (.ref b1), .val (.int (16 : Int32)), .unset, .unset]) rfl ?_
    show Steps p.tables e below (T1.setTop (mkF m 218 #[.val (.int p0), .val (.ref b1), .val (.int (16 : Int32)), .unset, .unset] [])) _
    refine XS.aloadN X1.here hx rfl (hb hby at_218) rfl rfl ?_
    show Steps p.tables e below (T1.setTop (mkF m 219 #[.val (.int p0), .val (.ref b1), .val (.int (16 : Int32)), .unset, .unset] [(.ref b1)])) _
    refine XS.iloadN X1.here hx rfl (hb hby at_219) rfl ?_
    show Steps p.tables e below (T1.setTop (mkF m 220 #[.val (.int p0), .val (.ref b1), .val (.int (16 : Int32)), .unset, .unset] [(.int (16 : Int32)), (.ref b1)])) _
    refine X1.aaload hx (j := (16 : Int32)) (v := (.ref (ad 16))) (by rw [e1]; exact Ar2.1) (State.isArrayOf_alike hZ.alike Ar2.2.1) rfl Ar2.2.2 hin2 hat2 (g := (mkF m 220 #[.val (.int p0), .val (.ref b1), .val (.int (16 : Int32)), .unset, .unset] [(.int (16 : Int32)), (.ref b1)])) rfl rfl (hb hby at_220) _ ?_
    show Steps p.tables e below (T1.setTop (mkF m 221 #[.val (.int p0), .val (.ref b1), .val (.int (16 : Int32)), .unset, .unset] [(.ref (ad 16))])) _
    refine XS.astoreN X1.here hx rfl (hb hby at_221) rfl rfl (l' := #[.val (.int p0), .val (.ref b1), .val (.int (16 : Int32)), .val (.ref (ad 16)), .unset]) rfl ?_
    show Steps p.tables e below (T1.setTop (mkF m 222 #[.val (.int p0), .val (.ref b1), .val (.int (16 : Int32)), .val (.ref (ad 16)), .unset] [])) _
    refine XS.iloadN X1.here hx rfl (hb hby at_222) rfl ?_
    show Steps p.tables e below (T1.setTop (mkF m 223 #[.val (.int p0), .val (.ref b1), .val (.int (16 : Int32)), .val (.ref (ad 16)), .unset] [(.int (16 : Int32))])) _
    refine XS.bipush X1.here hx rfl (hb hby at_223) ?_
    show Steps p.tables e below (T1.setTop (mkF m 225 #[.val (.int p0), .val (.ref b1), .val (.int (16 : Int32)), .val (.ref (ad 16)), .unset] [(.int (12 : Int32)), (.int (16 : Int32))])) _
    refine XS.icmpNo X1.here hx rfl (hb hby at_225) rfl (flt (by decide)).1 ?_
    show Steps p.tables e below (T1.setTop (mkF m 228 #[.val (.int p0), .val (.ref b1), .val (.int (16 : Int32)), .val (.ref (ad 16)), .unset] [])) _
    refine XS.iloadN X1.here hx rfl (hb hby at_228) rfl ?_
    show Steps p.tables e below (T1.setTop (mkF m 229 #[.val (.int p0), .val (.ref b1), .val (.int (16 : Int32)), .val (.ref (ad 16)), .unset] [(.int (16 : Int32))])) _
    refine XS.bipush X1.here hx rfl (hb hby at_229) ?_
    show Steps p.tables e below (T1.setTop (mkF m 231 #[.val (.int p0), .val (.ref b1), .val (.int (16 : Int32)), .val (.ref (ad 16)), .unset] [(.int (15 : Int32)), (.int (16 : Int32))])) _
    refine XS.icmpYes X1.here hx rfl (pc0 := 231) (pc' := 238) rfl (hb hby at_231) rfl (tlt (by decide)).2.2.1 (by decide) (by decide) ?_
    show Steps p.tables e below (T1.setTop (mkF m 238 #[.val (.int p0), .val (.ref b1), .val (.int (16 : Int32)), .val (.ref (ad 16)), .unset] [])) _
    refine XS.iconst X1.here hx rfl (hb hby at_238) ?_
    show Steps p.tables e below (T1.setTop (mkF m 239 #[.val (.int p0), .val (.ref b1), .val (.int (16 : Int32)), .val (.ref (ad 16)), .unset] [(.int (0 : Int32))])) _
    refine XS.istore X1.here hx rfl (hb hby at_239) rfl (l' := #[.val (.int p0), .val (.ref b1), .val (.int (16 : Int32)), .val (.ref (ad 16)), .val (.int (0 : Int32))]) rfl ?_
    show Steps p.tables e below (T1.setTop (mkF m 241 #[.val (.int p0), .val (.ref b1), .val (.int (16 : Int32)), .val (.ref (ad 16)), .val (.int (0 : Int32))] [])) _
    refine XS.aloadN X1.here hx rfl (hb hby at_241) rfl rfl ?_
    show Steps p.tables e below (T1.setTop (mkF m 242 #[.val (.int p0), .val (.ref b1), .val (.int (16 : Int32)), .val (.ref (ad 16)), .val (.int (0 : Int32))] [(.ref (ad 16))])) _
    refine st3.trans ?_
    show Steps p.tables e below (T3.setTop (mkF m 245 #[.val (.int p0), .val (.ref b1), .val (.int (16 : Int32)), .val (.ref (ad 16)), .val (.int (0 : Int32))] [(.int (0 : Int32))])) _
    refine XS.iload X3.here hx rfl (hb hby at_245) rfl ?_
    show Steps p.tables e below (T3.setTop (mkF m 247 #[.val (.int p0), .val (.ref b1), .val (.int (16 : Int32)), .val (.ref (ad 16)), .val (.int (0 : Int32))] [(.int (0 : Int32)), (.int (0 : Int32))])) _
    refine XS.icmpNo X3.here hx rfl (hb hby at_247) rfl (teq (by decide)).2 ?_
    show Steps p.tables e below (T3.setTop (mkF m 250 #[.val (.int p0), .val (.ref b1), .val (.int (16 : Int32)), .val (.ref (ad 16)), .val (.int (0 : Int32))] [])) _
    refine XS.iconst X3.here hx rfl (hb hby at_250) ?_
    show Steps p.tables e below (T3.setTop (mkF m 251 #[.val (.int p0), .val (.ref b1), .val (.int (16 : Int32)), .val (.ref (ad 16)), .val (.int (0 : Int32))] [(.int (1 : Int32))])) _
    refine XS.goto X3.here hx rfl (pc0 := 251) (pc' := 255) rfl (hb hby at_251) (by decide) (by decide) ?_
    show Steps p.tables e below (T3.setTop (mkF m 255 #[.val (.int p0), .val (.ref b1), .val (.int (16 : Int32)), .val (.ref (ad 16)), .val (.int (0 : Int32))] [(.int (1 : Int32))])) _
    exact retN X3 hx (t := .boolean) Bd.returns (by simp) (hb hby at_255) hr
  · exact ⟨rfl, N3⟩
set_option maxRecDepth 65536 in
set_option maxHeartbeats 40000000 in
theorem rm1_ad17 (l : Launch) (Z : State) (a0 : Array Value) (hw : ∀ d ∈ tables_1, d.before a0 Z = true) (ws : List Jvm.Cond) (ad : Nat → Addr) (NF : Facts Z ad) (h0 : Heap) (n0 : Nat) (Ol : Old Z n0 h0) :
    MetFree l (⟨"com/example/pivotlex/pivotlex/terminology/IssueCode", "isOfValueSet", "()Z"⟩ : MethodName) (head1 (Jvm.Cond.code (⟨"com/example/pivotlex/pivotlex/terminology/IssueCode", "isOfValueSet", "()Z"⟩ : MethodName) prog_80_method_4_code 1 (some .boolean) :: ws) ({ frames := 0, cells := 0, slots := 0, locals := 0 } : Room)) (fun a U => a = #[(.ref (ad 17))] ∧ Z.Warmed39 U.vm ∧ U.heap = h0) (fun _ _ _ _ _ => True) (fun _ U o U' => ∃ v L, o = .returned v ∧ QS (.int (0 : Int32)) h0 n0 v U'.heap L ∧ FrameEnd U o U' L ({ frames := 0, cells := 0, slots := 0, locals := 0 } : Room).cells ({ frames := 0, cells := 0, slots := 0, locals := 0 } : Room).slots) := by
  refine MetFree.of_bodySF (plainFor_of_name pn_1) hisR ?_
  intro p e s m args below meth c s₁ Bd hml0 hP hK
  obtain ⟨rfl, hZ, hh⟩ := hP
  have hx := Bd.exec
  have hby := Bd.bytes
  have hml : c.maxLocals = 1 := hml0
  have hown : s.vm.findClass "com/example/pivotlex/pivotlex/terminology/IssueCode" = some m.cls := findClass_of_methodNamed Bd.named
  have X0 : Stand p l e ({ frames := 0, cells := 0, slots := 0, locals := 0 } : Room) s m #[(.ref (ad 17))] below meth c s₁ [] 0 0 := Stand.of_body Bd
  have e0 : s₁.heap = h0 := by rw [← hh, Bd.state]; rfl
  have N0 := Fr.nil n0
  have pre0 : ∀ t, Steps p.tables e below (s₁.setTop (mkF m 0 #[.val (.ref (ad 17))] [])) t → Steps p.tables e below (s₁.setTop (entryFrame m #[(.ref (ad 17))] 1)) t := fun t k => castTop (ef_1_R m (ad 17)) k
  obtain ⟨T1, X1, e1, st1⟩ := getS2 X0 hx hZ hown (host := "") (Or.inl (hw _ (List.mem_of_getElem? (i := 70) rfl))) Via.refl e0 ((ft_42 NF).ext Ol.2) (g := (mkF m 1 #[.val (.ref (ad 17))] [(.ref (ad 17))])) rfl (hb hby d1_1)
  obtain ⟨T2, X2, e2, st2⟩ := getS2 X1 hx hZ hown (host := "") (Or.inl (hw _ (List.mem_of_getElem? (i := 71) rfl))) Via.refl e1 ((ft_43 NF).ext Ol.2) (g := (mkF m 8 #[.val (.ref (ad 17))] [(.ref (ad 17))])) rfl (hb hby d1_8)
  obtain ⟨T3, X3, e3, st3⟩ := getS2 X2 hx hZ hown (host := "") (Or.inl (hw _ (List.mem_of_getElem? (i := 72) rfl))) Via.refl e2 ((ft_44 NF).ext Ol.2) (g := (mkF m 15 #[.val (.ref (ad 17))] [(.ref (ad 17))])) rfl (hb hby d1_15)
  obtain ⟨T4, X4, e4, st4⟩ := getS2 X3 hx hZ hown (host := "") (Or.inl (hw _ (List.mem_of_getElem? (i := 73) rfl))) Via.refl e3 ((ft_45 NF).ext Ol.2) (g := (mkF m 22 #[.val (.ref (ad 17))] [(.ref (ad 17))])) rfl (hb hby d1_22)
  obtain ⟨fs, hr, hrun, hended, hW, hsame⟩ := X4.leave (v := some (.int (0 : Int32))) (fun h => by rw [Bd.returns] at h; cases h)
  refine ⟨_, _, pre0 _ ?_, hrun, hended, _, _, rfl, ?_, ⟨_, rfl⟩, hW, hsame.mono (by decide) (by decide)⟩
  · show Steps p.tables e below (s₁.setTop (mkF m 0 #[.val (.ref (ad 17))] [])) _
    refine XS.aloadN X0.here hx rfl (hb hby d1_0) rfl rfl ?_
    show Steps p.tables e below (s₁.setTop (mkF m 1 #[.val (.ref (ad 17))] [(.ref (ad 17))])) _
    refine st1 _ ?_
    show Steps p.tables e below (T1.setTop (mkF m 4 #[.val (.ref (ad 17))] [(.ref (ad 12)), (.ref (ad 17))])) _
    refine acmp X1 hx rfl (x := (.ref (ad 17))) (y := (.ref (ad 12))) rfl rfl (pc0 := 4) (pc' := 7) (same := false) rfl (hb hby d1_4) rfl (decide_eq_false (fun h => (Fld.ne (ft_84 NF) (ft_61 NF) (by decide)) (Value.ref.inj h))) (by decide) (by decide) ?_
    show Steps p.tables e below (T1.setTop (mkF m 7 #[.val (.ref (ad 17))] [])) _
    refine XS.aloadN X1.here hx rfl (hb hby d1_7) rfl rfl ?_
    show Steps p.tables e below (T1.setTop (mkF m 8 #[.val (.ref (ad 17))] [(.ref (ad 17))])) _
    refine st2 _ ?_
    show Steps p.tables e below (T2.setTop (mkF m 11 #[.val (.ref (ad 17))] [(.ref (ad 13)), (.ref (ad 17))])) _
    refine acmp X2 hx rfl (x := (.ref (ad 17))) (y := (.ref (ad 13))) rfl rfl (pc0 := 11) (pc' := 14) (same := false) rfl (hb hby d1_11) rfl (decide_eq_false (fun h => (Fld.ne (ft_84 NF) (ft_62 NF) (by decide)) (Value.ref.inj h))) (by decide) (by decide) ?_
    show Steps p.tables e below (T2.setTop (mkF m 14 #[.val (.ref (ad 17))] [])) _
    refine XS.aloadN X2.here hx rfl (hb hby d1_14) rfl rfl ?_
    show Steps p.tables e below (T2.setTop (mkF m 15 #[.val (.ref (ad 17))] [(.ref (ad 17))])) _
    refine st3 _ ?_
    show Steps p.tables e below (T3.setTop (mkF m 18 #[.val (.ref (ad 17))] [(.ref (ad 14)), (.ref (ad 17))])) _
    refine acmp X3 hx rfl (x := (.ref (ad 17))) (y := (.ref (ad 14))) rfl rfl (pc0 := 18) (pc' := 21) (same := false) rfl (hb hby d1_18) rfl (decide_eq_false (fun h => (Fld.ne (ft_84 NF) (ft_63 NF) (by decide)) (Value.ref.inj h))) (by decide) (by decide) ?_
    show Steps p.tables e below (T3.setTop (mkF m 21 #[.val (.ref (ad 17))] [])) _
    refine XS.aloadN X3.here hx rfl (hb hby d1_21) rfl rfl ?_
    show Steps p.tables e below (T3.setTop (mkF m 22 #[.val (.ref (ad 17))] [(.ref (ad 17))])) _
    refine st4 _ ?_
    show Steps p.tables e below (T4.setTop (mkF m 25 #[.val (.ref (ad 17))] [(.ref (ad 15)), (.ref (ad 17))])) _
    refine acmp X4 hx rfl (x := (.ref (ad 17))) (y := (.ref (ad 15))) rfl rfl (pc0 := 25) (pc' := 32) (same := false) rfl (hb hby d1_25) rfl (decide_eq_false (fun h => (Fld.ne (ft_84 NF) (ft_64 NF) (by decide)) (Value.ref.inj h))) (by decide) (by decide) ?_
    show Steps p.tables e below (T4.setTop (mkF m 32 #[.val (.ref (ad 17))] [])) _
    refine XS.iconst X4.here hx rfl (hb hby d1_32) ?_
    show Steps p.tables e below (T4.setTop (mkF m 33 #[.val (.ref (ad 17))] [(.int (0 : Int32))])) _
    exact retN X4 hx (t := .boolean) Bd.returns (by simp) (hb hby d1_33) hr
  · exact ⟨rfl, N0, e4⟩
set_option maxRecDepth 65536 in
set_option maxHeartbeats 40000000 in
theorem rm0_17 (l : Launch) (Z : State) (a0 : Array Value) (hw : ∀ d ∈ tables_1, d.before a0 Z = true) (ws : List Jvm.Cond) (ad : Nat → Addr) (NF : Facts Z ad) (h0 : Heap) (n0 : Nat) (Ol : Old Z n0 h0) (p0 : Int32) (hi : (p0 &&& (2147483647 : Int32)) % (30 : Int32) = (17 : Int32)) :
    MetFree l x (head1 (Jvm.Cond.code x code maxLocals ret :: ws) room_1) (fun a U => a = #[(.int p0)] ∧ Z.Warmed39 U.vm ∧ U.heap = h0) (fun _ _ _ _ _ => True) (fun _ U o U' => ∃ v L, o = .returned v ∧ QL n0 v U'.heap L ∧ FrameEnd U o U' L room_1.cells room_1.slots) := by
  refine MetFree.of_bodySF (plainFor_of_name pn_0) hisR ?_
  intro p e s m args below meth c s₁ Bd hml0 hP hK
  obtain ⟨rfl, hZ, hh⟩ := hP
  have hx := Bd.exec
  have hby := Bd.bytes
  have hml : c.maxLocals = 5 := hml0
  have hown : s.vm.findClass "com/example/pivotlex/pivotlex/terminology/IssueCodeIsOfValueSetPinLaw" = some m.cls := findClass_of_methodNamed Bd.named
  have X0 : Stand p l e room_1 s m #[(.int p0)] below meth c s₁ [] 0 0 := Stand.of_body Bd
  have e0 : s₁.heap = h0 := by rw [← hh, Bd.state]; rfl
  have N0 := Fr.nil n0
  have pre0 : ∀ t, Steps p.tables e below (s₁.setTop (mkF m 0 #[.val (.int p0), .unset, .unset, .unset, .unset] [])) t → Steps p.tables e below (s₁.setTop (entryFrame m #[(.int p0)] maxLocals)) t := fun t k => castTop (ef_0_I m (p0)) k
  obtain ⟨T1, h1, Lc1, b1, k1, X1, e1, Ol1, K1, N1, V1, st1⟩ := fill hw ad NF h0 n0 Ol p0 X0 hx hZ hby hml hown e0
  obtain ⟨cl2, Ar2, q2, S2, M2, H2, G2⟩ := id V1
  have hin2 : ¬ ((17 : Int32) < 0 ∨ cl2.slots.size ≤ ((17 : Int32)).toNatClampNeg) := inb_of S2 ⟨by decide, by decide⟩
  have hat2 : cl2.slots[((17 : Int32)).toNatClampNeg]? = some (.ref (ad 17)) := Has.at H2 hin2 rfl
  obtain ⟨cq3, kq3, qa3, qb3, qc3⟩ := isOf hZ e1 ((ft_17 NF).ext Ol1.2)
  obtain ⟨_, _, ⟨T3, L3, k3, n3⟩, -, X3, ⟨Lc3, hQ3, l3, y3, z3⟩, st3⟩ := X1.virtualBack hx (y := (⟨"com/example/pivotlex/pivotlex/terminology/IssueCode", "isOfValueSet", "()Z"⟩ : MethodName)) (z := (⟨"com/example/pivotlex/pivotlex/terminology/IssueCode", "isOfValueSet", "()Z"⟩ : MethodName)) hown (mvT hZ (hw _ (List.mem_of_getElem? (i := 65) rfl))) (mvT hZ (hw _ (List.mem_of_getElem? (i := 66) rfl))) (notFace_of_selects (args := #[]) (mvT hZ (hw _ (List.mem_of_getElem? (i := 68) rfl)))) (mvT hZ (hw _ (List.mem_of_getElem? (i := 68) rfl))) (mvT hZ (hw _ (List.mem_of_getElem? (i := 67) rfl))) (by decide) (backOf (W := 0) (rm1_ad17 l Z a0 hw [] ad NF h1 n0 Ol1) hZ (hw _ (List.mem_of_getElem? (i := 69) rfl)) (hw _ (List.mem_of_getElem? (i := 3) rfl)) (by decide) (by decide)) qa3 qc3 (g := (mkF m 242 #[.val (.int p0), .val (.ref b1), .val (.int (17 : Int32)), .val (.ref (ad 17)), .val (.int (0 : Int32))] [(.ref (ad 17))])) rfl (by rw [hml]; rfl) (Steps.refl _) (argsL := []) (rest := []) (lenOf pd_1 rfl) rfl (by show 2 * 0 + _ ≤ _; exact Nat.le_of_eq rfl) (hb hby at_242) (fun _ _ => ⟨rfl, e1, (by decide : 1 + 0 ≤ _), (by decide : 30 + 0 ≤ _)⟩)
  dsimp only [Pt.U, Pt.locs, Pt.cells, Pt.slots] at X3 l3 y3 z3 st3 hQ3
  subst l3 y3 z3
  obtain ⟨rfl, Nq3, e3⟩ := hQ3
  have N3 := Fr.app N1 Nq3
  obtain ⟨fs, hr, hrun, hended, hW, hsame⟩ := X3.leave (v := some (.int (1 : Int32))) (fun h => by rw [Bd.returns] at h; cases h)
  refine ⟨_, _, pre0 _ ?_, hrun, hended, _, _, rfl, ?_, ⟨_, rfl⟩, hW, hsame.mono (by decide) (by decide)⟩
  · show Steps p.tables e below (s₁.setTop (mkF m 0 #[.val (.int p0), .unset, .unset, .unset, .unset] [])) _
    refine st1 _ ?_
    show Steps p.tables e below (T1.setTop (mkF m 210 #[.val (.int p0), .val (.ref b1), .unset, .unset, .unset] [])) _
    refine XS.iloadN X1.here hx rfl (hb hby at_210) rfl ?_
    show Steps p.tables e below (T1.setTop (mkF m 211 #[.val (.int p0), .val (.ref b1), .unset, .unset, .unset] [(.int p0)])) _
    refine X1.ldcInt hx hown (mvT hZ (hw _ (List.mem_of_getElem? (i := 64) rfl))) (g := (mkF m 211 #[.val (.int p0), .val (.ref b1), .unset, .unset, .unset] [(.int p0)])) rfl (hb hby at_211) _ ?_
    show Steps p.tables e below (T1.setTop (mkF m 213 #[.val (.int p0), .val (.ref b1), .unset, .unset, .unset] [(.int (2147483647 : Int32)), (.int p0)])) _
    refine XS.iand X1.here hx rfl (hb hby at_213) rfl ?_
    show Steps p.tables e below (T1.setTop (mkF m 214 #[.val (.int p0), .val (.ref b1), .unset, .unset, .unset] [(.int (p0 &&& (2147483647 : Int32)))])) _
    refine XS.bipush X1.here hx rfl (hb hby at_214) ?_
    show Steps p.tables e below (T1.setTop (mkF m 216 #[.val (.int p0), .val (.ref b1), .unset, .unset, .unset] [(.int (30 : Int32)), (.int (p0 &&& (2147483647 : Int32)))])) _
    refine iremM X1 hx rfl (hb hby at_216) rfl (by decide) ?_
    show Steps p.tables e below (T1.setTop (mkF m 217 #[.val (.int p0), .val (.ref b1), .unset, .unset, .unset] [(.int ((p0 &&& (2147483647 : Int32)) % (30 : Int32)))])) _
    rw [hi]
    show Steps p.tables e below (T1.setTop (mkF m 217 #[.val (.int p0), .val (.ref b1), .unset, .unset, .unset] [(.int (17 : Int32))])) _
    refine XS.istoreN X1.here hx rfl (hb hby at_217) rfl (l' := #[.val (.int p0), .val (.ref b1), .val (.int (17 : Int32)), .unset, .unset]) rfl ?_
    show Steps p.tables e below (T1.setTop (mkF m 218 #[.val (.int p0), .val (.ref b1), .val (.int (17 : Int32)), .unset, .unset] [])) _
    refine XS.aloadN X1.here hx rfl (hb hby at_218) rfl rfl ?_
    show Steps p.tables e below (T1.setTop (mkF m 219 #[.val (.int p0), .val (.ref b1), .val (.int (17 : Int32)), .unset, .unset] [(.ref b1)])) _
    refine XS.iloadN X1.here hx rfl (hb hby at_219) rfl ?_
    show Steps p.tables e below (T1.setTop (mkF m 220 #[.val (.int p0), .val (.ref b1), .val (.int (17 : Int32)), .unset, .unset] [(.int (17 : Int32)), (.ref b1)])) _
    refine X1.aaload hx (j := (17 : Int32)) (v := (.ref (ad 17))) (by rw [e1]; exact Ar2.1) (State.isArrayOf_alike hZ.alike Ar2.2.1) rfl Ar2.2.2 hin2 hat2 (g := (mkF m 220 #[.val (.int p0), .val (.ref b1), .val (.int (17 : Int32)), .unset, .unset] [(.int (17 : Int32)), (.ref b1)])) rfl rfl (hb hby at_220) _ ?_
    show Steps p.tables e below (T1.setTop (mkF m 221 #[.val (.int p0), .val (.ref b1), .val (.int (17 : Int32)), .unset, .unset] [(.ref (ad 17))])) _
    refine XS.astoreN X1.here hx rfl (hb hby at_221) rfl rfl (l' := #[.val (.int p0), .val (.ref b1), .val (.int (17 : Int32)), .val (.ref (ad 17)), .unset]) rfl ?_
    show Steps p.tables e below (T1.setTop (mkF m 222 #[.val (.int p0), .val (.ref b1), .val (.int (17 : Int32)), .val (.ref (ad 17)), .unset] [])) _
    refine XS.iloadN X1.here hx rfl (hb hby at_222) rfl ?_
    show Steps p.tables e below (T1.setTop (mkF m 223 #[.val (.int p0), .val (.ref b1), .val (.int (17 : Int32)), .val (.ref (ad 17)), .unset] [(.int (17 : Int32))])) _
    refine XS.bipush X1.here hx rfl (hb hby at_223) ?_
    show Steps p.tables e below (T1.setTop (mkF m 225 #[.val (.int p0), .val (.ref b1), .val (.int (17 : Int32)), .val (.ref (ad 17)), .unset] [(.int (12 : Int32)), (.int (17 : Int32))])) _
    refine XS.icmpNo X1.here hx rfl (hb hby at_225) rfl (flt (by decide)).1 ?_
    show Steps p.tables e below (T1.setTop (mkF m 228 #[.val (.int p0), .val (.ref b1), .val (.int (17 : Int32)), .val (.ref (ad 17)), .unset] [])) _
    refine XS.iloadN X1.here hx rfl (hb hby at_228) rfl ?_
    show Steps p.tables e below (T1.setTop (mkF m 229 #[.val (.int p0), .val (.ref b1), .val (.int (17 : Int32)), .val (.ref (ad 17)), .unset] [(.int (17 : Int32))])) _
    refine XS.bipush X1.here hx rfl (hb hby at_229) ?_
    show Steps p.tables e below (T1.setTop (mkF m 231 #[.val (.int p0), .val (.ref b1), .val (.int (17 : Int32)), .val (.ref (ad 17)), .unset] [(.int (15 : Int32)), (.int (17 : Int32))])) _
    refine XS.icmpYes X1.here hx rfl (pc0 := 231) (pc' := 238) rfl (hb hby at_231) rfl (tlt (by decide)).2.2.1 (by decide) (by decide) ?_
    show Steps p.tables e below (T1.setTop (mkF m 238 #[.val (.int p0), .val (.ref b1), .val (.int (17 : Int32)), .val (.ref (ad 17)), .unset] [])) _
    refine XS.iconst X1.here hx rfl (hb hby at_238) ?_
    show Steps p.tables e below (T1.setTop (mkF m 239 #[.val (.int p0), .val (.ref b1), .val (.int (17 : Int32)), .val (.ref (ad 17)), .unset] [(.int (0 : Int32))])) _
    refine XS.istore X1.here hx rfl (hb hby at_239) rfl (l' := #[.val (.int p0), .val (.ref b1), .val (.int (17 : Int32)), .val (.ref (ad 17)), .val (.int (0 : Int32))]) rfl ?_
    show Steps p.tables e below (T1.setTop (mkF m 241 #[.val (.int p0), .val (.ref b1), .val (.int (17 : Int32)), .val (.ref (ad 17)), .val (.int (0 : Int32))] [])) _
    refine XS.aloadN X1.here hx rfl (hb hby at_241) rfl rfl ?_
    show Steps p.tables e below (T1.setTop (mkF m 242 #[.val (.int p0), .val (.ref b1), .val (.int (17 : Int32)), .val (.ref (ad 17)), .val (.int (0 : Int32))] [(.ref (ad 17))])) _
    refine st3.trans ?_
    show Steps p.tables e below (T3.setTop (mkF m 245 #[.val (.int p0), .val (.ref b1), .val (.int (17 : Int32)), .val (.ref (ad 17)), .val (.int (0 : Int32))] [(.int (0 : Int32))])) _
    refine XS.iload X3.here hx rfl (hb hby at_245) rfl ?_
    show Steps p.tables e below (T3.setTop (mkF m 247 #[.val (.int p0), .val (.ref b1), .val (.int (17 : Int32)), .val (.ref (ad 17)), .val (.int (0 : Int32))] [(.int (0 : Int32)), (.int (0 : Int32))])) _
    refine XS.icmpNo X3.here hx rfl (hb hby at_247) rfl (teq (by decide)).2 ?_
    show Steps p.tables e below (T3.setTop (mkF m 250 #[.val (.int p0), .val (.ref b1), .val (.int (17 : Int32)), .val (.ref (ad 17)), .val (.int (0 : Int32))] [])) _
    refine XS.iconst X3.here hx rfl (hb hby at_250) ?_
    show Steps p.tables e below (T3.setTop (mkF m 251 #[.val (.int p0), .val (.ref b1), .val (.int (17 : Int32)), .val (.ref (ad 17)), .val (.int (0 : Int32))] [(.int (1 : Int32))])) _
    refine XS.goto X3.here hx rfl (pc0 := 251) (pc' := 255) rfl (hb hby at_251) (by decide) (by decide) ?_
    show Steps p.tables e below (T3.setTop (mkF m 255 #[.val (.int p0), .val (.ref b1), .val (.int (17 : Int32)), .val (.ref (ad 17)), .val (.int (0 : Int32))] [(.int (1 : Int32))])) _
    exact retN X3 hx (t := .boolean) Bd.returns (by simp) (hb hby at_255) hr
  · exact ⟨rfl, N3⟩
set_option maxRecDepth 65536 in
set_option maxHeartbeats 40000000 in
theorem rm1_ad18 (l : Launch) (Z : State) (a0 : Array Value) (hw : ∀ d ∈ tables_1, d.before a0 Z = true) (ws : List Jvm.Cond) (ad : Nat → Addr) (NF : Facts Z ad) (h0 : Heap) (n0 : Nat) (Ol : Old Z n0 h0) :
    MetFree l (⟨"com/example/pivotlex/pivotlex/terminology/IssueCode", "isOfValueSet", "()Z"⟩ : MethodName) (head1 (Jvm.Cond.code (⟨"com/example/pivotlex/pivotlex/terminology/IssueCode", "isOfValueSet", "()Z"⟩ : MethodName) prog_80_method_4_code 1 (some .boolean) :: ws) ({ frames := 0, cells := 0, slots := 0, locals := 0 } : Room)) (fun a U => a = #[(.ref (ad 18))] ∧ Z.Warmed39 U.vm ∧ U.heap = h0) (fun _ _ _ _ _ => True) (fun _ U o U' => ∃ v L, o = .returned v ∧ QS (.int (0 : Int32)) h0 n0 v U'.heap L ∧ FrameEnd U o U' L ({ frames := 0, cells := 0, slots := 0, locals := 0 } : Room).cells ({ frames := 0, cells := 0, slots := 0, locals := 0 } : Room).slots) := by
  refine MetFree.of_bodySF (plainFor_of_name pn_1) hisR ?_
  intro p e s m args below meth c s₁ Bd hml0 hP hK
  obtain ⟨rfl, hZ, hh⟩ := hP
  have hx := Bd.exec
  have hby := Bd.bytes
  have hml : c.maxLocals = 1 := hml0
  have hown : s.vm.findClass "com/example/pivotlex/pivotlex/terminology/IssueCode" = some m.cls := findClass_of_methodNamed Bd.named
  have X0 : Stand p l e ({ frames := 0, cells := 0, slots := 0, locals := 0 } : Room) s m #[(.ref (ad 18))] below meth c s₁ [] 0 0 := Stand.of_body Bd
  have e0 : s₁.heap = h0 := by rw [← hh, Bd.state]; rfl
  have N0 := Fr.nil n0
  have pre0 : ∀ t, Steps p.tables e below (s₁.setTop (mkF m 0 #[.val (.ref (ad 18))] [])) t → Steps p.tables e below (s₁.setTop (entryFrame m #[(.ref (ad 18))] 1)) t := fun t k => castTop (ef_1_R m (ad 18)) k
  obtain ⟨T1, X1, e1, st1⟩ := getS2 X0 hx hZ hown (host := "") (Or.inl (hw _ (List.mem_of_getElem? (i := 70) rfl))) Via.refl e0 ((ft_42 NF).ext Ol.2) (g := (mkF m 1 #[.val (.ref (ad 18))] [(.ref (ad 18))])) rfl (hb hby d1_1)
  obtain ⟨T2, X2, e2, st2⟩ := getS2 X1 hx hZ hown (host := "") (Or.inl (hw _ (List.mem_of_getElem? (i := 71) rfl))) Via.refl e1 ((ft_43 NF).ext Ol.2) (g := (mkF m 8 #[.val (.ref (ad 18))] [(.ref (ad 18))])) rfl (hb hby d1_8)
  obtain ⟨T3, X3, e3, st3⟩ := getS2 X2 hx hZ hown (host := "") (Or.inl (hw _ (List.mem_of_getElem? (i := 72) rfl))) Via.refl e2 ((ft_44 NF).ext Ol.2) (g := (mkF m 15 #[.val (.ref (ad 18))] [(.ref (ad 18))])) rfl (hb hby d1_15)
  obtain ⟨T4, X4, e4, st4⟩ := getS2 X3 hx hZ hown (host := "") (Or.inl (hw _ (List.mem_of_getElem? (i := 73) rfl))) Via.refl e3 ((ft_45 NF).ext Ol.2) (g := (mkF m 22 #[.val (.ref (ad 18))] [(.ref (ad 18))])) rfl (hb hby d1_22)
  obtain ⟨fs, hr, hrun, hended, hW, hsame⟩ := X4.leave (v := some (.int (0 : Int32))) (fun h => by rw [Bd.returns] at h; cases h)
  refine ⟨_, _, pre0 _ ?_, hrun, hended, _, _, rfl, ?_, ⟨_, rfl⟩, hW, hsame.mono (by decide) (by decide)⟩
  · show Steps p.tables e below (s₁.setTop (mkF m 0 #[.val (.ref (ad 18))] [])) _
    refine XS.aloadN X0.here hx rfl (hb hby d1_0) rfl rfl ?_
    show Steps p.tables e below (s₁.setTop (mkF m 1 #[.val (.ref (ad 18))] [(.ref (ad 18))])) _
    refine st1 _ ?_
    show Steps p.tables e below (T1.setTop (mkF m 4 #[.val (.ref (ad 18))] [(.ref (ad 12)), (.ref (ad 18))])) _
    refine acmp X1 hx rfl (x := (.ref (ad 18))) (y := (.ref (ad 12))) rfl rfl (pc0 := 4) (pc' := 7) (same := false) rfl (hb hby d1_4) rfl (decide_eq_false (fun h => (Fld.ne (ft_80 NF) (ft_61 NF) (by decide)) (Value.ref.inj h))) (by decide) (by decide) ?_
    show Steps p.tables e below (T1.setTop (mkF m 7 #[.val (.ref (ad 18))] [])) _
    refine XS.aloadN X1.here hx rfl (hb hby d1_7) rfl rfl ?_
    show Steps p.tables e below (T1.setTop (mkF m 8 #[.val (.ref (ad 18))] [(.ref (ad 18))])) _
    refine st2 _ ?_
    show Steps p.tables e below (T2.setTop (mkF m 11 #[.val (.ref (ad 18))] [(.ref (ad 13)), (.ref (ad 18))])) _
    refine acmp X2 hx rfl (x := (.ref (ad 18))) (y := (.ref (ad 13))) rfl rfl (pc0 := 11) (pc' := 14) (same := false) rfl (hb hby d1_11) rfl (decide_eq_false (fun h => (Fld.ne (ft_80 NF) (ft_62 NF) (by decide)) (Value.ref.inj h))) (by decide) (by decide) ?_
    show Steps p.tables e below (T2.setTop (mkF m 14 #[.val (.ref (ad 18))] [])) _
    refine XS.aloadN X2.here hx rfl (hb hby d1_14) rfl rfl ?_
    show Steps p.tables e below (T2.setTop (mkF m 15 #[.val (.ref (ad 18))] [(.ref (ad 18))])) _
    refine st3 _ ?_
    show Steps p.tables e below (T3.setTop (mkF m 18 #[.val (.ref (ad 18))] [(.ref (ad 14)), (.ref (ad 18))])) _
    refine acmp X3 hx rfl (x := (.ref (ad 18))) (y := (.ref (ad 14))) rfl rfl (pc0 := 18) (pc' := 21) (same := false) rfl (hb hby d1_18) rfl (decide_eq_false (fun h => (Fld.ne (ft_80 NF) (ft_63 NF) (by decide)) (Value.ref.inj h))) (by decide) (by decide) ?_
    show Steps p.tables e below (T3.setTop (mkF m 21 #[.val (.ref (ad 18))] [])) _
    refine XS.aloadN X3.here hx rfl (hb hby d1_21) rfl rfl ?_
    show Steps p.tables e below (T3.setTop (mkF m 22 #[.val (.ref (ad 18))] [(.ref (ad 18))])) _
    refine st4 _ ?_
    show Steps p.tables e below (T4.setTop (mkF m 25 #[.val (.ref (ad 18))] [(.ref (ad 15)), (.ref (ad 18))])) _
    refine acmp X4 hx rfl (x := (.ref (ad 18))) (y := (.ref (ad 15))) rfl rfl (pc0 := 25) (pc' := 32) (same := false) rfl (hb hby d1_25) rfl (decide_eq_false (fun h => (Fld.ne (ft_80 NF) (ft_64 NF) (by decide)) (Value.ref.inj h))) (by decide) (by decide) ?_
    show Steps p.tables e below (T4.setTop (mkF m 32 #[.val (.ref (ad 18))] [])) _
    refine XS.iconst X4.here hx rfl (hb hby d1_32) ?_
    show Steps p.tables e below (T4.setTop (mkF m 33 #[.val (.ref (ad 18))] [(.int (0 : Int32))])) _
    exact retN X4 hx (t := .boolean) Bd.returns (by simp) (hb hby d1_33) hr
  · exact ⟨rfl, N0, e4⟩
set_option maxRecDepth 65536 in
set_option maxHeartbeats 40000000 in
theorem rm0_18 (l : Launch) (Z : State) (a0 : Array Value) (hw : ∀ d ∈ tables_1, d.before a0 Z = true) (ws : List Jvm.Cond) (ad : Nat → Addr) (NF : Facts Z ad) (h0 : Heap) (n0 : Nat) (Ol : Old Z n0 h0) (p0 : Int32) (hi : (p0 &&& (2147483647 : Int32)) % (30 : Int32) = (18 : Int32)) :
    MetFree l x (head1 (Jvm.Cond.code x code maxLocals ret :: ws) room_1) (fun a U => a = #[(.int p0)] ∧ Z.Warmed39 U.vm ∧ U.heap = h0) (fun _ _ _ _ _ => True) (fun _ U o U' => ∃ v L, o = .returned v ∧ QL n0 v U'.heap L ∧ FrameEnd U o U' L room_1.cells room_1.slots) := by
  refine MetFree.of_bodySF (plainFor_of_name pn_0) hisR ?_
  intro p e s m args below meth c s₁ Bd hml0 hP hK
  obtain ⟨rfl, hZ, hh⟩ := hP
  have hx := Bd.exec
  have hby := Bd.bytes
  have hml : c.maxLocals = 5 := hml0
  have hown : s.vm.findClass "com/example/pivotlex/pivotlex/terminology/IssueCodeIsOfValueSetPinLaw" = some m.cls := findClass_of_methodNamed Bd.named
  have X0 : Stand p l e room_1 s m #[(.int p0)] below meth c s₁ [] 0 0 := Stand.of_body Bd
  have e0 : s₁.heap = h0 := by rw [← hh, Bd.state]; rfl
  have N0 := Fr.nil n0
  have pre0 : ∀ t, Steps p.tables e below (s₁.setTop (mkF m 0 #[.val (.int p0), .unset, .unset, .unset, .unset] [])) t → Steps p.tables e below (s₁.setTop (entryFrame m #[(.int p0)] maxLocals)) t := fun t k => castTop (ef_0_I m (p0)) k
  obtain ⟨T1, h1, Lc1, b1, k1, X1, e1, Ol1, K1, N1, V1, st1⟩ := fill hw ad NF h0 n0 Ol p0 X0 hx hZ hby hml hown e0
  obtain ⟨cl2, Ar2, q2, S2, M2, H2, G2⟩ := id V1
  have hin2 : ¬ ((18 : Int32) < 0 ∨ cl2.slots.size ≤ ((18 : Int32)).toNatClampNeg) := inb_of S2 ⟨by decide, by decide⟩
  have hat2 : cl2.slots[((18 : Int32)).toNatClampNeg]? = some (.ref (ad 18)) := Has.at H2 hin2 rfl
  obtain ⟨cq3, kq3, qa3, qb3, qc3⟩ := isOf hZ e1 ((ft_18 NF).ext Ol1.2)
  obtain ⟨_, _, ⟨T3, L3, k3, n3⟩, -, X3, ⟨Lc3, hQ3, l3, y3, z3⟩, st3⟩ := X1.virtualBack hx (y := (⟨"com/example/pivotlex/pivotlex/terminology/IssueCode", "isOfValueSet", "()Z"⟩ : MethodName)) (z := (⟨"com/example/pivotlex/pivotlex/terminology/IssueCode", "isOfValueSet", "()Z"⟩ : MethodName)) hown (mvT hZ (hw _ (List.mem_of_getElem? (i := 65) rfl))) (mvT hZ (hw _ (List.mem_of_getElem? (i := 66) rfl))) (notFace_of_selects (args := #[]) (mvT hZ (hw _ (List.mem_of_getElem? (i := 68) rfl)))) (mvT hZ (hw _ (List.mem_of_getElem? (i := 68) rfl))) (mvT hZ (hw _ (List.mem_of_getElem? (i := 67) rfl))) (by decide) (backOf (W := 0) (rm1_ad18 l Z a0 hw [] ad NF h1 n0 Ol1) hZ (hw _ (List.mem_of_getElem? (i := 69) rfl)) (hw _ (List.mem_of_getElem? (i := 3) rfl)) (by decide) (by decide)) qa3 qc3 (g := (mkF m 242 #[.val (.int p0), .val (.ref b1), .val (.int (18 : Int32)), .val (.ref (ad 18)), .val (.int (0 : Int32))] [(.ref (ad 18))])) rfl (by rw [hml]; rfl) (Steps.refl _) (argsL := []) (rest := []) (lenOf pd_1 rfl) rfl (by show 2 * 0 + _ ≤ _; exact Nat.le_of_eq rfl) (hb hby at_242) (fun _ _ => ⟨rfl, e1, (by decide : 1 + 0 ≤ _), (by decide : 30 + 0 ≤ _)⟩)
  dsimp only [Pt.U, Pt.locs, Pt.cells, Pt.slots] at X3 l3 y3 z3 st3 hQ3
  subst l3 y3 z3
  obtain ⟨rfl, Nq3, e3⟩ := hQ3
  have N3 := Fr.app N1 Nq3
  obtain ⟨fs, hr, hrun, hended, hW, hsame⟩ := X3.leave (v := some (.int (1 : Int32))) (fun h => by rw [Bd.returns] at h; cases h)
  refine ⟨_, _, pre0 _ ?_, hrun, hended, _, _, rfl, ?_, ⟨_, rfl⟩, hW, hsame.mono (by decide) (by decide)⟩
  · show Steps p.tables e below (s₁.setTop (mkF m 0 #[.val (.int p0), .unset, .unset, .unset, .unset] [])) _
    refine st1 _ ?_
    show Steps p.tables e below (T1.setTop (mkF m 210 #[.val (.int p0), .val (.ref b1), .unset, .unset, .unset] [])) _
    refine XS.iloadN X1.here hx rfl (hb hby at_210) rfl ?_
    show Steps p.tables e below (T1.setTop (mkF m 211 #[.val (.int p0), .val (.ref b1), .unset, .unset, .unset] [(.int p0)])) _
    refine X1.ldcInt hx hown (mvT hZ (hw _ (List.mem_of_getElem? (i := 64) rfl))) (g := (mkF m 211 #[.val (.int p0), .val (.ref b1), .unset, .unset, .unset] [(.int p0)])) rfl (hb hby at_211) _ ?_
    show Steps p.tables e below (T1.setTop (mkF m 213 #[.val (.int p0), .val (.ref b1), .unset, .unset, .unset] [(.int (2147483647 : Int32)), (.int p0)])) _
    refine XS.iand X1.here hx rfl (hb hby at_213) rfl ?_
    show Steps p.tables e below (T1.setTop (mkF m 214 #[.val (.int p0), .val (.ref b1), .unset, .unset, .unset] [(.int (p0 &&& (2147483647 : Int32)))])) _
    refine XS.bipush X1.here hx rfl (hb hby at_214) ?_
    show Steps p.tables e below (T1.setTop (mkF m 216 #[.val (.int p0), .val (.ref b1), .unset, .unset, .unset] [(.int (30 : Int32)), (.int (p0 &&& (2147483647 : Int32)))])) _
    refine iremM X1 hx rfl (hb hby at_216) rfl (by decide) ?_
    show Steps p.tables e below (T1.setTop (mkF m 217 #[.val (.int p0), .val (.ref b1), .unset, .unset, .unset] [(.int ((p0 &&& (2147483647 : Int32)) % (30 : Int32)))])) _
    rw [hi]
    show Steps p.tables e below (T1.setTop (mkF m 217 #[.val (.int p0), .val (.ref b1), .unset, .unset, .unset] [(.int (18 : Int32))])) _
    refine XS.istoreN X1.here hx rfl (hb hby at_217) rfl (l' := #[.val (.int p0), .val (.ref b1), .val (.int (18 : Int32)), .unset, .unset]) rfl ?_
    show Steps p.tables e below (T1.setTop (mkF m 218 #[.val (.int p0), .val (.ref b1), .val (.int (18 : Int32)), .unset, .unset] [])) _
    refine XS.aloadN X1.here hx rfl (hb hby at_218) rfl rfl ?_
    show Steps p.tables e below (T1.setTop (mkF m 219 #[.val (.int p0), .val (.ref b1), .val (.int (18 : Int32)), .unset, .unset] [(.ref b1)])) _
    refine XS.iloadN X1.here hx rfl (hb hby at_219) rfl ?_
    show Steps p.tables e below (T1.setTop (mkF m 220 #[.val (.int p0), .val (.ref b1), .val (.int (18 : Int32)), .unset, .unset] [(.int (18 : Int32)), (.ref b1)])) _
    refine X1.aaload hx (j := (18 : Int32)) (v := (.ref (ad 18))) (by rw [e1]; exact Ar2.1) (State.isArrayOf_alike hZ.alike Ar2.2.1) rfl Ar2.2.2 hin2 hat2 (g := (mkF m 220 #[.val (.int p0), .val (.ref b1), .val (.int (18 : Int32)), .unset, .unset] [(.int (18 : Int32)), (.ref b1)])) rfl rfl (hb hby at_220) _ ?_
    show Steps p.tables e below (T1.setTop (mkF m 221 #[.val (.int p0), .val (.ref b1), .val (.int (18 : Int32)), .unset, .unset] [(.ref (ad 18))])) _
    refine XS.astoreN X1.here hx rfl (hb hby at_221) rfl rfl (l' := #[.val (.int p0), .val (.ref b1), .val (.int (18 : Int32)), .val (.ref (ad 18)), .unset]) rfl ?_
    show Steps p.tables e below (T1.setTop (mkF m 222 #[.val (.int p0), .val (.ref b1), .val (.int (18 : Int32)), .val (.ref (ad 18)), .unset] [])) _
    refine XS.iloadN X1.here hx rfl (hb hby at_222) rfl ?_
    show Steps p.tables e below (T1.setTop (mkF m 223 #[.val (.int p0), .val (.ref b1), .val (.int (18 : Int32)), .val (.ref (ad 18)), .unset] [(.int (18 : Int32))])) _
    refine XS.bipush X1.here hx rfl (hb hby at_223) ?_
    show Steps p.tables e below (T1.setTop (mkF m 225 #[.val (.int p0), .val (.ref b1), .val (.int (18 : Int32)), .val (.ref (ad 18)), .unset] [(.int (12 : Int32)), (.int (18 : Int32))])) _
    refine XS.icmpNo X1.here hx rfl (hb hby at_225) rfl (flt (by decide)).1 ?_
    show Steps p.tables e below (T1.setTop (mkF m 228 #[.val (.int p0), .val (.ref b1), .val (.int (18 : Int32)), .val (.ref (ad 18)), .unset] [])) _
    refine XS.iloadN X1.here hx rfl (hb hby at_228) rfl ?_
    show Steps p.tables e below (T1.setTop (mkF m 229 #[.val (.int p0), .val (.ref b1), .val (.int (18 : Int32)), .val (.ref (ad 18)), .unset] [(.int (18 : Int32))])) _
    refine XS.bipush X1.here hx rfl (hb hby at_229) ?_
    show Steps p.tables e below (T1.setTop (mkF m 231 #[.val (.int p0), .val (.ref b1), .val (.int (18 : Int32)), .val (.ref (ad 18)), .unset] [(.int (15 : Int32)), (.int (18 : Int32))])) _
    refine XS.icmpYes X1.here hx rfl (pc0 := 231) (pc' := 238) rfl (hb hby at_231) rfl (tlt (by decide)).2.2.1 (by decide) (by decide) ?_
    show Steps p.tables e below (T1.setTop (mkF m 238 #[.val (.int p0), .val (.ref b1), .val (.int (18 : Int32)), .val (.ref (ad 18)), .unset] [])) _
    refine XS.iconst X1.here hx rfl (hb hby at_238) ?_
    show Steps p.tables e below (T1.setTop (mkF m 239 #[.val (.int p0), .val (.ref b1), .val (.int (18 : Int32)), .val (.ref (ad 18)), .unset] [(.int (0 : Int32))])) _
    refine XS.istore X1.here hx rfl (hb hby at_239) rfl (l' := #[.val (.int p0), .val (.ref b1), .val (.int (18 : Int32)), .val (.ref (ad 18)), .val (.int (0 : Int32))]) rfl ?_
    show Steps p.tables e below (T1.setTop (mkF m 241 #[.val (.int p0), .val (.ref b1), .val (.int (18 : Int32)), .val (.ref (ad 18)), .val (.int (0 : Int32))] [])) _
    refine XS.aloadN X1.here hx rfl (hb hby at_241) rfl rfl ?_
    show Steps p.tables e below (T1.setTop (mkF m 242 #[.val (.int p0), .val (.ref b1), .val (.int (18 : Int32)), .val (.ref (ad 18)), .val (.int (0 : Int32))] [(.ref (ad 18))])) _
    refine st3.trans ?_
    show Steps p.tables e below (T3.setTop (mkF m 245 #[.val (.int p0), .val (.ref b1), .val (.int (18 : Int32)), .val (.ref (ad 18)), .val (.int (0 : Int32))] [(.int (0 : Int32))])) _
    refine XS.iload X3.here hx rfl (hb hby at_245) rfl ?_
    show Steps p.tables e below (T3.setTop (mkF m 247 #[.val (.int p0), .val (.ref b1), .val (.int (18 : Int32)), .val (.ref (ad 18)), .val (.int (0 : Int32))] [(.int (0 : Int32)), (.int (0 : Int32))])) _
    refine XS.icmpNo X3.here hx rfl (hb hby at_247) rfl (teq (by decide)).2 ?_
    show Steps p.tables e below (T3.setTop (mkF m 250 #[.val (.int p0), .val (.ref b1), .val (.int (18 : Int32)), .val (.ref (ad 18)), .val (.int (0 : Int32))] [])) _
    refine XS.iconst X3.here hx rfl (hb hby at_250) ?_
    show Steps p.tables e below (T3.setTop (mkF m 251 #[.val (.int p0), .val (.ref b1), .val (.int (18 : Int32)), .val (.ref (ad 18)), .val (.int (0 : Int32))] [(.int (1 : Int32))])) _
    refine XS.goto X3.here hx rfl (pc0 := 251) (pc' := 255) rfl (hb hby at_251) (by decide) (by decide) ?_
    show Steps p.tables e below (T3.setTop (mkF m 255 #[.val (.int p0), .val (.ref b1), .val (.int (18 : Int32)), .val (.ref (ad 18)), .val (.int (0 : Int32))] [(.int (1 : Int32))])) _
    exact retN X3 hx (t := .boolean) Bd.returns (by simp) (hb hby at_255) hr
  · exact ⟨rfl, N3⟩
set_option maxRecDepth 65536 in
set_option maxHeartbeats 40000000 in
theorem rm1_ad19 (l : Launch) (Z : State) (a0 : Array Value) (hw : ∀ d ∈ tables_1, d.before a0 Z = true) (ws : List Jvm.Cond) (ad : Nat → Addr) (NF : Facts Z ad) (h0 : Heap) (n0 : Nat) (Ol : Old Z n0 h0) :
    MetFree l (⟨"com/example/pivotlex/pivotlex/terminology/IssueCode", "isOfValueSet", "()Z"⟩ : MethodName) (head1 (Jvm.Cond.code (⟨"com/example/pivotlex/pivotlex/terminology/IssueCode", "isOfValueSet", "()Z"⟩ : MethodName) prog_80_method_4_code 1 (some .boolean) :: ws) ({ frames := 0, cells := 0, slots := 0, locals := 0 } : Room)) (fun a U => a = #[(.ref (ad 19))] ∧ Z.Warmed39 U.vm ∧ U.heap = h0) (fun _ _ _ _ _ => True) (fun _ U o U' => ∃ v L, o = .returned v ∧ QS (.int (0 : Int32)) h0 n0 v U'.heap L ∧ FrameEnd U o U' L ({ frames := 0, cells := 0, slots := 0, locals := 0 } : Room).cells ({ frames := 0, cells := 0, slots := 0, locals := 0 } : Room).slots) := by
  refine MetFree.of_bodySF (plainFor_of_name pn_1) hisR ?_
  intro p e s m args below meth c s₁ Bd hml0 hP hK
  obtain ⟨rfl, hZ, hh⟩ := hP
  have hx := Bd.exec
  have hby := Bd.bytes
  have hml : c.maxLocals = 1 := hml0
  have hown : s.vm.findClass "com/example/pivotlex/pivotlex/terminology/IssueCode" = some m.cls := findClass_of_methodNamed Bd.named
  have X0 : Stand p l e ({ frames := 0, cells := 0, slots := 0, locals := 0 } : Room) s m #[(.ref (ad 19))] below meth c s₁ [] 0 0 := Stand.of_body Bd
  have e0 : s₁.heap = h0 := by rw [← hh, Bd.state]; rfl
  have N0 := Fr.nil n0
  have pre0 : ∀ t, Steps p.tables e below (s₁.setTop (mkF m 0 #[.val (.ref (ad 19))] [])) t → Steps p.tables e below (s₁.setTop (entryFrame m #[(.ref (ad 19))] 1)) t := fun t k => castTop (ef_1_R m (ad 19)) k
  obtain ⟨T1, X1, e1, st1⟩ := getS2 X0 hx hZ hown (host := "") (Or.inl (hw _ (List.mem_of_getElem? (i := 70) rfl))) Via.refl e0 ((ft_42 NF).ext Ol.2) (g := (mkF m 1 #[.val (.ref (ad 19))] [(.ref (ad 19))])) rfl (hb hby d1_1)
  obtain ⟨T2, X2, e2, st2⟩ := getS2 X1 hx hZ hown (host := "") (Or.inl (hw _ (List.mem_of_getElem? (i := 71) rfl))) Via.refl e1 ((ft_43 NF).ext Ol.2) (g := (mkF m 8 #[.val (.ref (ad 19))] [(.ref (ad 19))])) rfl (hb hby d1_8)
  obtain ⟨T3, X3, e3, st3⟩ := getS2 X2 hx hZ hown (host := "") (Or.inl (hw _ (List.mem_of_getElem? (i := 72) rfl))) Via.refl e2 ((ft_44 NF).ext Ol.2) (g := (mkF m 15 #[.val (.ref (ad 19))] [(.ref (ad 19))])) rfl (hb hby d1_15)
  obtain ⟨T4, X4, e4, st4⟩ := getS2 X3 hx hZ hown (host := "") (Or.inl (hw _ (List.mem_of_getElem? (i := 73) rfl))) Via.refl e3 ((ft_45 NF).ext Ol.2) (g := (mkF m 22 #[.val (.ref (ad 19))] [(.ref (ad 19))])) rfl (hb hby d1_22)
  obtain ⟨fs, hr, hrun, hended, hW, hsame⟩ := X4.leave (v := some (.int (0 : Int32))) (fun h => by rw [Bd.returns] at h; cases h)
  refine ⟨_, _, pre0 _ ?_, hrun, hended, _, _, rfl, ?_, ⟨_, rfl⟩, hW, hsame.mono (by decide) (by decide)⟩
  · show Steps p.tables e below (s₁.setTop (mkF m 0 #[.val (.ref (ad 19))] [])) _
    refine XS.aloadN X0.here hx rfl (hb hby d1_0) rfl rfl ?_
    show Steps p.tables e below (s₁.setTop (mkF m 1 #[.val (.ref (ad 19))] [(.ref (ad 19))])) _
    refine st1 _ ?_
    show Steps p.tables e below (T1.setTop (mkF m 4 #[.val (.ref (ad 19))] [(.ref (ad 12)), (.ref (ad 19))])) _
    refine acmp X1 hx rfl (x := (.ref (ad 19))) (y := (.ref (ad 12))) rfl rfl (pc0 := 4) (pc' := 7) (same := false) rfl (hb hby d1_4) rfl (decide_eq_false (fun h => (Fld.ne (ft_78 NF) (ft_61 NF) (by decide)) (Value.ref.inj h))) (by decide) (by decide) ?_
    show Steps p.tables e below (T1.setTop (mkF m 7 #[.val (.ref (ad 19))] [])) _
    refine XS.aloadN X1.here hx rfl (hb hby d1_7) rfl rfl ?_
    show Steps p.tables e below (T1.setTop (mkF m 8 #[.val (.ref (ad 19))] [(.ref (ad 19))])) _
    refine st2 _ ?_
    show Steps p.tables e below (T2.setTop (mkF m 11 #[.val (.ref (ad 19))] [(.ref (ad 13)), (.ref (ad 19))])) _
    refine acmp X2 hx rfl (x := (.ref (ad 19))) (y := (.ref (ad 13))) rfl rfl (pc0 := 11) (pc' := 14) (same := false) rfl (hb hby d1_11) rfl (decide_eq_false (fun h => (Fld.ne (ft_78 NF) (ft_62 NF) (by decide)) (Value.ref.inj h))) (by decide) (by decide) ?_
    show Steps p.tables e below (T2.setTop (mkF m 14 #[.val (.ref (ad 19))] [])) _
    refine XS.aloadN X2.here hx rfl (hb hby d1_14) rfl rfl ?_
    show Steps p.tables e below (T2.setTop (mkF m 15 #[.val (.ref (ad 19))] [(.ref (ad 19))])) _
    refine st3 _ ?_
    show Steps p.tables e below (T3.setTop (mkF m 18 #[.val (.ref (ad 19))] [(.ref (ad 14)), (.ref (ad 19))])) _
    refine acmp X3 hx rfl (x := (.ref (ad 19))) (y := (.ref (ad 14))) rfl rfl (pc0 := 18) (pc' := 21) (same := false) rfl (hb hby d1_18) rfl (decide_eq_false (fun h => (Fld.ne (ft_78 NF) (ft_63 NF) (by decide)) (Value.ref.inj h))) (by decide) (by decide) ?_
    show Steps p.tables e below (T3.setTop (mkF m 21 #[.val (.ref (ad 19))] [])) _
    refine XS.aloadN X3.here hx rfl (hb hby d1_21) rfl rfl ?_
    show Steps p.tables e below (T3.setTop (mkF m 22 #[.val (.ref (ad 19))] [(.ref (ad 19))])) _
    refine st4 _ ?_
    show Steps p.tables e below (T4.setTop (mkF m 25 #[.val (.ref (ad 19))] [(.ref (ad 15)), (.ref (ad 19))])) _
    refine acmp X4 hx rfl (x := (.ref (ad 19))) (y := (.ref (ad 15))) rfl rfl (pc0 := 25) (pc' := 32) (same := false) rfl (hb hby d1_25) rfl (decide_eq_false (fun h => (Fld.ne (ft_78 NF) (ft_64 NF) (by decide)) (Value.ref.inj h))) (by decide) (by decide) ?_
    show Steps p.tables e below (T4.setTop (mkF m 32 #[.val (.ref (ad 19))] [])) _
    refine XS.iconst X4.here hx rfl (hb hby d1_32) ?_
    show Steps p.tables e below (T4.setTop (mkF m 33 #[.val (.ref (ad 19))] [(.int (0 : Int32))])) _
    exact retN X4 hx (t := .boolean) Bd.returns (by simp) (hb hby d1_33) hr
  · exact ⟨rfl, N0, e4⟩
set_option maxRecDepth 65536 in
set_option maxHeartbeats 40000000 in
theorem rm0_19 (l : Launch) (Z : State) (a0 : Array Value) (hw : ∀ d ∈ tables_1, d.before a0 Z = true) (ws : List Jvm.Cond) (ad : Nat → Addr) (NF : Facts Z ad) (h0 : Heap) (n0 : Nat) (Ol : Old Z n0 h0) (p0 : Int32) (hi : (p0 &&& (2147483647 : Int32)) % (30 : Int32) = (19 : Int32)) :
    MetFree l x (head1 (Jvm.Cond.code x code maxLocals ret :: ws) room_1) (fun a U => a = #[(.int p0)] ∧ Z.Warmed39 U.vm ∧ U.heap = h0) (fun _ _ _ _ _ => True) (fun _ U o U' => ∃ v L, o = .returned v ∧ QL n0 v U'.heap L ∧ FrameEnd U o U' L room_1.cells room_1.slots) := by
  refine MetFree.of_bodySF (plainFor_of_name pn_0) hisR ?_
  intro p e s m args below meth c s₁ Bd hml0 hP hK
  obtain ⟨rfl, hZ, hh⟩ := hP
  have hx := Bd.exec
  have hby := Bd.bytes
  have hml : c.maxLocals = 5 := hml0
  have hown : s.vm.findClass "com/example/pivotlex/pivotlex/terminology/IssueCodeIsOfValueSetPinLaw" = some m.cls := findClass_of_methodNamed Bd.named
  have X0 : Stand p l e room_1 s m #[(.int p0)] below meth c s₁ [] 0 0 := Stand.of_body Bd
  have e0 : s₁.heap = h0 := by rw [← hh, Bd.state]; rfl
  have N0 := Fr.nil n0
  have pre0 : ∀ t, Steps p.tables e below (s₁.setTop (mkF m 0 #[.val (.int p0), .unset, .unset, .unset, .unset] [])) t → Steps p.tables e below (s₁.setTop (entryFrame m #[(.int p0)] maxLocals)) t := fun t k => castTop (ef_0_I m (p0)) k
  obtain ⟨T1, h1, Lc1, b1, k1, X1, e1, Ol1, K1, N1, V1, st1⟩ := fill hw ad NF h0 n0 Ol p0 X0 hx hZ hby hml hown e0
  obtain ⟨cl2, Ar2, q2, S2, M2, H2, G2⟩ := id V1
  have hin2 : ¬ ((19 : Int32) < 0 ∨ cl2.slots.size ≤ ((19 : Int32)).toNatClampNeg) := inb_of S2 ⟨by decide, by decide⟩
  have hat2 : cl2.slots[((19 : Int32)).toNatClampNeg]? = some (.ref (ad 19)) := Has.at H2 hin2 rfl
  obtain ⟨cq3, kq3, qa3, qb3, qc3⟩ := isOf hZ e1 ((ft_19 NF).ext Ol1.2)
  obtain ⟨_, _, ⟨T3, L3, k3, n3⟩, -, X3, ⟨Lc3, hQ3, l3, y3, z3⟩, st3⟩ := X1.virtualBack hx (y := (⟨"com/example/pivotlex/pivotlex/terminology/IssueCode", "isOfValueSet", "()Z"⟩ : MethodName)) (z := (⟨"com/example/pivotlex/pivotlex/terminology/IssueCode", "isOfValueSet", "()Z"⟩ : MethodName)) hown (mvT hZ (hw _ (List.mem_of_getElem? (i := 65) rfl))) (mvT hZ (hw _ (List.mem_of_getElem? (i := 66) rfl))) (notFace_of_selects (args := #[]) (mvT hZ (hw _ (List.mem_of_getElem? (i := 68) rfl)))) (mvT hZ (hw _ (List.mem_of_getElem? (i := 68) rfl))) (mvT hZ (hw _ (List.mem_of_getElem? (i := 67) rfl))) (by decide) (backOf (W := 0) (rm1_ad19 l Z a0 hw [] ad NF h1 n0 Ol1) hZ (hw _ (List.mem_of_getElem? (i := 69) rfl)) (hw _ (List.mem_of_getElem? (i := 3) rfl)) (by decide) (by decide)) qa3 qc3 (g := (mkF m 242 #[.val (.int p0), .val (.ref b1), .val (.int (19 : Int32)), .val (.ref (ad 19)), .val (.int (0 : Int32))] [(.ref (ad 19))])) rfl (by rw [hml]; rfl) (Steps.refl _) (argsL := []) (rest := []) (lenOf pd_1 rfl) rfl (by show 2 * 0 + _ ≤ _; exact Nat.le_of_eq rfl) (hb hby at_242) (fun _ _ => ⟨rfl, e1, (by decide : 1 + 0 ≤ _), (by decide : 30 + 0 ≤ _)⟩)
  dsimp only [Pt.U, Pt.locs, Pt.cells, Pt.slots] at X3 l3 y3 z3 st3 hQ3
  subst l3 y3 z3
  obtain ⟨rfl, Nq3, e3⟩ := hQ3
  have N3 := Fr.app N1 Nq3
  obtain ⟨fs, hr, hrun, hended, hW, hsame⟩ := X3.leave (v := some (.int (1 : Int32))) (fun h => by rw [Bd.returns] at h; cases h)
  refine ⟨_, _, pre0 _ ?_, hrun, hended, _, _, rfl, ?_, ⟨_, rfl⟩, hW, hsame.mono (by decide) (by decide)⟩
  · show Steps p.tables e below (s₁.setTop (mkF m 0 #[.val (.int p0), .unset, .unset, .unset, .unset] [])) _
    refine st1 _ ?_
    show Steps p.tables e below (T1.setTop (mkF m 210 #[.val (.int p0), .val (.ref b1), .unset, .unset, .unset] [])) _
    refine XS.iloadN X1.here hx rfl (hb hby at_210) rfl ?_
    show Steps p.tables e below (T1.setTop (mkF m 211 #[.val (.int p0), .val (.ref b1), .unset, .unset, .unset] [(.int p0)])) _
    refine X1.ldcInt hx hown (mvT hZ (hw _ (List.mem_of_getElem? (i := 64) rfl))) (g := (mkF m 211 #[.val (.int p0), .val (.ref b1), .unset, .unset, .unset] [(.int p0)])) rfl (hb hby at_211) _ ?_
    show Steps p.tables e below (T1.setTop (mkF m 213 #[.val (.int p0), .val (.ref b1), .unset, .unset, .unset] [(.int (2147483647 : Int32)), (.int p0)])) _
    refine XS.iand X1.here hx rfl (hb hby at_213) rfl ?_
    show Steps p.tables e below (T1.setTop (mkF m 214 #[.val (.int p0), .val (.ref b1), .unset, .unset, .unset] [(.int (p0 &&& (2147483647 : Int32)))])) _
    refine XS.bipush X1.here hx rfl (hb hby at_214) ?_
    show Steps p.tables e below (T1.setTop (mkF m 216 #[.val (.int p0), .val (.ref b1), .unset, .unset, .unset] [(.int (30 : Int32)), (.int (p0 &&& (2147483647 : Int32)))])) _
    refine iremM X1 hx rfl (hb hby at_216) rfl (by decide) ?_
    show Steps p.tables e below (T1.setTop (mkF m 217 #[.val (.int p0), .val (.ref b1), .unset, .unset, .unset] [(.int ((p0 &&& (2147483647 : Int32)) % (30 : Int32)))])) _
    rw [hi]
    show Steps p.tables e below (T1.setTop (mkF m 217 #[.val (.int p0), .val (.ref b1), .unset, .unset, .unset] [(.int (19 : Int32))])) _
    refine XS.istoreN X1.here hx rfl (hb hby at_217) rfl (l' := #[.val (.int p0), .val (.ref b1), .val (.int (19 : Int32)), .unset, .unset]) rfl ?_
    show Steps p.tables e below (T1.setTop (mkF m 218 #[.val (.int p0), .val (.ref b1), .val (.int (19 : Int32)), .unset, .unset] [])) _
    refine XS.aloadN X1.here hx rfl (hb hby at_218) rfl rfl ?_
    show Steps p.tables e below (T1.setTop (mkF m 219 #[.val (.int p0), .val (.ref b1), .val (.int (19 : Int32)), .unset, .unset] [(.ref b1)])) _
    refine XS.iloadN X1.here hx rfl (hb hby at_219) rfl ?_
    show Steps p.tables e below (T1.setTop (mkF m 220 #[.val (.int p0), .val (.ref b1), .val (.int (19 : Int32)), .unset, .unset] [(.int (19 : Int32)), (.ref b1)])) _
    refine X1.aaload hx (j := (19 : Int32)) (v := (.ref (ad 19))) (by rw [e1]; exact Ar2.1) (State.isArrayOf_alike hZ.alike Ar2.2.1) rfl Ar2.2.2 hin2 hat2 (g := (mkF m 220 #[.val (.int p0), .val (.ref b1), .val (.int (19 : Int32)), .unset, .unset] [(.int (19 : Int32)), (.ref b1)])) rfl rfl (hb hby at_220) _ ?_
    show Steps p.tables e below (T1.setTop (mkF m 221 #[.val (.int p0), .val (.ref b1), .val (.int (19 : Int32)), .unset, .unset] [(.ref (ad 19))])) _
    refine XS.astoreN X1.here hx rfl (hb hby at_221) rfl rfl (l' := #[.val (.int p0), .val (.ref b1), .val (.int (19 : Int32)), .val (.ref (ad 19)), .unset]) rfl ?_
    show Steps p.tables e below (T1.setTop (mkF m 222 #[.val (.int p0), .val (.ref b1), .val (.int (19 : Int32)), .val (.ref (ad 19)), .unset] [])) _
    refine XS.iloadN X1.here hx rfl (hb hby at_222) rfl ?_
    show Steps p.tables e below (T1.setTop (mkF m 223 #[.val (.int p0), .val (.ref b1), .val (.int (19 : Int32)), .val (.ref (ad 19)), .unset] [(.int (19 : Int32))])) _
    refine XS.bipush X1.here hx rfl (hb hby at_223) ?_
    show Steps p.tables e below (T1.setTop (mkF m 225 #[.val (.int p0), .val (.ref b1), .val (.int (19 : Int32)), .val (.ref (ad 19)), .unset] [(.int (12 : Int32)), (.int (19 : Int32))])) _
    refine XS.icmpNo X1.here hx rfl (hb hby at_225) rfl (flt (by decide)).1 ?_
    show Steps p.tables e below (T1.setTop (mkF m 228 #[.val (.int p0), .val (.ref b1), .val (.int (19 : Int32)), .val (.ref (ad 19)), .unset] [])) _
    refine XS.iloadN X1.here hx rfl (hb hby at_228) rfl ?_
    show Steps p.tables e below (T1.setTop (mkF m 229 #[.val (.int p0), .val (.ref b1), .val (.int (19 : Int32)), .val (.ref (ad 19)), .unset] [(.int (19 : Int32))])) _
    refine XS.bipush X1.here hx rfl (hb hby at_229) ?_
    show Steps p.tables e below (T1.setTop (mkF m 231 #[.val (.int p0), .val (.ref b1), .val (.int (19 : Int32)), .val (.ref (ad 19)), .unset] [(.int (15 : Int32)), (.int (19 : Int32))])) _
    refine XS.icmpYes X1.here hx rfl (pc0 := 231) (pc' := 238) rfl (hb hby at_231) rfl (tlt (by decide)).2.2.1 (by decide) (by decide) ?_
    show Steps p.tables e below (T1.setTop (mkF m 238 #[.val (.int p0), .val (.ref b1), .val (.int (19 : Int32)), .val (.ref (ad 19)), .unset] [])) _
    refine XS.iconst X1.here hx rfl (hb hby at_238) ?_
    show Steps p.tables e below (T1.setTop (mkF m 239 #[.val (.int p0), .val (.ref b1), .val (.int (19 : Int32)), .val (.ref (ad 19)), .unset] [(.int (0 : Int32))])) _
    refine XS.istore X1.here hx rfl (hb hby at_239) rfl (l' := #[.val (.int p0), .val (.ref b1), .val (.int (19 : Int32)), .val (.ref (ad 19)), .val (.int (0 : Int32))]) rfl ?_
    show Steps p.tables e below (T1.setTop (mkF m 241 #[.val (.int p0), .val (.ref b1), .val (.int (19 : Int32)), .val (.ref (ad 19)), .val (.int (0 : Int32))] [])) _
    refine XS.aloadN X1.here hx rfl (hb hby at_241) rfl rfl ?_
    show Steps p.tables e below (T1.setTop (mkF m 242 #[.val (.int p0), .val (.ref b1), .val (.int (19 : Int32)), .val (.ref (ad 19)), .val (.int (0 : Int32))] [(.ref (ad 19))])) _
    refine st3.trans ?_
    show Steps p.tables e below (T3.setTop (mkF m 245 #[.val (.int p0), .val (.ref b1), .val (.int (19 : Int32)), .val (.ref (ad 19)), .val (.int (0 : Int32))] [(.int (0 : Int32))])) _
    refine XS.iload X3.here hx rfl (hb hby at_245) rfl ?_
    show Steps p.tables e below (T3.setTop (mkF m 247 #[.val (.int p0), .val (.ref b1), .val (.int (19 : Int32)), .val (.ref (ad 19)), .val (.int (0 : Int32))] [(.int (0 : Int32)), (.int (0 : Int32))])) _
    refine XS.icmpNo X3.here hx rfl (hb hby at_247) rfl (teq (by decide)).2 ?_
    show Steps p.tables e below (T3.setTop (mkF m 250 #[.val (.int p0), .val (.ref b1), .val (.int (19 : Int32)), .val (.ref (ad 19)), .val (.int (0 : Int32))] [])) _
    refine XS.iconst X3.here hx rfl (hb hby at_250) ?_
    show Steps p.tables e below (T3.setTop (mkF m 251 #[.val (.int p0), .val (.ref b1), .val (.int (19 : Int32)), .val (.ref (ad 19)), .val (.int (0 : Int32))] [(.int (1 : Int32))])) _
    refine XS.goto X3.here hx rfl (pc0 := 251) (pc' := 255) rfl (hb hby at_251) (by decide) (by decide) ?_
    show Steps p.tables e below (T3.setTop (mkF m 255 #[.val (.int p0), .val (.ref b1), .val (.int (19 : Int32)), .val (.ref (ad 19)), .val (.int (0 : Int32))] [(.int (1 : Int32))])) _
    exact retN X3 hx (t := .boolean) Bd.returns (by simp) (hb hby at_255) hr
  · exact ⟨rfl, N3⟩
set_option maxRecDepth 65536 in
set_option maxHeartbeats 40000000 in
theorem rm1_ad20 (l : Launch) (Z : State) (a0 : Array Value) (hw : ∀ d ∈ tables_1, d.before a0 Z = true) (ws : List Jvm.Cond) (ad : Nat → Addr) (NF : Facts Z ad) (h0 : Heap) (n0 : Nat) (Ol : Old Z n0 h0) :
    MetFree l (⟨"com/example/pivotlex/pivotlex/terminology/IssueCode", "isOfValueSet", "()Z"⟩ : MethodName) (head1 (Jvm.Cond.code (⟨"com/example/pivotlex/pivotlex/terminology/IssueCode", "isOfValueSet", "()Z"⟩ : MethodName) prog_80_method_4_code 1 (some .boolean) :: ws) ({ frames := 0, cells := 0, slots := 0, locals := 0 } : Room)) (fun a U => a = #[(.ref (ad 20))] ∧ Z.Warmed39 U.vm ∧ U.heap = h0) (fun _ _ _ _ _ => True) (fun _ U o U' => ∃ v L, o = .returned v ∧ QS (.int (0 : Int32)) h0 n0 v U'.heap L ∧ FrameEnd U o U' L ({ frames := 0, cells := 0, slots := 0, locals := 0 } : Room).cells ({ frames := 0, cells := 0, slots := 0, locals := 0 } : Room).slots) := by
  refine MetFree.of_bodySF (plainFor_of_name pn_1) hisR ?_
  intro p e s m args below meth c s₁ Bd hml0 hP hK
  obtain ⟨rfl, hZ, hh⟩ := hP
  have hx := Bd.exec
  have hby := Bd.bytes
  have hml : c.maxLocals = 1 := hml0
  have hown : s.vm.findClass "com/example/pivotlex/pivotlex/terminology/IssueCode" = some m.cls := findClass_of_methodNamed Bd.named
  have X0 : Stand p l e ({ frames := 0, cells := 0, slots := 0, locals := 0 } : Room) s m #[(.ref (ad 20))] below meth c s₁ [] 0 0 := Stand.of_body Bd
  have e0 : s₁.heap = h0 := by rw [← hh, Bd.state]; rfl
  have N0 := Fr.nil n0
  have pre0 : ∀ t, Steps p.tables e below (s₁.setTop (mkF m 0 #[.val (.ref (ad 20))] [])) t → Steps p.tables e below (s₁.setTop (entryFrame m #[(.ref (ad 20))] 1)) t := fun t k => castTop (ef_1_R m (ad 20)) k
  obtain ⟨T1, X1, e1, st1⟩ := getS2 X0 hx hZ hown (host := "") (Or.inl (hw _ (List.mem_of_getElem? (i := 70) rfl))) Via.refl e0 ((ft_42 NF).ext Ol.2) (g := (mkF m 1 #[.val (.ref (ad 20))] [(.ref (ad 20))])) rfl (hb hby d1_1)
  obtain ⟨T2, X2, e2, st2⟩ := getS2 X1 hx hZ hown (host := "") (Or.inl (hw _ (List.mem_of_getElem? (i := 71) rfl))) Via.refl e1 ((ft_43 NF).ext Ol.2) (g := (mkF m 8 #[.val (.ref (ad 20))] [(.ref (ad 20))])) rfl (hb hby d1_8)
  obtain ⟨T3, X3, e3, st3⟩ := getS2 X2 hx hZ hown (host := "") (Or.inl (hw _ (List.mem_of_getElem? (i := 72) rfl))) Via.refl e2 ((ft_44 NF).ext Ol.2) (g := (mkF m 15 #[.val (.ref (ad 20))] [(.ref (ad 20))])) rfl (hb hby d1_15)
  obtain ⟨T4, X4, e4, st4⟩ := getS2 X3 hx hZ hown (host := "") (Or.inl (hw _ (List.mem_of_getElem? (i := 73) rfl))) Via.refl e3 ((ft_45 NF).ext Ol.2) (g := (mkF m 22 #[.val (.ref (ad 20))] [(.ref (ad 20))])) rfl (hb hby d1_22)
  obtain ⟨fs, hr, hrun, hended, hW, hsame⟩ := X4.leave (v := some (.int (0 : Int32))) (fun h => by rw [Bd.returns] at h; cases h)
  refine ⟨_, _, pre0 _ ?_, hrun, hended, _, _, rfl, ?_, ⟨_, rfl⟩, hW, hsame.mono (by decide) (by decide)⟩
  · show Steps p.tables e below (s₁.setTop (mkF m 0 #[.val (.ref (ad 20))] [])) _
    refine XS.aloadN X0.here hx rfl (hb hby d1_0) rfl rfl ?_
    show Steps p.tables e below (s₁.setTop (mkF m 1 #[.val (.ref (ad 20))] [(.ref (ad 20))])) _
    refine st1 _ ?_
    show Steps p.tables e below (T1.setTop (mkF m 4 #[.val (.ref (ad 20))] [(.ref (ad 12)), (.ref (ad 20))])) _
    refine acmp X1 hx rfl (x := (.ref (ad 20))) (y := (.ref (ad 12))) rfl rfl (pc0 := 4) (pc' := 7) (same := false) rfl (hb hby d1_4) rfl (decide_eq_false (fun h => (Fld.ne (ft_66 NF) (ft_61 NF) (by decide)) (Value.ref.inj h))) (by decide) (by decide) ?_
    show Steps p.tables e below (T1.setTop (mkF m 7 #[.val (.ref (ad 20))] [])) _
    refine XS.aloadN X1.here hx rfl (hb hby d1_7) rfl rfl ?_
    show Steps p.tables e below (T1.setTop (mkF m 8 #[.val (.ref (ad 20))] [(.ref (ad 20))])) _
    refine st2 _ ?_
    show Steps p.tables e below (T2.setTop (mkF m 11 #[.val (.ref (ad 20))] [(.ref (ad 13)), (.ref (ad 20))])) _
    refine acmp X2 hx rfl (x := (.ref (ad 20))) (y := (.ref (ad 13))) rfl rfl (pc0 := 11) (pc' := 14) (same := false) rfl (hb hby d1_11) rfl (decide_eq_false (fun h => (Fld.ne (ft_66 NF) (ft_62 NF) (by decide)) (Value.ref.inj h))) (by decide) (by decide) ?_
    show Steps p.tables e below (T2.setTop (mkF m 14 #[.val (.ref (ad 20))] [])) _
    refine XS.aloadN X2.here hx rfl (hb hby d1_14) rfl rfl ?_
    show Steps p.tables e below (T2.setTop (mkF m 15 #[.val (.ref (ad 20))] [(.ref (ad 20))])) _
    refine st3 _ ?_
    show Steps p.tables e below (T3.setTop (mkF m 18 #[.val (.ref (ad 20))] [(.ref (ad 14)), (.ref (ad 20))])) _
    refine acmp X3 hx rfl (x := (.ref (ad 20))) (y := (.ref (ad 14))) rfl rfl (pc0 := 18) (pc' := 21) (same := false) rfl (hb hby d1_18) rfl (decide_eq_false (fun h => (Fld.ne (ft_66 NF) (ft_63 NF) (by decide)) (Value.ref.inj h))) (by decide) (by decide) ?_
    show Steps p.tables e below (T3.setTop (mkF m 21 #[.val (.ref (ad 20))] [])) _
    refine XS.aloadN X3.here hx rfl (hb hby d1_21) rfl rfl ?_
    show Steps p.tables e below (T3.setTop (mkF m 22 #[.val (.ref (ad 20))] [(.ref (ad 20))])) _
    refine st4 _ ?_
    show Steps p.tables e below (T4.setTop (mkF m 25 #[.val (.ref (ad 20))] [(.ref (ad 15)), (.ref (ad 20))])) _
    refine acmp X4 hx rfl (x := (.ref (ad 20))) (y := (.ref (ad 15))) rfl rfl (pc0 := 25) (pc' := 32) (same := false) rfl (hb hby d1_25) rfl (decide_eq_false (fun h => (Fld.ne (ft_66 NF) (ft_64 NF) (by decide)) (Value.ref.inj h))) (by decide) (by decide) ?_
    show Steps p.tables e below (T4.setTop (mkF m 32 #[.val (.ref (ad 20))] [])) _
    refine XS.iconst X4.here hx rfl (hb hby d1_32) ?_
    show Steps p.tables e below (T4.setTop (mkF m 33 #[.val (.ref (ad 20))] [(.int (0 : Int32))])) _
    exact retN X4 hx (t := .boolean) Bd.returns (by simp) (hb hby d1_33) hr
  · exact ⟨rfl, N0, e4⟩
set_option maxRecDepth 65536 in
set_option maxHeartbeats 40000000 in
theorem rm0_20 (l : Launch) (Z : State) (a0 : Array Value) (hw : ∀ d ∈ tables_1, d.before a0 Z = true) (ws : List Jvm.Cond) (ad : Nat → Addr) (NF : Facts Z ad) (h0 : Heap) (n0 : Nat) (Ol : Old Z n0 h0) (p0 : Int32) (hi : (p0 &&& (2147483647 : Int32)) % (30 : Int32) = (20 : Int32)) :
    MetFree l x (head1 (Jvm.Cond.code x code maxLocals ret :: ws) room_1) (fun a U => a = #[(.int p0)] ∧ Z.Warmed39 U.vm ∧ U.heap = h0) (fun _ _ _ _ _ => True) (fun _ U o U' => ∃ v L, o = .returned v ∧ QL n0 v U'.heap L ∧ FrameEnd U o U' L room_1.cells room_1.slots) := by
  refine MetFree.of_bodySF (plainFor_of_name pn_0) hisR ?_
  intro p e s m args below meth c s₁ Bd hml0 hP hK
  obtain ⟨rfl, hZ, hh⟩ := hP
  have hx := Bd.exec
  have hby := Bd.bytes
  have hml : c.maxLocals = 5 := hml0
  have hown : s.vm.findClass "com/example/pivotlex/pivotlex/terminology/IssueCodeIsOfValueSetPinLaw" = some m.cls := findClass_of_methodNamed Bd.named
  have X0 : Stand p l e room_1 s m #[(.int p0)] below meth c s₁ [] 0 0 := Stand.of_body Bd
  have e0 : s₁.heap = h0 := by rw [← hh, Bd.state]; rfl
  have N0 := Fr.nil n0
  have pre0 : ∀ t, Steps p.tables e below (s₁.setTop (mkF m 0 #[.val (.int p0), .unset, .unset, .unset, .unset] [])) t → Steps p.tables e below (s₁.setTop (entryFrame m #[(.int p0)] maxLocals)) t := fun t k => castTop (ef_0_I m (p0)) k
  obtain ⟨T1, h1, Lc1, b1, k1, X1, e1, Ol1, K1, N1, V1, st1⟩ := fill hw ad NF h0 n0 Ol p0 X0 hx hZ hby hml hown e0
  obtain ⟨cl2, Ar2, q2, S2, M2, H2, G2⟩ := id V1
  have hin2 : ¬ ((20 : Int32) < 0 ∨ cl2.slots.size ≤ ((20 : Int32)).toNatClampNeg) := inb_of S2 ⟨by decide, by decide⟩
  have hat2 : cl2.slots[((20 : Int32)).toNatClampNeg]? = some (.ref (ad 20)) := Has.at H2 hin2 rfl
  obtain ⟨cq3, kq3, qa3, qb3, qc3⟩ := isOf hZ e1 ((ft_20 NF).ext Ol1.2)
  obtain ⟨_, _, ⟨T3, L3, k3, n3⟩, -, X3, ⟨Lc3, hQ3, l3, y3, z3⟩, st3⟩ := X1.virtualBack hx (y := (⟨"com/example/pivotlex/pivotlex/terminology/IssueCode", "isOfValueSet", "()Z"⟩ : MethodName)) (z := (⟨"com/example/pivotlex/pivotlex/terminology/IssueCode", "isOfValueSet", "()Z"⟩ : MethodName)) hown (mvT hZ (hw _ (List.mem_of_getElem? (i := 65) rfl))) (mvT hZ (hw _ (List.mem_of_getElem? (i := 66) rfl))) (notFace_of_selects (args := #[]) (mvT hZ (hw _ (List.mem_of_getElem? (i := 68) rfl)))) (mvT hZ (hw _ (List.mem_of_getElem? (i := 68) rfl))) (mvT hZ (hw _ (List.mem_of_getElem? (i := 67) rfl))) (by decide) (backOf (W := 0) (rm1_ad20 l Z a0 hw [] ad NF h1 n0 Ol1) hZ (hw _ (List.mem_of_getElem? (i := 69) rfl)) (hw _ (List.mem_of_getElem? (i := 3) rfl)) (by decide) (by decide)) qa3 qc3 (g := (mkF m 242 #[.val (.int p0), .val (.ref b1), .val (.int (20 : Int32)), .val (.ref (ad 20)), .val (.int (0 : Int32))] [(.ref (ad 20))])) rfl (by rw [hml]; rfl) (Steps.refl _) (argsL := []) (rest := []) (lenOf pd_1 rfl) rfl (by show 2 * 0 + _ ≤ _; exact Nat.le_of_eq rfl) (hb hby at_242) (fun _ _ => ⟨rfl, e1, (by decide : 1 + 0 ≤ _), (by decide : 30 + 0 ≤ _)⟩)
  dsimp only [Pt.U, Pt.locs, Pt.cells, Pt.slots] at X3 l3 y3 z3 st3 hQ3
  subst l3 y3 z3
  obtain ⟨rfl, Nq3, e3⟩ := hQ3
  have N3 := Fr.app N1 Nq3
  obtain ⟨fs, hr, hrun, hended, hW, hsame⟩ := X3.leave (v := some (.int (1 : Int32))) (fun h => by rw [Bd.returns] at h; cases h)
  refine ⟨_, _, pre0 _ ?_, hrun, hended, _, _, rfl, ?_, ⟨_, rfl⟩, hW, hsame.mono (by decide) (by decide)⟩
  · show Steps p.tables e below (s₁.setTop (mkF m 0 #[.val (.int p0), .unset, .unset, .unset, .unset] [])) _
    refine st1 _ ?_
    show Steps p.tables e below (T1.setTop (mkF m 210 #[.val (.int p0), .val (.ref b1), .unset, .unset, .unset] [])) _
    refine XS.iloadN X1.here hx rfl (hb hby at_210) rfl ?_
    show Steps p.tables e below (T1.setTop (mkF m 211 #[.val (.int p0), .val (.ref b1), .unset, .unset, .unset] [(.int p0)])) _
    refine X1.ldcInt hx hown (mvT hZ (hw _ (List.mem_of_getElem? (i := 64) rfl))) (g := (mkF m 211 #[.val (.int p0), .val (.ref b1), .unset, .unset, .unset] [(.int p0)])) rfl (hb hby at_211) _ ?_
    show Steps p.tables e below (T1.setTop (mkF m 213 #[.val (.int p0), .val (.ref b1), .unset, .unset, .unset] [(.int (2147483647 : Int32)), (.int p0)])) _
    refine XS.iand X1.here hx rfl (hb hby at_213) rfl ?_
    show Steps p.tables e below (T1.setTop (mkF m 214 #[.val (.int p0), .val (.ref b1), .unset, .unset, .unset] [(.int (p0 &&& (2147483647 : Int32)))])) _
    refine XS.bipush X1.here hx rfl (hb hby at_214) ?_
    show Steps p.tables e below (T1.setTop (mkF m 216 #[.val (.int p0), .val (.ref b1), .unset, .unset, .unset] [(.int (30 : Int32)), (.int (p0 &&& (2147483647 : Int32)))])) _
    refine iremM X1 hx rfl (hb hby at_216) rfl (by decide) ?_
    show Steps p.tables e below (T1.setTop (mkF m 217 #[.val (.int p0), .val (.ref b1), .unset, .unset, .unset] [(.int ((p0 &&& (2147483647 : Int32)) % (30 : Int32)))])) _
    rw [hi]
    show Steps p.tables e below (T1.setTop (mkF m 217 #[.val (.int p0), .val (.ref b1), .unset, .unset, .unset] [(.int (20 : Int32))])) _
    refine XS.istoreN X1.here hx rfl (hb hby at_217) rfl (l' := #[.val (.int p0), .val (.ref b1), .val (.int (20 : Int32)), .unset, .unset]) rfl ?_
    show Steps p.tables e below (T1.setTop (mkF m 218 #[.val (.int p0), .val (.ref b1), .val (.int (20 : Int32)), .unset, .unset] [])) _
    refine XS.aloadN X1.here hx rfl (hb hby at_218) rfl rfl ?_
    show Steps p.tables e below (T1.setTop (mkF m 219 #[.val (.int p0), .val (.ref b1), .val (.int (20 : Int32)), .unset, .unset] [(.ref b1)])) _
    refine XS.iloadN X1.here hx rfl (hb hby at_219) rfl ?_
    show Steps p.tables e below (T1.setTop (mkF m 220 #[.val (.int p0), .val (.ref b1), .val (.int (20 : Int32)), .unset, .unset] [(.int (20 : Int32)), (.ref b1)])) _
    refine X1.aaload hx (j := (20 : Int32)) (v := (.ref (ad 20))) (by rw [e1]; exact Ar2.1) (State.isArrayOf_alike hZ.alike Ar2.2.1) rfl Ar2.2.2 hin2 hat2 (g := (mkF m 220 #[.val (.int p0), .val (.ref b1), .val (.int (20 : Int32)), .unset, .unset] [(.int (20 : Int32)), (.ref b1)])) rfl rfl (hb hby at_220) _ ?_
    show Steps p.tables e below (T1.setTop (mkF m 221 #[.val (.int p0), .val (.ref b1), .val (.int (20 : Int32)), .unset, .unset] [(.ref (ad 20))])) _
    refine XS.astoreN X1.here hx rfl (hb hby at_221) rfl rfl (l' := #[.val (.int p0), .val (.ref b1), .val (.int (20 : Int32)), .val (.ref (ad 20)), .unset]) rfl ?_
    show Steps p.tables e below (T1.setTop (mkF m 222 #[.val (.int p0), .val (.ref b1), .val (.int (20 : Int32)), .val (.ref (ad 20)), .unset] [])) _
    refine XS.iloadN X1.here hx rfl (hb hby at_222) rfl ?_
    show Steps p.tables e below (T1.setTop (mkF m 223 #[.val (.int p0), .val (.ref b1), .val (.int (20 : Int32)), .val (.ref (ad 20)), .unset] [(.int (20 : Int32))])) _
    refine XS.bipush X1.here hx rfl (hb hby at_223) ?_
    show Steps p.tables e below (T1.setTop (mkF m 225 #[.val (.int p0), .val (.ref b1), .val (.int (20 : Int32)), .val (.ref (ad 20)), .unset] [(.int (12 : Int32)), (.int (20 : Int32))])) _
    refine XS.icmpNo X1.here hx rfl (hb hby at_225) rfl (flt (by decide)).1 ?_
    show Steps p.tables e below (T1.setTop (mkF m 228 #[.val (.int p0), .val (.ref b1), .val (.int (20 : Int32)), .val (.ref (ad 20)), .unset] [])) _
    refine XS.iloadN X1.here hx rfl (hb hby at_228) rfl ?_
    show Steps p.tables e below (T1.setTop (mkF m 229 #[.val (.int p0), .val (.ref b1), .val (.int (20 : Int32)), .val (.ref (ad 20)), .unset] [(.int (20 : Int32))])) _
    refine XS.bipush X1.here hx rfl (hb hby at_229) ?_
    show Steps p.tables e below (T1.setTop (mkF m 231 #[.val (.int p0), .val (.ref b1), .val (.int (20 : Int32)), .val (.ref (ad 20)), .unset] [(.int (15 : Int32)), (.int (20 : Int32))])) _
    refine XS.icmpYes X1.here hx rfl (pc0 := 231) (pc' := 238) rfl (hb hby at_231) rfl (tlt (by decide)).2.2.1 (by decide) (by decide) ?_
    show Steps p.tables e below (T1.setTop (mkF m 238 #[.val (.int p0), .val (.ref b1), .val (.int (20 : Int32)), .val (.ref (ad 20)), .unset] [])) _
    refine XS.iconst X1.here hx rfl (hb hby at_238) ?_
    show Steps p.tables e below (T1.setTop (mkF m 239 #[.val (.int p0), .val (.ref b1), .val (.int (20 : Int32)), .val (.ref (ad 20)), .unset] [(.int (0 : Int32))])) _
    refine XS.istore X1.here hx rfl (hb hby at_239) rfl (l' := #[.val (.int p0), .val (.ref b1), .val (.int (20 : Int32)), .val (.ref (ad 20)), .val (.int (0 : Int32))]) rfl ?_
    show Steps p.tables e below (T1.setTop (mkF m 241 #[.val (.int p0), .val (.ref b1), .val (.int (20 : Int32)), .val (.ref (ad 20)), .val (.int (0 : Int32))] [])) _
    refine XS.aloadN X1.here hx rfl (hb hby at_241) rfl rfl ?_
    show Steps p.tables e below (T1.setTop (mkF m 242 #[.val (.int p0), .val (.ref b1), .val (.int (20 : Int32)), .val (.ref (ad 20)), .val (.int (0 : Int32))] [(.ref (ad 20))])) _
    refine st3.trans ?_
    show Steps p.tables e below (T3.setTop (mkF m 245 #[.val (.int p0), .val (.ref b1), .val (.int (20 : Int32)), .val (.ref (ad 20)), .val (.int (0 : Int32))] [(.int (0 : Int32))])) _
    refine XS.iload X3.here hx rfl (hb hby at_245) rfl ?_
    show Steps p.tables e below (T3.setTop (mkF m 247 #[.val (.int p0), .val (.ref b1), .val (.int (20 : Int32)), .val (.ref (ad 20)), .val (.int (0 : Int32))] [(.int (0 : Int32)), (.int (0 : Int32))])) _
    refine XS.icmpNo X3.here hx rfl (hb hby at_247) rfl (teq (by decide)).2 ?_
    show Steps p.tables e below (T3.setTop (mkF m 250 #[.val (.int p0), .val (.ref b1), .val (.int (20 : Int32)), .val (.ref (ad 20)), .val (.int (0 : Int32))] [])) _
    refine XS.iconst X3.here hx rfl (hb hby at_250) ?_
    show Steps p.tables e below (T3.setTop (mkF m 251 #[.val (.int p0), .val (.ref b1), .val (.int (20 : Int32)), .val (.ref (ad 20)), .val (.int (0 : Int32))] [(.int (1 : Int32))])) _
    refine XS.goto X3.here hx rfl (pc0 := 251) (pc' := 255) rfl (hb hby at_251) (by decide) (by decide) ?_
    show Steps p.tables e below (T3.setTop (mkF m 255 #[.val (.int p0), .val (.ref b1), .val (.int (20 : Int32)), .val (.ref (ad 20)), .val (.int (0 : Int32))] [(.int (1 : Int32))])) _
    exact retN X3 hx (t := .boolean) Bd.returns (by simp) (hb hby at_255) hr
  · exact ⟨rfl, N3⟩
set_option maxRecDepth 65536 in
set_option maxHeartbeats 40000000 in
theorem rm1_ad21 (l : Launch) (Z : State) (a0 : Array Value) (hw : ∀ d ∈ tables_1, d.before a0 Z = true) (ws : List Jvm.Cond) (ad : Nat → Addr) (NF : Facts Z ad) (h0 : Heap) (n0 : Nat) (Ol : Old Z n0 h0) :
    MetFree l (⟨"com/example/pivotlex/pivotlex/terminology/IssueCode", "isOfValueSet", "()Z"⟩ : MethodName) (head1 (Jvm.Cond.code (⟨"com/example/pivotlex/pivotlex/terminology/IssueCode", "isOfValueSet", "()Z"⟩ : MethodName) prog_80_method_4_code 1 (some .boolean) :: ws) ({ frames := 0, cells := 0, slots := 0, locals := 0 } : Room)) (fun a U => a = #[(.ref (ad 21))] ∧ Z.Warmed39 U.vm ∧ U.heap = h0) (fun _ _ _ _ _ => True) (fun _ U o U' => ∃ v L, o = .returned v ∧ QS (.int (0 : Int32)) h0 n0 v U'.heap L ∧ FrameEnd U o U' L ({ frames := 0, cells := 0, slots := 0, locals := 0 } : Room).cells ({ frames := 0, cells := 0, slots := 0, locals := 0 } : Room).slots) := by
  refine MetFree.of_bodySF (plainFor_of_name pn_1) hisR ?_
  intro p e s m args below meth c s₁ Bd hml0 hP hK
  obtain ⟨rfl, hZ, hh⟩ := hP
  have hx := Bd.exec
  have hby := Bd.bytes
  have hml : c.maxLocals = 1 := hml0
  have hown : s.vm.findClass "com/example/pivotlex/pivotlex/terminology/IssueCode" = some m.cls := findClass_of_methodNamed Bd.named
  have X0 : Stand p l e ({ frames := 0, cells := 0, slots := 0, locals := 0 } : Room) s m #[(.ref (ad 21))] below meth c s₁ [] 0 0 := Stand.of_body Bd
  have e0 : s₁.heap = h0 := by rw [← hh, Bd.state]; rfl
  have N0 := Fr.nil n0
  have pre0 : ∀ t, Steps p.tables e below (s₁.setTop (mkF m 0 #[.val (.ref (ad 21))] [])) t → Steps p.tables e below (s₁.setTop (entryFrame m #[(.ref (ad 21))] 1)) t := fun t k => castTop (ef_1_R m (ad 21)) k
  obtain ⟨T1, X1, e1, st1⟩ := getS2 X0 hx hZ hown (host := "") (Or.inl (hw _ (List.mem_of_getElem? (i := 70) rfl))) Via.refl e0 ((ft_42 NF).ext Ol.2) (g := (mkF m 1 #[.val (.ref (ad 21))] [(.ref (ad 21))])) rfl (hb hby d1_1)
  obtain ⟨T2, X2, e2, st2⟩ := getS2 X1 hx hZ hown (host := "") (Or.inl (hw _ (List.mem_of_getElem? (i := 71) rfl))) Via.refl e1 ((ft_43 NF).ext Ol.2) (g := (mkF m 8 #[.val (.ref (ad 21))] [(.ref (ad 21))])) rfl (hb hby d1_8)
  obtain ⟨T3, X3, e3, st3⟩ := getS2 X2 hx hZ hown (host := "") (Or.inl (hw _ (List.mem_of_getElem? (i := 72) rfl))) Via.refl e2 ((ft_44 NF).ext Ol.2) (g := (mkF m 15 #[.val (.ref (ad 21))] [(.ref (ad 21))])) rfl (hb hby d1_15)
  obtain ⟨T4, X4, e4, st4⟩ := getS2 X3 hx hZ hown (host := "") (Or.inl (hw _ (List.mem_of_getElem? (i := 73) rfl))) Via.refl e3 ((ft_45 NF).ext Ol.2) (g := (mkF m 22 #[.val (.ref (ad 21))] [(.ref (ad 21))])) rfl (hb hby d1_22)
  obtain ⟨fs, hr, hrun, hended, hW, hsame⟩ := X4.leave (v := some (.int (0 : Int32))) (fun h => by rw [Bd.returns] at h; cases h)
  refine ⟨_, _, pre0 _ ?_, hrun, hended, _, _, rfl, ?_, ⟨_, rfl⟩, hW, hsame.mono (by decide) (by decide)⟩
  · show Steps p.tables e below (s₁.setTop (mkF m 0 #[.val (.ref (ad 21))] [])) _
    refine XS.aloadN X0.here hx rfl (hb hby d1_0) rfl rfl ?_
    show Steps p.tables e below (s₁.setTop (mkF m 1 #[.val (.ref (ad 21))] [(.ref (ad 21))])) _
    refine st1 _ ?_
    show Steps p.tables e below (T1.setTop (mkF m 4 #[.val (.ref (ad 21))] [(.ref (ad 12)), (.ref (ad 21))])) _
    refine acmp X1 hx rfl (x := (.ref (ad 21))) (y := (.ref (ad 12))) rfl rfl (pc0 := 4) (pc' := 7) (same := false) rfl (hb hby d1_4) rfl (decide_eq_false (fun h => (Fld.ne (ft_67 NF) (ft_61 NF) (by decide)) (Value.ref.inj h))) (by decide) (by decide) ?_
    show Steps p.tables e below (T1.setTop (mkF m 7 #[.val (.ref (ad 21))] [])) _
    refine XS.aloadN X1.here hx rfl (hb hby d1_7) rfl rfl ?_
    show Steps p.tables e below (T1.setTop (mkF m 8 #[.val (.ref (ad 21))] [(.ref (ad 21))])) _
    refine st2 _ ?_
    show Steps p.tables e below (T2.setTop (mkF m 11 #[.val (.ref (ad 21))] [(.ref (ad 13)), (.ref (ad 21))])) _
    refine acmp X2 hx rfl (x := (.ref (ad 21))) (y := (.ref (ad 13))) rfl rfl (pc0 := 11) (pc' := 14) (same := false) rfl (hb hby d1_11) rfl (decide_eq_false (fun h => (Fld.ne (ft_67 NF) (ft_62 NF) (by decide)) (Value.ref.inj h))) (by decide) (by decide) ?_
    show Steps p.tables e below (T2.setTop (mkF m 14 #[.val (.ref (ad 21))] [])) _
    refine XS.aloadN X2.here hx rfl (hb hby d1_14) rfl rfl ?_
    show Steps p.tables e below (T2.setTop (mkF m 15 #[.val (.ref (ad 21))] [(.ref (ad 21))])) _
    refine st3 _ ?_
    show Steps p.tables e below (T3.setTop (mkF m 18 #[.val (.ref (ad 21))] [(.ref (ad 14)), (.ref (ad 21))])) _
    refine acmp X3 hx rfl (x := (.ref (ad 21))) (y := (.ref (ad 14))) rfl rfl (pc0 := 18) (pc' := 21) (same := false) rfl (hb hby d1_18) rfl (decide_eq_false (fun h => (Fld.ne (ft_67 NF) (ft_63 NF) (by decide)) (Value.ref.inj h))) (by decide) (by decide) ?_
    show Steps p.tables e below (T3.setTop (mkF m 21 #[.val (.ref (ad 21))] [])) _
    refine XS.aloadN X3.here hx rfl (hb hby d1_21) rfl rfl ?_
    show Steps p.tables e below (T3.setTop (mkF m 22 #[.val (.ref (ad 21))] [(.ref (ad 21))])) _
    refine st4 _ ?_
    show Steps p.tables e below (T4.setTop (mkF m 25 #[.val (.ref (ad 21))] [(.ref (ad 15)), (.ref (ad 21))])) _
    refine acmp X4 hx rfl (x := (.ref (ad 21))) (y := (.ref (ad 15))) rfl rfl (pc0 := 25) (pc' := 32) (same := false) rfl (hb hby d1_25) rfl (decide_eq_false (fun h => (Fld.ne (ft_67 NF) (ft_64 NF) (by decide)) (Value.ref.inj h))) (by decide) (by decide) ?_
    show Steps p.tables e below (T4.setTop (mkF m 32 #[.val (.ref (ad 21))] [])) _
    refine XS.iconst X4.here hx rfl (hb hby d1_32) ?_
    show Steps p.tables e below (T4.setTop (mkF m 33 #[.val (.ref (ad 21))] [(.int (0 : Int32))])) _
    exact retN X4 hx (t := .boolean) Bd.returns (by simp) (hb hby d1_33) hr
  · exact ⟨rfl, N0, e4⟩
set_option maxRecDepth 65536 in
set_option maxHeartbeats 40000000 in
theorem rm0_21 (l : Launch) (Z : State) (a0 : Array Value) (hw : ∀ d ∈ tables_1, d.before a0 Z = true) (ws : List Jvm.Cond) (ad : Nat → Addr) (NF : Facts Z ad) (h0 : Heap) (n0 : Nat) (Ol : Old Z n0 h0) (p0 : Int32) (hi : (p0 &&& (2147483647 : Int32)) % (30 : Int32) = (21 : Int32)) :
    MetFree l x (head1 (Jvm.Cond.code x code maxLocals ret :: ws) room_1) (fun a U => a = #[(.int p0)] ∧ Z.Warmed39 U.vm ∧ U.heap = h0) (fun _ _ _ _ _ => True) (fun _ U o U' => ∃ v L, o = .returned v ∧ QL n0 v U'.heap L ∧ FrameEnd U o U' L room_1.cells room_1.slots) := by
  refine MetFree.of_bodySF (plainFor_of_name pn_0) hisR ?_
  intro p e s m args below meth c s₁ Bd hml0 hP hK
  obtain ⟨rfl, hZ, hh⟩ := hP
  have hx := Bd.exec
  have hby := Bd.bytes
  have hml : c.maxLocals = 5 := hml0
  have hown : s.vm.findClass "com/example/pivotlex/pivotlex/terminology/IssueCodeIsOfValueSetPinLaw" = some m.cls := findClass_of_methodNamed Bd.named
  have X0 : Stand p l e room_1 s m #[(.int p0)] below meth c s₁ [] 0 0 := Stand.of_body Bd
  have e0 : s₁.heap = h0 := by rw [← hh, Bd.state]; rfl
  have N0 := Fr.nil n0
  have pre0 : ∀ t, Steps p.tables e below (s₁.setTop (mkF m 0 #[.val (.int p0), .unset, .unset, .unset, .unset] [])) t → Steps p.tables e below (s₁.setTop (entryFrame m #[(.int p0)] maxLocals)) t := fun t k => castTop (ef_0_I m (p0)) k
  obtain ⟨T1, h1, Lc1, b1, k1, X1, e1, Ol1, K1, N1, V1, st1⟩ := fill hw ad NF h0 n0 Ol p0 X0 hx hZ hby hml hown e0
  obtain ⟨cl2, Ar2, q2, S2, M2, H2, G2⟩ := id V1
  have hin2 : ¬ ((21 : Int32) < 0 ∨ cl2.slots.size ≤ ((21 : Int32)).toNatClampNeg) := inb_of S2 ⟨by decide, by decide⟩
  have hat2 : cl2.slots[((21 : Int32)).toNatClampNeg]? = some (.ref (ad 21)) := Has.at H2 hin2 rfl
  obtain ⟨cq3, kq3, qa3, qb3, qc3⟩ := isOf hZ e1 ((ft_21 NF).ext Ol1.2)
  obtain ⟨_, _, ⟨T3, L3, k3, n3⟩, -, X3, ⟨Lc3, hQ3, l3, y3, z3⟩, st3⟩ := X1.virtualBack hx (y := (⟨"com/example/pivotlex/pivotlex/terminology/IssueCode", "isOfValueSet", "()Z"⟩ : MethodName)) (z := (⟨"com/example/pivotlex/pivotlex/terminology/IssueCode", "isOfValueSet", "()Z"⟩ : MethodName)) hown (mvT hZ (hw _ (List.mem_of_getElem? (i := 65) rfl))) (mvT hZ (hw _ (List.mem_of_getElem? (i := 66) rfl))) (notFace_of_selects (args := #[]) (mvT hZ (hw _ (List.mem_of_getElem? (i := 68) rfl)))) (mvT hZ (hw _ (List.mem_of_getElem? (i := 68) rfl))) (mvT hZ (hw _ (List.mem_of_getElem? (i := 67) rfl))) (by decide) (backOf (W := 0) (rm1_ad21 l Z a0 hw [] ad NF h1 n0 Ol1) hZ (hw _ (List.mem_of_getElem? (i := 69) rfl)) (hw _ (List.mem_of_getElem? (i := 3) rfl)) (by decide) (by decide)) qa3 qc3 (g := (mkF m 242 #[.val (.int p0), .val (.ref b1), .val (.int (21 : Int32)), .val (.ref (ad 21)), .val (.int (0 : Int32))] [(.ref (ad 21))])) rfl (by rw [hml]; rfl) (Steps.refl _) (argsL := []) (rest := []) (lenOf pd_1 rfl) rfl (by show 2 * 0 + _ ≤ _; exact Nat.le_of_eq rfl) (hb hby at_242) (fun _ _ => ⟨rfl, e1, (by decide : 1 + 0 ≤ _), (by decide : 30 + 0 ≤ _)⟩)
  dsimp only [Pt.U, Pt.locs, Pt.cells, Pt.slots] at X3 l3 y3 z3 st3 hQ3
  subst l3 y3 z3
  obtain ⟨rfl, Nq3, e3⟩ := hQ3
  have N3 := Fr.app N1 Nq3
  obtain ⟨fs, hr, hrun, hended, hW, hsame⟩ := X3.leave (v := some (.int (1 : Int32))) (fun h => by rw [Bd.returns] at h; cases h)
  refine ⟨_, _, pre0 _ ?_, hrun, hended, _, _, rfl, ?_, ⟨_, rfl⟩, hW, hsame.mono (by decide) (by decide)⟩
  · show Steps p.tables e below (s₁.setTop (mkF m 0 #[.val (.int p0), .unset, .unset, .unset, .unset] [])) _
    refine st1 _ ?_
    show Steps p.tables e below (T1.setTop (mkF m 210 #[.val (.int p0), .val (.ref b1), .unset, .unset, .unset] [])) _
    refine XS.iloadN X1.here hx rfl (hb hby at_210) rfl ?_
    show Steps p.tables e below (T1.setTop (mkF m 211 #[.val (.int p0), .val (.ref b1), .unset, .unset, .unset] [(.int p0)])) _
    refine X1.ldcInt hx hown (mvT hZ (hw _ (List.mem_of_getElem? (i := 64) rfl))) (g := (mkF m 211 #[.val (.int p0), .val (.ref b1), .unset, .unset, .unset] [(.int p0)])) rfl (hb hby at_211) _ ?_
    show Steps p.tables e below (T1.setTop (mkF m 213 #[.val (.int p0), .val (.ref b1), .unset, .unset, .unset] [(.int (2147483647 : Int32)), (.int p0)])) _
    refine XS.iand X1.here hx rfl (hb hby at_213) rfl ?_
    show Steps p.tables e below (T1.setTop (mkF m 214 #[.val (.int p0), .val (.ref b1), .unset, .unset, .unset] [(.int (p0 &&& (2147483647 : Int32)))])) _
    refine XS.bipush X1.here hx rfl (hb hby at_214) ?_
    show Steps p.tables e below (T1.setTop (mkF m 216 #[.val (.int p0), .val (.ref b1), .unset, .unset, .unset] [(.int (30 : Int32)), (.int (p0 &&& (2147483647 : Int32)))])) _
    refine iremM X1 hx rfl (hb hby at_216) rfl (by decide) ?_
    show Steps p.tables e below (T1.setTop (mkF m 217 #[.val (.int p0), .val (.ref b1), .unset, .unset, .unset] [(.int ((p0 &&& (2147483647 : Int32)) % (30 : Int32)))])) _
    rw [hi]
    show Steps p.tables e below (T1.setTop (mkF m 217 #[.val (.int p0), .val (.ref b1), .unset, .unset, .unset] [(.int (21 : Int32))])) _
    refine XS.istoreN X1.here hx rfl (hb hby at_217) rfl (l' := #[.val (.int p0), .val (.ref b1), .val (.int (21 : Int32)), .unset, .unset]) rfl ?_
    show Steps p.tables e below (T1.setTop (mkF m 218 #[.val (.int p0), .val (.ref b1), .val (.int (21 : Int32)), .unset, .unset] [])) _
    refine XS.aloadN X1.here hx rfl (hb hby at_218) rfl rfl ?_
    show Steps p.tables e below (T1.setTop (mkF m 219 #[.val (.int p0), .val (.ref b1), .val (.int (21 : Int32)), .unset, .unset] [(.ref b1)])) _
    refine XS.iloadN X1.here hx rfl (hb hby at_219) rfl ?_
    show Steps p.tables e below (T1.setTop (mkF m 220 #[.val (.int p0), .val (.ref b1), .val (.int (21 : Int32)), .unset, .unset] [(.int (21 : Int32)), (.ref b1)])) _
    refine X1.aaload hx (j := (21 : Int32)) (v := (.ref (ad 21))) (by rw [e1]; exact Ar2.1) (State.isArrayOf_alike hZ.alike Ar2.2.1) rfl Ar2.2.2 hin2 hat2 (g := (mkF m 220 #[.val (.int p0), .val (.ref b1), .val (.int (21 : Int32)), .unset, .unset] [(.int (21 : Int32)), (.ref b1)])) rfl rfl (hb hby at_220) _ ?_
    show Steps p.tables e below (T1.setTop (mkF m 221 #[.val (.int p0), .val (.ref b1), .val (.int (21 : Int32)), .unset, .unset] [(.ref (ad 21))])) _
    refine XS.astoreN X1.here hx rfl (hb hby at_221) rfl rfl (l' := #[.val (.int p0), .val (.ref b1), .val (.int (21 : Int32)), .val (.ref (ad 21)), .unset]) rfl ?_
    show Steps p.tables e below (T1.setTop (mkF m 222 #[.val (.int p0), .val (.ref b1), .val (.int (21 : Int32)), .val (.ref (ad 21)), .unset] [])) _
    refine XS.iloadN X1.here hx rfl (hb hby at_222) rfl ?_
    show Steps p.tables e below (T1.setTop (mkF m 223 #[.val (.int p0), .val (.ref b1), .val (.int (21 : Int32)), .val (.ref (ad 21)), .unset] [(.int (21 : Int32))])) _
    refine XS.bipush X1.here hx rfl (hb hby at_223) ?_
    show Steps p.tables e below (T1.setTop (mkF m 225 #[.val (.int p0), .val (.ref b1), .val (.int (21 : Int32)), .val (.ref (ad 21)), .unset] [(.int (12 : Int32)), (.int (21 : Int32))])) _
    refine XS.icmpNo X1.here hx rfl (hb hby at_225) rfl (flt (by decide)).1 ?_
    show Steps p.tables e below (T1.setTop (mkF m 228 #[.val (.int p0), .val (.ref b1), .val (.int (21 : Int32)), .val (.ref (ad 21)), .unset] [])) _
    refine XS.iloadN X1.here hx rfl (hb hby at_228) rfl ?_
    show Steps p.tables e below (T1.setTop (mkF m 229 #[.val (.int p0), .val (.ref b1), .val (.int (21 : Int32)), .val (.ref (ad 21)), .unset] [(.int (21 : Int32))])) _
    refine XS.bipush X1.here hx rfl (hb hby at_229) ?_
    show Steps p.tables e below (T1.setTop (mkF m 231 #[.val (.int p0), .val (.ref b1), .val (.int (21 : Int32)), .val (.ref (ad 21)), .unset] [(.int (15 : Int32)), (.int (21 : Int32))])) _
    refine XS.icmpYes X1.here hx rfl (pc0 := 231) (pc' := 238) rfl (hb hby at_231) rfl (tlt (by decide)).2.2.1 (by decide) (by decide) ?_
    show Steps p.tables e below (T1.setTop (mkF m 238 #[.val (.int p0), .val (.ref b1), .val (.int (21 : Int32)), .val (.ref (ad 21)), .unset] [])) _
    refine XS.iconst X1.here hx rfl (hb hby at_238) ?_
    show Steps p.tables e below (T1.setTop (mkF m 239 #[.val (.int p0), .val (.ref b1), .val (.int (21 : Int32)), .val (.ref (ad 21)), .unset] [(.int (0 : Int32))])) _
    refine XS.istore X1.here hx rfl (hb hby at_239) rfl (l' := #[.val (.int p0), .val (.ref b1), .val (.int (21 : Int32)), .val (.ref (ad 21)), .val (.int (0 : Int32))]) rfl ?_
    show Steps p.tables e below (T1.setTop (mkF m 241 #[.val (.int p0), .val (.ref b1), .val (.int (21 : Int32)), .val (.ref (ad 21)), .val (.int (0 : Int32))] [])) _
    refine XS.aloadN X1.here hx rfl (hb hby at_241) rfl rfl ?_
    show Steps p.tables e below (T1.setTop (mkF m 242 #[.val (.int p0), .val (.ref b1), .val (.int (21 : Int32)), .val (.ref (ad 21)), .val (.int (0 : Int32))] [(.ref (ad 21))])) _
    refine st3.trans ?_
    show Steps p.tables e below (T3.setTop (mkF m 245 #[.val (.int p0), .val (.ref b1), .val (.int (21 : Int32)), .val (.ref (ad 21)), .val (.int (0 : Int32))] [(.int (0 : Int32))])) _
    refine XS.iload X3.here hx rfl (hb hby at_245) rfl ?_
    show Steps p.tables e below (T3.setTop (mkF m 247 #[.val (.int p0), .val (.ref b1), .val (.int (21 : Int32)), .val (.ref (ad 21)), .val (.int (0 : Int32))] [(.int (0 : Int32)), (.int (0 : Int32))])) _
    refine XS.icmpNo X3.here hx rfl (hb hby at_247) rfl (teq (by decide)).2 ?_
    show Steps p.tables e below (T3.setTop (mkF m 250 #[.val (.int p0), .val (.ref b1), .val (.int (21 : Int32)), .val (.ref (ad 21)), .val (.int (0 : Int32))] [])) _
    refine XS.iconst X3.here hx rfl (hb hby at_250) ?_
    show Steps p.tables e below (T3.setTop (mkF m 251 #[.val (.int p0), .val (.ref b1), .val (.int (21 : Int32)), .val (.ref (ad 21)), .val (.int (0 : Int32))] [(.int (1 : Int32))])) _
    refine XS.goto X3.here hx rfl (pc0 := 251) (pc' := 255) rfl (hb hby at_251) (by decide) (by decide) ?_
    show Steps p.tables e below (T3.setTop (mkF m 255 #[.val (.int p0), .val (.ref b1), .val (.int (21 : Int32)), .val (.ref (ad 21)), .val (.int (0 : Int32))] [(.int (1 : Int32))])) _
    exact retN X3 hx (t := .boolean) Bd.returns (by simp) (hb hby at_255) hr
  · exact ⟨rfl, N3⟩
set_option maxRecDepth 65536 in
set_option maxHeartbeats 40000000 in
theorem rm1_ad22 (l : Launch) (Z : State) (a0 : Array Value) (hw : ∀ d ∈ tables_1, d.before a0 Z = true) (ws : List Jvm.Cond) (ad : Nat → Addr) (NF : Facts Z ad) (h0 : Heap) (n0 : Nat) (Ol : Old Z n0 h0) :
    MetFree l (⟨"com/example/pivotlex/pivotlex/terminology/IssueCode", "isOfValueSet", "()Z"⟩ : MethodName) (head1 (Jvm.Cond.code (⟨"com/example/pivotlex/pivotlex/terminology/IssueCode", "isOfValueSet", "()Z"⟩ : MethodName) prog_80_method_4_code 1 (some .boolean) :: ws) ({ frames := 0, cells := 0, slots := 0, locals := 0 } : Room)) (fun a U => a = #[(.ref (ad 22))] ∧ Z.Warmed39 U.vm ∧ U.heap = h0) (fun _ _ _ _ _ => True) (fun _ U o U' => ∃ v L, o = .returned v ∧ QS (.int (0 : Int32)) h0 n0 v U'.heap L ∧ FrameEnd U o U' L ({ frames := 0, cells := 0, slots := 0, locals := 0 } : Room).cells ({ frames := 0, cells := 0, slots := 0, locals := 0 } : Room).slots) := by
  refine MetFree.of_bodySF (plainFor_of_name pn_1) hisR ?_
  intro p e s m args below meth c s₁ Bd hml0 hP hK
  obtain ⟨rfl, hZ, hh⟩ := hP
  have hx := Bd.exec
  have hby := Bd.bytes
  have hml : c.maxLocals = 1 := hml0
  have hown : s.vm.findClass "com/example/pivotlex/pivotlex/terminology/IssueCode" = some m.cls := findClass_of_methodNamed Bd.named
  have X0 : Stand p l e ({ frames := 0, cells := 0, slots := 0, locals := 0 } : Room) s m #[(.ref (ad 22))] below meth c s₁ [] 0 0 := Stand.of_body Bd
  have e0 : s₁.heap = h0 := by rw [← hh, Bd.state]; rfl
  have N0 := Fr.nil n0
  have pre0 : ∀ t, Steps p.tables e below (s₁.setTop (mkF m 0 #[.val (.ref (ad 22))] [])) t → Steps p.tables e below (s₁.setTop (entryFrame m #[(.ref (ad 22))] 1)) t := fun t k => castTop (ef_1_R m (ad 22)) k
  obtain ⟨T1, X1, e1, st1⟩ := getS2 X0 hx hZ hown (host := "") (Or.inl (hw _ (List.mem_of_getElem? (i := 70) rfl))) Via.refl e0 ((ft_42 NF).ext Ol.2) (g := (mkF m 1 #[.val (.ref (ad 22))] [(.ref (ad 22))])) rfl (hb hby d1_1)
  obtain ⟨T2, X2, e2, st2⟩ := getS2 X1 hx hZ hown (host := "") (Or.inl (hw _ (List.mem_of_getElem? (i := 71) rfl))) Via.refl e1 ((ft_43 NF).ext Ol.2) (g := (mkF m 8 #[.val (.ref (ad 22))] [(.ref (ad 22))])) rfl (hb hby d1_8)
  obtain ⟨T3, X3, e3, st3⟩ := getS2 X2 hx hZ hown (host := "") (Or.inl (hw _ (List.mem_of_getElem? (i := 72) rfl))) Via.refl e2 ((ft_44 NF).ext Ol.2) (g := (mkF m 15 #[.val (.ref (ad 22))] [(.ref (ad 22))])) rfl (hb hby d1_15)
  obtain ⟨T4, X4, e4, st4⟩ := getS2 X3 hx hZ hown (host := "") (Or.inl (hw _ (List.mem_of_getElem? (i := 73) rfl))) Via.refl e3 ((ft_45 NF).ext Ol.2) (g := (mkF m 22 #[.val (.ref (ad 22))] [(.ref (ad 22))])) rfl (hb hby d1_22)
  obtain ⟨fs, hr, hrun, hended, hW, hsame⟩ := X4.leave (v := some (.int (0 : Int32))) (fun h => by rw [Bd.returns] at h; cases h)
  refine ⟨_, _, pre0 _ ?_, hrun, hended, _, _, rfl, ?_, ⟨_, rfl⟩, hW, hsame.mono (by decide) (by decide)⟩
  · show Steps p.tables e below (s₁.setTop (mkF m 0 #[.val (.ref (ad 22))] [])) _
    refine XS.aloadN X0.here hx rfl (hb hby d1_0) rfl rfl ?_
    show Steps p.tables e below (s₁.setTop (mkF m 1 #[.val (.ref (ad 22))] [(.ref (ad 22))])) _
    refine st1 _ ?_
    show Steps p.tables e below (T1.setTop (mkF m 4 #[.val (.ref (ad 22))] [(.ref (ad 12)), (.ref (ad 22))])) _
    refine acmp X1 hx rfl (x := (.ref (ad 22))) (y := (.ref (ad 12))) rfl rfl (pc0 := 4) (pc' := 7) (same := false) rfl (hb hby d1_4) rfl (decide_eq_false (fun h => (Fld.ne (ft_87 NF) (ft_61 NF) (by decide)) (Value.ref.inj h))) (by decide) (by decide) ?_
    show Steps p.tables e below (T1.setTop (mkF m 7 #[.val (.ref (ad 22))] [])) _
    refine XS.aloadN X1.here hx rfl (hb hby d1_7) rfl rfl ?_
    show Steps p.tables e below (T1.setTop (mkF m 8 #[.val (.ref (ad 22))] [(.ref (ad 22))])) _
    refine st2 _ ?_
    show Steps p.tables e below (T2.setTop (mkF m 11 #[.val (.ref (ad 22))] [(.ref (ad 13)), (.ref (ad 22))])) _
    refine acmp X2 hx rfl (x := (.ref (ad 22))) (y := (.ref (ad 13))) rfl rfl (pc0 := 11) (pc' := 14) (same := false) rfl (hb hby d1_11) rfl (decide_eq_false (fun h => (Fld.ne (ft_87 NF) (ft_62 NF) (by decide)) (Value.ref.inj h))) (by decide) (by decide) ?_
    show Steps p.tables e below (T2.setTop (mkF m 14 #[.val (.ref (ad 22))] [])) _
    refine XS.aloadN X2.here hx rfl (hb hby d1_14) rfl rfl ?_
    show Steps p.tables e below (T2.setTop (mkF m 15 #[.val (.ref (ad 22))] [(.ref (ad 22))])) _
    refine st3 _ ?_
    show Steps p.tables e below (T3.setTop (mkF m 18 #[.val (.ref (ad 22))] [(.ref (ad 14)), (.ref (ad 22))])) _
    refine acmp X3 hx rfl (x := (.ref (ad 22))) (y := (.ref (ad 14))) rfl rfl (pc0 := 18) (pc' := 21) (same := false) rfl (hb hby d1_18) rfl (decide_eq_false (fun h => (Fld.ne (ft_87 NF) (ft_63 NF) (by decide)) (Value.ref.inj h))) (by decide) (by decide) ?_
    show Steps p.tables e below (T3.setTop (mkF m 21 #[.val (.ref (ad 22))] [])) _
    refine XS.aloadN X3.here hx rfl (hb hby d1_21) rfl rfl ?_
    show Steps p.tables e below (T3.setTop (mkF m 22 #[.val (.ref (ad 22))] [(.ref (ad 22))])) _
    refine st4 _ ?_
    show Steps p.tables e below (T4.setTop (mkF m 25 #[.val (.ref (ad 22))] [(.ref (ad 15)), (.ref (ad 22))])) _
    refine acmp X4 hx rfl (x := (.ref (ad 22))) (y := (.ref (ad 15))) rfl rfl (pc0 := 25) (pc' := 32) (same := false) rfl (hb hby d1_25) rfl (decide_eq_false (fun h => (Fld.ne (ft_87 NF) (ft_64 NF) (by decide)) (Value.ref.inj h))) (by decide) (by decide) ?_
    show Steps p.tables e below (T4.setTop (mkF m 32 #[.val (.ref (ad 22))] [])) _
    refine XS.iconst X4.here hx rfl (hb hby d1_32) ?_
    show Steps p.tables e below (T4.setTop (mkF m 33 #[.val (.ref (ad 22))] [(.int (0 : Int32))])) _
    exact retN X4 hx (t := .boolean) Bd.returns (by simp) (hb hby d1_33) hr
  · exact ⟨rfl, N0, e4⟩
set_option maxRecDepth 65536 in
set_option maxHeartbeats 40000000 in
theorem rm0_22 (l : Launch) (Z : State) (a0 : Array Value) (hw : ∀ d ∈ tables_1, d.before a0 Z = true) (ws : List Jvm.Cond) (ad : Nat → Addr) (NF : Facts Z ad) (h0 : Heap) (n0 : Nat) (Ol : Old Z n0 h0) (p0 : Int32) (hi : (p0 &&& (2147483647 : Int32)) % (30 : Int32) = (22 : Int32)) :
    MetFree l x (head1 (Jvm.Cond.code x code maxLocals ret :: ws) room_1) (fun a U => a = #[(.int p0)] ∧ Z.Warmed39 U.vm ∧ U.heap = h0) (fun _ _ _ _ _ => True) (fun _ U o U' => ∃ v L, o = .returned v ∧ QL n0 v U'.heap L ∧ FrameEnd U o U' L room_1.cells room_1.slots) := by
  refine MetFree.of_bodySF (plainFor_of_name pn_0) hisR ?_
  intro p e s m args below meth c s₁ Bd hml0 hP hK
  obtain ⟨rfl, hZ, hh⟩ := hP
  have hx := Bd.exec
  have hby := Bd.bytes
  have hml : c.maxLocals = 5 := hml0
  have hown : s.vm.findClass "com/example/pivotlex/pivotlex/terminology/IssueCodeIsOfValueSetPinLaw" = some m.cls := findClass_of_methodNamed Bd.named
  have X0 : Stand p l e room_1 s m #[(.int p0)] below meth c s₁ [] 0 0 := Stand.of_body Bd
  have e0 : s₁.heap = h0 := by rw [← hh, Bd.state]; rfl
  have N0 := Fr.nil n0
  have pre0 : ∀ t, Steps p.tables e below (s₁.setTop (mkF m 0 #[.val (.int p0), .unset, .unset, .unset, .unset] [])) t → Steps p.tables e below (s₁.setTop (entryFrame m #[(.int p0)] maxLocals)) t := fun t k => castTop (ef_0_I m (p0)) k
  obtain ⟨T1, h1, Lc1, b1, k1, X1, e1, Ol1, K1, N1, V1, st1⟩ := fill hw ad NF h0 n0 Ol p0 X0 hx hZ hby hml hown e0
  obtain ⟨cl2, Ar2, q2, S2, M2, H2, G2⟩ := id V1
  have hin2 : ¬ ((22 : Int32) < 0 ∨ cl2.slots.size ≤ ((22 : Int32)).toNatClampNeg) := inb_of S2 ⟨by decide, by decide⟩
  have hat2 : cl2.slots[((22 : Int32)).toNatClampNeg]? = some (.ref (ad 22)) := Has.at H2 hin2 rfl
  obtain ⟨cq3, kq3, qa3, qb3, qc3⟩ := isOf hZ e1 ((ft_22 NF).ext Ol1.2)
  obtain ⟨_, _, ⟨T3, L3, k3, n3⟩, -, X3, ⟨Lc3, hQ3, l3, y3, z3⟩, st3⟩ := X1.virtualBack hx (y := (⟨"com/example/pivotlex/pivotlex/terminology/IssueCode", "isOfValueSet", "()Z"⟩ : MethodName)) (z := (⟨"com/example/pivotlex/pivotlex/terminology/IssueCode", "isOfValueSet", "()Z"⟩ : MethodName)) hown (mvT hZ (hw _ (List.mem_of_getElem? (i := 65) rfl))) (mvT hZ (hw _ (List.mem_of_getElem? (i := 66) rfl))) (notFace_of_selects (args := #[]) (mvT hZ (hw _ (List.mem_of_getElem? (i := 68) rfl)))) (mvT hZ (hw _ (List.mem_of_getElem? (i := 68) rfl))) (mvT hZ (hw _ (List.mem_of_getElem? (i := 67) rfl))) (by decide) (backOf (W := 0) (rm1_ad22 l Z a0 hw [] ad NF h1 n0 Ol1) hZ (hw _ (List.mem_of_getElem? (i := 69) rfl)) (hw _ (List.mem_of_getElem? (i := 3) rfl)) (by decide) (by decide)) qa3 qc3 (g := (mkF m 242 #[.val (.int p0), .val (.ref b1), .val (.int (22 : Int32)), .val (.ref (ad 22)), .val (.int (0 : Int32))] [(.ref (ad 22))])) rfl (by rw [hml]; rfl) (Steps.refl _) (argsL := []) (rest := []) (lenOf pd_1 rfl) rfl (by show 2 * 0 + _ ≤ _; exact Nat.le_of_eq rfl) (hb hby at_242) (fun _ _ => ⟨rfl, e1, (by decide : 1 + 0 ≤ _), (by decide : 30 + 0 ≤ _)⟩)
  dsimp only [Pt.U, Pt.locs, Pt.cells, Pt.slots] at X3 l3 y3 z3 st3 hQ3
  subst l3 y3 z3
  obtain ⟨rfl, Nq3, e3⟩ := hQ3
  have N3 := Fr.app N1 Nq3
  obtain ⟨fs, hr, hrun, hended, hW, hsame⟩ := X3.leave (v := some (.int (1 : Int32))) (fun h => by rw [Bd.returns] at h; cases h)
  refine ⟨_, _, pre0 _ ?_, hrun, hended, _, _, rfl, ?_, ⟨_, rfl⟩, hW, hsame.mono (by decide) (by decide)⟩
  · show Steps p.tables e below (s₁.setTop (mkF m 0 #[.val (.int p0), .unset, .unset, .unset, .unset] [])) _
    refine st1 _ ?_
    show Steps p.tables e below (T1.setTop (mkF m 210 #[.val (.int p0), .val (.ref b1), .unset, .unset, .unset] [])) _
    refine XS.iloadN X1.here hx rfl (hb hby at_210) rfl ?_
    show Steps p.tables e below (T1.setTop (mkF m 211 #[.val (.int p0), .val (.ref b1), .unset, .unset, .unset] [(.int p0)])) _
    refine X1.ldcInt hx hown (mvT hZ (hw _ (List.mem_of_getElem? (i := 64) rfl))) (g := (mkF m 211 #[.val (.int p0), .val (.ref b1), .unset, .unset, .unset] [(.int p0)])) rfl (hb hby at_211) _ ?_
    show Steps p.tables e below (T1.setTop (mkF m 213 #[.val (.int p0), .val (.ref b1), .unset, .unset, .unset] [(.int (2147483647 : Int32)), (.int p0)])) _
    refine XS.iand X1.here hx rfl (hb hby at_213) rfl ?_
    show Steps p.tables e below (T1.setTop (mkF m 214 #[.val (.int p0), .val (.ref b1), .unset, .unset, .unset] [(.int (p0 &&& (2147483647 : Int32)))])) _
    refine XS.bipush X1.here hx rfl (hb hby at_214) ?_
    show Steps p.tables e below (T1.setTop (mkF m 216 #[.val (.int p0), .val (.ref b1), .unset, .unset, .unset] [(.int (30 : Int32)), (.int (p0 &&& (2147483647 : Int32)))])) _
    refine iremM X1 hx rfl (hb hby at_216) rfl (by decide) ?_
    show Steps p.tables e below (T1.setTop (mkF m 217 #[.val (.int p0), .val (.ref b1), .unset, .unset, .unset] [(.int ((p0 &&& (2147483647 : Int32)) % (30 : Int32)))])) _
    rw [hi]
    show Steps p.tables e below (T1.setTop (mkF m 217 #[.val (.int p0), .val (.ref b1), .unset, .unset, .unset] [(.int (22 : Int32))])) _
    refine XS.istoreN X1.here hx rfl (hb hby at_217) rfl (l' := #[.val (.int p0), .val (.ref b1), .val (.int (22 : Int32)), .unset, .unset]) rfl ?_
    show Steps p.tables e below (T1.setTop (mkF m 218 #[.val (.int p0), .val (.ref b1), .val (.int (22 : Int32)), .unset, .unset] [])) _
    refine XS.aloadN X1.here hx rfl (hb hby at_218) rfl rfl ?_
    show Steps p.tables e below (T1.setTop (mkF m 219 #[.val (.int p0), .val (.ref b1), .val (.int (22 : Int32)), .unset, .unset] [(.ref b1)])) _
    refine XS.iloadN X1.here hx rfl (hb hby at_219) rfl ?_
    show Steps p.tables e below (T1.setTop (mkF m 220 #[.val (.int p0), .val (.ref b1), .val (.int (22 : Int32)), .unset, .unset] [(.int (22 : Int32)), (.ref b1)])) _
    refine X1.aaload hx (j := (22 : Int32)) (v := (.ref (ad 22))) (by rw [e1]; exact Ar2.1) (State.isArrayOf_alike hZ.alike Ar2.2.1) rfl Ar2.2.2 hin2 hat2 (g := (mkF m 220 #[.val (.int p0), .val (.ref b1), .val (.int (22 : Int32)), .unset, .unset] [(.int (22 : Int32)), (.ref b1)])) rfl rfl (hb hby at_220) _ ?_
    show Steps p.tables e below (T1.setTop (mkF m 221 #[.val (.int p0), .val (.ref b1), .val (.int (22 : Int32)), .unset, .unset] [(.ref (ad 22))])) _
    refine XS.astoreN X1.here hx rfl (hb hby at_221) rfl rfl (l' := #[.val (.int p0), .val (.ref b1), .val (.int (22 : Int32)), .val (.ref (ad 22)), .unset]) rfl ?_
    show Steps p.tables e below (T1.setTop (mkF m 222 #[.val (.int p0), .val (.ref b1), .val (.int (22 : Int32)), .val (.ref (ad 22)), .unset] [])) _
    refine XS.iloadN X1.here hx rfl (hb hby at_222) rfl ?_
    show Steps p.tables e below (T1.setTop (mkF m 223 #[.val (.int p0), .val (.ref b1), .val (.int (22 : Int32)), .val (.ref (ad 22)), .unset] [(.int (22 : Int32))])) _
    refine XS.bipush X1.here hx rfl (hb hby at_223) ?_
    show Steps p.tables e below (T1.setTop (mkF m 225 #[.val (.int p0), .val (.ref b1), .val (.int (22 : Int32)), .val (.ref (ad 22)), .unset] [(.int (12 : Int32)), (.int (22 : Int32))])) _
    refine XS.icmpNo X1.here hx rfl (hb hby at_225) rfl (flt (by decide)).1 ?_
    show Steps p.tables e below (T1.setTop (mkF m 228 #[.val (.int p0), .val (.ref b1), .val (.int (22 : Int32)), .val (.ref (ad 22)), .unset] [])) _
    refine XS.iloadN X1.here hx rfl (hb hby at_228) rfl ?_
    show Steps p.tables e below (T1.setTop (mkF m 229 #[.val (.int p0), .val (.ref b1), .val (.int (22 : Int32)), .val (.ref (ad 22)), .unset] [(.int (22 : Int32))])) _
    refine XS.bipush X1.here hx rfl (hb hby at_229) ?_
    show Steps p.tables e below (T1.setTop (mkF m 231 #[.val (.int p0), .val (.ref b1), .val (.int (22 : Int32)), .val (.ref (ad 22)), .unset] [(.int (15 : Int32)), (.int (22 : Int32))])) _
    refine XS.icmpYes X1.here hx rfl (pc0 := 231) (pc' := 238) rfl (hb hby at_231) rfl (tlt (by decide)).2.2.1 (by decide) (by decide) ?_
    show Steps p.tables e below (T1.setTop (mkF m 238 #[.val (.int p0), .val (.ref b1), .val (.int (22 : Int32)), .val (.ref (ad 22)), .unset] [])) _
    refine XS.iconst X1.here hx rfl (hb hby at_238) ?_
    show Steps p.tables e below (T1.setTop (mkF m 239 #[.val (.int p0), .val (.ref b1), .val (.int (22 : Int32)), .val (.ref (ad 22)), .unset] [(.int (0 : Int32))])) _
    refine XS.istore X1.here hx rfl (hb hby at_239) rfl (l' := #[.val (.int p0), .val (.ref b1), .val (.int (22 : Int32)), .val (.ref (ad 22)), .val (.int (0 : Int32))]) rfl ?_
    show Steps p.tables e below (T1.setTop (mkF m 241 #[.val (.int p0), .val (.ref b1), .val (.int (22 : Int32)), .val (.ref (ad 22)), .val (.int (0 : Int32))] [])) _
    refine XS.aloadN X1.here hx rfl (hb hby at_241) rfl rfl ?_
    show Steps p.tables e below (T1.setTop (mkF m 242 #[.val (.int p0), .val (.ref b1), .val (.int (22 : Int32)), .val (.ref (ad 22)), .val (.int (0 : Int32))] [(.ref (ad 22))])) _
    refine st3.trans ?_
    show Steps p.tables e below (T3.setTop (mkF m 245 #[.val (.int p0), .val (.ref b1), .val (.int (22 : Int32)), .val (.ref (ad 22)), .val (.int (0 : Int32))] [(.int (0 : Int32))])) _
    refine XS.iload X3.here hx rfl (hb hby at_245) rfl ?_
    show Steps p.tables e below (T3.setTop (mkF m 247 #[.val (.int p0), .val (.ref b1), .val (.int (22 : Int32)), .val (.ref (ad 22)), .val (.int (0 : Int32))] [(.int (0 : Int32)), (.int (0 : Int32))])) _
    refine XS.icmpNo X3.here hx rfl (hb hby at_247) rfl (teq (by decide)).2 ?_
    show Steps p.tables e below (T3.setTop (mkF m 250 #[.val (.int p0), .val (.ref b1), .val (.int (22 : Int32)), .val (.ref (ad 22)), .val (.int (0 : Int32))] [])) _
    refine XS.iconst X3.here hx rfl (hb hby at_250) ?_
    show Steps p.tables e below (T3.setTop (mkF m 251 #[.val (.int p0), .val (.ref b1), .val (.int (22 : Int32)), .val (.ref (ad 22)), .val (.int (0 : Int32))] [(.int (1 : Int32))])) _
    refine XS.goto X3.here hx rfl (pc0 := 251) (pc' := 255) rfl (hb hby at_251) (by decide) (by decide) ?_
    show Steps p.tables e below (T3.setTop (mkF m 255 #[.val (.int p0), .val (.ref b1), .val (.int (22 : Int32)), .val (.ref (ad 22)), .val (.int (0 : Int32))] [(.int (1 : Int32))])) _
    exact retN X3 hx (t := .boolean) Bd.returns (by simp) (hb hby at_255) hr
  · exact ⟨rfl, N3⟩
set_option maxRecDepth 65536 in
set_option maxHeartbeats 40000000 in
theorem rm1_ad23 (l : Launch) (Z : State) (a0 : Array Value) (hw : ∀ d ∈ tables_1, d.before a0 Z = true) (ws : List Jvm.Cond) (ad : Nat → Addr) (NF : Facts Z ad) (h0 : Heap) (n0 : Nat) (Ol : Old Z n0 h0) :
    MetFree l (⟨"com/example/pivotlex/pivotlex/terminology/IssueCode", "isOfValueSet", "()Z"⟩ : MethodName) (head1 (Jvm.Cond.code (⟨"com/example/pivotlex/pivotlex/terminology/IssueCode", "isOfValueSet", "()Z"⟩ : MethodName) prog_80_method_4_code 1 (some .boolean) :: ws) ({ frames := 0, cells := 0, slots := 0, locals := 0 } : Room)) (fun a U => a = #[(.ref (ad 23))] ∧ Z.Warmed39 U.vm ∧ U.heap = h0) (fun _ _ _ _ _ => True) (fun _ U o U' => ∃ v L, o = .returned v ∧ QS (.int (0 : Int32)) h0 n0 v U'.heap L ∧ FrameEnd U o U' L ({ frames := 0, cells := 0, slots := 0, locals := 0 } : Room).cells ({ frames := 0, cells := 0, slots := 0, locals := 0 } : Room).slots) := by
  refine MetFree.of_bodySF (plainFor_of_name pn_1) hisR ?_
  intro p e s m args below meth c s₁ Bd hml0 hP hK
  obtain ⟨rfl, hZ, hh⟩ := hP
  have hx := Bd.exec
  have hby := Bd.bytes
  have hml : c.maxLocals = 1 := hml0
  have hown : s.vm.findClass "com/example/pivotlex/pivotlex/terminology/IssueCode" = some m.cls := findClass_of_methodNamed Bd.named
  have X0 : Stand p l e ({ frames := 0, cells := 0, slots := 0, locals := 0 } : Room) s m #[(.ref (ad 23))] below meth c s₁ [] 0 0 := Stand.of_body Bd
  have e0 : s₁.heap = h0 := by rw [← hh, Bd.state]; rfl
  have N0 := Fr.nil n0
  have pre0 : ∀ t, Steps p.tables e below (s₁.setTop (mkF m 0 #[.val (.ref (ad 23))] [])) t → Steps p.tables e below (s₁.setTop (entryFrame m #[(.ref (ad 23))] 1)) t := fun t k => castTop (ef_1_R m (ad 23)) k
  obtain ⟨T1, X1, e1, st1⟩ := getS2 X0 hx hZ hown (host := "") (Or.inl (hw _ (List.mem_of_getElem? (i := 70) rfl))) Via.refl e0 ((ft_42 NF).ext Ol.2) (g := (mkF m 1 #[.val (.ref (ad 23))] [(.ref (ad 23))])) rfl (hb hby d1_1)
  obtain ⟨T2, X2, e2, st2⟩ := getS2 X1 hx hZ hown (host := "") (Or.inl (hw _ (List.mem_of_getElem? (i := 71) rfl))) Via.refl e1 ((ft_43 NF).ext Ol.2) (g := (mkF m 8 #[.val (.ref (ad 23))] [(.ref (ad 23))])) rfl (hb hby d1_8)
  obtain ⟨T3, X3, e3, st3⟩ := getS2 X2 hx hZ hown (host := "") (Or.inl (hw _ (List.mem_of_getElem? (i := 72) rfl))) Via.refl e2 ((ft_44 NF).ext Ol.2) (g := (mkF m 15 #[.val (.ref (ad 23))] [(.ref (ad 23))])) rfl (hb hby d1_15)
  obtain ⟨T4, X4, e4, st4⟩ := getS2 X3 hx hZ hown (host := "") (Or.inl (hw _ (List.mem_of_getElem? (i := 73) rfl))) Via.refl e3 ((ft_45 NF).ext Ol.2) (g := (mkF m 22 #[.val (.ref (ad 23))] [(.ref (ad 23))])) rfl (hb hby d1_22)
  obtain ⟨fs, hr, hrun, hended, hW, hsame⟩ := X4.leave (v := some (.int (0 : Int32))) (fun h => by rw [Bd.returns] at h; cases h)
  refine ⟨_, _, pre0 _ ?_, hrun, hended, _, _, rfl, ?_, ⟨_, rfl⟩, hW, hsame.mono (by decide) (by decide)⟩
  · show Steps p.tables e below (s₁.setTop (mkF m 0 #[.val (.ref (ad 23))] [])) _
    refine XS.aloadN X0.here hx rfl (hb hby d1_0) rfl rfl ?_
    show Steps p.tables e below (s₁.setTop (mkF m 1 #[.val (.ref (ad 23))] [(.ref (ad 23))])) _
    refine st1 _ ?_
    show Steps p.tables e below (T1.setTop (mkF m 4 #[.val (.ref (ad 23))] [(.ref (ad 12)), (.ref (ad 23))])) _
    refine acmp X1 hx rfl (x := (.ref (ad 23))) (y := (.ref (ad 12))) rfl rfl (pc0 := 4) (pc' := 7) (same := false) rfl (hb hby d1_4) rfl (decide_eq_false (fun h => (Fld.ne (ft_89 NF) (ft_61 NF) (by decide)) (Value.ref.inj h))) (by decide) (by decide) ?_
    show Steps p.tables e below (T1.setTop (mkF m 7 #[.val (.ref (ad 23))] [])) _
    refine XS.aloadN X1.here hx rfl (hb hby d1_7) rfl rfl ?_
    show Steps p.tables e below (T1.setTop (mkF m 8 #[.val (.ref (ad 23))] [(.ref (ad 23))])) _
    refine st2 _ ?_
    show Steps p.tables e below (T2.setTop (mkF m 11 #[.val (.ref (ad 23))] [(.ref (ad 13)), (.ref (ad 23))])) _
    refine acmp X2 hx rfl (x := (.ref (ad 23))) (y := (.ref (ad 13))) rfl rfl (pc0 := 11) (pc' := 14) (same := false) rfl (hb hby d1_11) rfl (decide_eq_false (fun h => (Fld.ne (ft_89 NF) (ft_62 NF) (by decide)) (Value.ref.inj h))) (by decide) (by decide) ?_
    show Steps p.tables e below (T2.setTop (mkF m 14 #[.val (.ref (ad 23))] [])) _
    refine XS.aloadN X2.here hx rfl (hb hby d1_14) rfl rfl ?_
    show Steps p.tables e below (T2.setTop (mkF m 15 #[.val (.ref (ad 23))] [(.ref (ad 23))])) _
    refine st3 _ ?_
    show Steps p.tables e below (T3.setTop (mkF m 18 #[.val (.ref (ad 23))] [(.ref (ad 14)), (.ref (ad 23))])) _
    refine acmp X3 hx rfl (x := (.ref (ad 23))) (y := (.ref (ad 14))) rfl rfl (pc0 := 18) (pc' := 21) (same := false) rfl (hb hby d1_18) rfl (decide_eq_false (fun h => (Fld.ne (ft_89 NF) (ft_63 NF) (by decide)) (Value.ref.inj h))) (by decide) (by decide) ?_
    show Steps p.tables e below (T3.setTop (mkF m 21 #[.val (.ref (ad 23))] [])) _
    refine XS.aloadN X3.here hx rfl (hb hby d1_21) rfl rfl ?_
    show Steps p.tables e below (T3.setTop (mkF m 22 #[.val (.ref (ad 23))] [(.ref (ad 23))])) _
    refine st4 _ ?_
    show Steps p.tables e below (T4.setTop (mkF m 25 #[.val (.ref (ad 23))] [(.ref (ad 15)), (.ref (ad 23))])) _
    refine acmp X4 hx rfl (x := (.ref (ad 23))) (y := (.ref (ad 15))) rfl rfl (pc0 := 25) (pc' := 32) (same := false) rfl (hb hby d1_25) rfl (decide_eq_false (fun h => (Fld.ne (ft_89 NF) (ft_64 NF) (by decide)) (Value.ref.inj h))) (by decide) (by decide) ?_
    show Steps p.tables e below (T4.setTop (mkF m 32 #[.val (.ref (ad 23))] [])) _
    refine XS.iconst X4.here hx rfl (hb hby d1_32) ?_
    show Steps p.tables e below (T4.setTop (mkF m 33 #[.val (.ref (ad 23))] [(.int (0 : Int32))])) _
    exact retN X4 hx (t := .boolean) Bd.returns (by simp) (hb hby d1_33) hr
  · exact ⟨rfl, N0, e4⟩
set_option maxRecDepth 65536 in
set_option maxHeartbeats 40000000 in
theorem rm0_23 (l : Launch) (Z : State) (a0 : Array Value) (hw : ∀ d ∈ tables_1, d.before a0 Z = true) (ws : List Jvm.Cond) (ad : Nat → Addr) (NF : Facts Z ad) (h0 : Heap) (n0 : Nat) (Ol : Old Z n0 h0) (p0 : Int32) (hi : (p0 &&& (2147483647 : Int32)) % (30 : Int32) = (23 : Int32)) :
    MetFree l x (head1 (Jvm.Cond.code x code maxLocals ret :: ws) room_1) (fun a U => a = #[(.int p0)] ∧ Z.Warmed39 U.vm ∧ U.heap = h0) (fun _ _ _ _ _ => True) (fun _ U o U' => ∃ v L, o = .returned v ∧ QL n0 v U'.heap L ∧ FrameEnd U o U' L room_1.cells room_1.slots) := by
  refine MetFree.of_bodySF (plainFor_of_name pn_0) hisR ?_
  intro p e s m args below meth c s₁ Bd hml0 hP hK
  obtain ⟨rfl, hZ, hh⟩ := hP
  have hx := Bd.exec
  have hby := Bd.bytes
  have hml : c.maxLocals = 5 := hml0
  have hown : s.vm.findClass "com/example/pivotlex/pivotlex/terminology/IssueCodeIsOfValueSetPinLaw" = some m.cls := findClass_of_methodNamed Bd.named
  have X0 : Stand p l e room_1 s m #[(.int p0)] below meth c s₁ [] 0 0 := Stand.of_body Bd
  have e0 : s₁.heap = h0 := by rw [← hh, Bd.state]; rfl
  have N0 := Fr.nil n0
  have pre0 : ∀ t, Steps p.tables e below (s₁.setTop (mkF m 0 #[.val (.int p0), .unset, .unset, .unset, .unset] [])) t → Steps p.tables e below (s₁.setTop (entryFrame m #[(.int p0)] maxLocals)) t := fun t k => castTop (ef_0_I m (p0)) k
  obtain ⟨T1, h1, Lc1, b1, k1, X1, e1, Ol1, K1, N1, V1, st1⟩ := fill hw ad NF h0 n0 Ol p0 X0 hx hZ hby hml hown e0
  obtain ⟨cl2, Ar2, q2, S2, M2, H2, G2⟩ := id V1
  have hin2 : ¬ ((23 : Int32) < 0 ∨ cl2.slots.size ≤ ((23 : Int32)).toNatClampNeg) := inb_of S2 ⟨by decide, by decide⟩
  have hat2 : cl2.slots[((23 : Int32)).toNatClampNeg]? = some (.ref (ad 23)) := Has.at H2 hin2 rfl
  obtain ⟨cq3, kq3, qa3, qb3, qc3⟩ := isOf hZ e1 ((ft_23 NF).ext Ol1.2)
  obtain ⟨_, _, ⟨T3, L3, k3, n3⟩, -, X3, ⟨Lc3, hQ3, l3, y3, z3⟩, st3⟩ := X1.virtualBack hx (y := (⟨"com/example/pivotlex/pivotlex/terminology/IssueCode", "isOfValueSet", "()Z"⟩ : MethodName)) (z := (⟨"com/example/pivotlex/pivotlex/terminology/IssueCode", "isOfValueSet", "()Z"⟩ : MethodName)) hown (mvT hZ (hw _ (List.mem_of_getElem? (i := 65) rfl))) (mvT hZ (hw _ (List.mem_of_getElem? (i := 66) rfl))) (notFace_of_selects (args := #[]) (mvT hZ (hw _ (List.mem_of_getElem? (i := 68) rfl)))) (mvT hZ (hw _ (List.mem_of_getElem? (i := 68) rfl))) (mvT hZ (hw _ (List.mem_of_getElem? (i := 67) rfl))) (by decide) (backOf (W := 0) (rm1_ad23 l Z a0 hw [] ad NF h1 n0 Ol1) hZ (hw _ (List.mem_of_getElem? (i := 69) rfl)) (hw _ (List.mem_of_getElem? (i := 3) rfl)) (by decide) (by decide)) qa3 qc3 (g := (mkF m 242 #[.val (.int p0), .val (.ref b1), .val (.int (23 : Int32)), .val (.ref (ad 23)), .val (.int (0 : Int32))] [(.ref (ad 23))])) rfl (by rw [hml]; rfl) (Steps.refl _) (argsL := []) (rest := []) (lenOf pd_1 rfl) rfl (by show 2 * 0 + _ ≤ _; exact Nat.le_of_eq rfl) (hb hby at_242) (fun _ _ => ⟨rfl, e1, (by decide : 1 + 0 ≤ _), (by decide : 30 + 0 ≤ _)⟩)
  dsimp only [Pt.U, Pt.locs, Pt.cells, Pt.slots] at X3 l3 y3 z3 st3 hQ3
  subst l3 y3 z3
  obtain ⟨rfl, Nq3, e3⟩ := hQ3
  have N3 := Fr.app N1 Nq3
  obtain ⟨fs, hr, hrun, hended, hW, hsame⟩ := X3.leave (v := some (.int (1 : Int32))) (fun h => by rw [Bd.returns] at h; cases h)
  refine ⟨_, _, pre0 _ ?_, hrun, hended, _, _, rfl, ?_, ⟨_, rfl⟩, hW, hsame.mono (by decide) (by decide)⟩
  · show Steps p.tables e below (s₁.setTop (mkF m 0 #[.val (.int p0), .unset, .unset, .unset, .unset] [])) _
    refine st1 _ ?_
    show Steps p.tables e below (T1.setTop (mkF m 210 #[.val (.int p0), .val (.ref b1), .unset, .unset, .unset] [])) _
    refine XS.iloadN X1.here hx rfl (hb hby at_210) rfl ?_
    show Steps p.tables e below (T1.setTop (mkF m 211 #[.val (.int p0), .val (.ref b1), .unset, .unset, .unset] [(.int p0)])) _
    refine X1.ldcInt hx hown (mvT hZ (hw _ (List.mem_of_getElem? (i := 64) rfl))) (g := (mkF m 211 #[.val (.int p0), .val (.ref b1), .unset, .unset, .unset] [(.int p0)])) rfl (hb hby at_211) _ ?_
    show Steps p.tables e below (T1.setTop (mkF m 213 #[.val (.int p0), .val (.ref b1), .unset, .unset, .unset] [(.int (2147483647 : Int32)), (.int p0)])) _
    refine XS.iand X1.here hx rfl (hb hby at_213) rfl ?_
    show Steps p.tables e below (T1.setTop (mkF m 214 #[.val (.int p0), .val (.ref b1), .unset, .unset, .unset] [(.int (p0 &&& (2147483647 : Int32)))])) _
    refine XS.bipush X1.here hx rfl (hb hby at_214) ?_
    show Steps p.tables e below (T1.setTop (mkF m 216 #[.val (.int p0), .val (.ref b1), .unset, .unset, .unset] [(.int (30 : Int32)), (.int (p0 &&& (2147483647 : Int32)))])) _
    refine iremM X1 hx rfl (hb hby at_216) rfl (by decide) ?_
    show Steps p.tables e below (T1.setTop (mkF m 217 #[.val (.int p0), .val (.ref b1), .unset, .unset, .unset] [(.int ((p0 &&& (2147483647 : Int32)) % (30 : Int32)))])) _
    rw [hi]
    show Steps p.tables e below (T1.setTop (mkF m 217 #[.val (.int p0), .val (.ref b1), .unset, .unset, .unset] [(.int (23 : Int32))])) _
    refine XS.istoreN X1.here hx rfl (hb hby at_217) rfl (l' := #[.val (.int p0), .val (.ref b1), .val (.int (23 : Int32)), .unset, .unset]) rfl ?_
    show Steps p.tables e below (T1.setTop (mkF m 218 #[.val (.int p0), .val (.ref b1), .val (.int (23 : Int32)), .unset, .unset] [])) _
    refine XS.aloadN X1.here hx rfl (hb hby at_218) rfl rfl ?_
    show Steps p.tables e below (T1.setTop (mkF m 219 #[.val (.int p0), .val (.ref b1), .val (.int (23 : Int32)), .unset, .unset] [(.ref b1)])) _
    refine XS.iloadN X1.here hx rfl (hb hby at_219) rfl ?_
    show Steps p.tables e below (T1.setTop (mkF m 220 #[.val (.int p0), .val (.ref b1), .val (.int (23 : Int32)), .unset, .unset] [(.int (23 : Int32)), (.ref b1)])) _
    refine X1.aaload hx (j := (23 : Int32)) (v := (.ref (ad 23))) (by rw [e1]; exact Ar2.1) (State.isArrayOf_alike hZ.alike Ar2.2.1) rfl Ar2.2.2 hin2 hat2 (g := (mkF m 220 #[.val (.int p0), .val (.ref b1), .val (.int (23 : Int32)), .unset, .unset] [(.int (23 : Int32)), (.ref b1)])) rfl rfl (hb hby at_220) _ ?_
    show Steps p.tables e below (T1.setTop (mkF m 221 #[.val (.int p0), .val (.ref b1), .val (.int (23 : Int32)), .unset, .unset] [(.ref (ad 23))])) _
    refine XS.astoreN X1.here hx rfl (hb hby at_221) rfl rfl (l' := #[.val (.int p0), .val (.ref b1), .val (.int (23 : Int32)), .val (.ref (ad 23)), .unset]) rfl ?_
    show Steps p.tables e below (T1.setTop (mkF m 222 #[.val (.int p0), .val (.ref b1), .val (.int (23 : Int32)), .val (.ref (ad 23)), .unset] [])) _
    refine XS.iloadN X1.here hx rfl (hb hby at_222) rfl ?_
    show Steps p.tables e below (T1.setTop (mkF m 223 #[.val (.int p0), .val (.ref b1), .val (.int (23 : Int32)), .val (.ref (ad 23)), .unset] [(.int (23 : Int32))])) _
    refine XS.bipush X1.here hx rfl (hb hby at_223) ?_
    show Steps p.tables e below (T1.setTop (mkF m 225 #[.val (.int p0), .val (.ref b1), .val (.int (23 : Int32)), .val (.ref (ad 23)), .unset] [(.int (12 : Int32)), (.int (23 : Int32))])) _
    refine XS.icmpNo X1.here hx rfl (hb hby at_225) rfl (flt (by decide)).1 ?_
    show Steps p.tables e below (T1.setTop (mkF m 228 #[.val (.int p0), .val (.ref b1), .val (.int (23 : Int32)), .val (.ref (ad 23)), .unset] [])) _
    refine XS.iloadN X1.here hx rfl (hb hby at_228) rfl ?_
    show Steps p.tables e below (T1.setTop (mkF m 229 #[.val (.int p0), .val (.ref b1), .val (.int (23 : Int32)), .val (.ref (ad 23)), .unset] [(.int (23 : Int32))])) _
    refine XS.bipush X1.here hx rfl (hb hby at_229) ?_
    show Steps p.tables e below (T1.setTop (mkF m 231 #[.val (.int p0), .val (.ref b1), .val (.int (23 : Int32)), .val (.ref (ad 23)), .unset] [(.int (15 : Int32)), (.int (23 : Int32))])) _
    refine XS.icmpYes X1.here hx rfl (pc0 := 231) (pc' := 238) rfl (hb hby at_231) rfl (tlt (by decide)).2.2.1 (by decide) (by decide) ?_
    show Steps p.tables e below (T1.setTop (mkF m 238 #[.val (.int p0), .val (.ref b1), .val (.int (23 : Int32)), .val (.ref (ad 23)), .unset] [])) _
    refine XS.iconst X1.here hx rfl (hb hby at_238) ?_
    show Steps p.tables e below (T1.setTop (mkF m 239 #[.val (.int p0), .val (.ref b1), .val (.int (23 : Int32)), .val (.ref (ad 23)), .unset] [(.int (0 : Int32))])) _
    refine XS.istore X1.here hx rfl (hb hby at_239) rfl (l' := #[.val (.int p0), .val (.ref b1), .val (.int (23 : Int32)), .val (.ref (ad 23)), .val (.int (0 : Int32))]) rfl ?_
    show Steps p.tables e below (T1.setTop (mkF m 241 #[.val (.int p0), .val (.ref b1), .val (.int (23 : Int32)), .val (.ref (ad 23)), .val (.int (0 : Int32))] [])) _
    refine XS.aloadN X1.here hx rfl (hb hby at_241) rfl rfl ?_
    show Steps p.tables e below (T1.setTop (mkF m 242 #[.val (.int p0), .val (.ref b1), .val (.int (23 : Int32)), .val (.ref (ad 23)), .val (.int (0 : Int32))] [(.ref (ad 23))])) _
    refine st3.trans ?_
    show Steps p.tables e below (T3.setTop (mkF m 245 #[.val (.int p0), .val (.ref b1), .val (.int (23 : Int32)), .val (.ref (ad 23)), .val (.int (0 : Int32))] [(.int (0 : Int32))])) _
    refine XS.iload X3.here hx rfl (hb hby at_245) rfl ?_
    show Steps p.tables e below (T3.setTop (mkF m 247 #[.val (.int p0), .val (.ref b1), .val (.int (23 : Int32)), .val (.ref (ad 23)), .val (.int (0 : Int32))] [(.int (0 : Int32)), (.int (0 : Int32))])) _
    refine XS.icmpNo X3.here hx rfl (hb hby at_247) rfl (teq (by decide)).2 ?_
    show Steps p.tables e below (T3.setTop (mkF m 250 #[.val (.int p0), .val (.ref b1), .val (.int (23 : Int32)), .val (.ref (ad 23)), .val (.int (0 : Int32))] [])) _
    refine XS.iconst X3.here hx rfl (hb hby at_250) ?_
    show Steps p.tables e below (T3.setTop (mkF m 251 #[.val (.int p0), .val (.ref b1), .val (.int (23 : Int32)), .val (.ref (ad 23)), .val (.int (0 : Int32))] [(.int (1 : Int32))])) _
    refine XS.goto X3.here hx rfl (pc0 := 251) (pc' := 255) rfl (hb hby at_251) (by decide) (by decide) ?_
    show Steps p.tables e below (T3.setTop (mkF m 255 #[.val (.int p0), .val (.ref b1), .val (.int (23 : Int32)), .val (.ref (ad 23)), .val (.int (0 : Int32))] [(.int (1 : Int32))])) _
    exact retN X3 hx (t := .boolean) Bd.returns (by simp) (hb hby at_255) hr
  · exact ⟨rfl, N3⟩
set_option maxRecDepth 65536 in
set_option maxHeartbeats 40000000 in
theorem rm1_ad24 (l : Launch) (Z : State) (a0 : Array Value) (hw : ∀ d ∈ tables_1, d.before a0 Z = true) (ws : List Jvm.Cond) (ad : Nat → Addr) (NF : Facts Z ad) (h0 : Heap) (n0 : Nat) (Ol : Old Z n0 h0) :
    MetFree l (⟨"com/example/pivotlex/pivotlex/terminology/IssueCode", "isOfValueSet", "()Z"⟩ : MethodName) (head1 (Jvm.Cond.code (⟨"com/example/pivotlex/pivotlex/terminology/IssueCode", "isOfValueSet", "()Z"⟩ : MethodName) prog_80_method_4_code 1 (some .boolean) :: ws) ({ frames := 0, cells := 0, slots := 0, locals := 0 } : Room)) (fun a U => a = #[(.ref (ad 24))] ∧ Z.Warmed39 U.vm ∧ U.heap = h0) (fun _ _ _ _ _ => True) (fun _ U o U' => ∃ v L, o = .returned v ∧ QS (.int (0 : Int32)) h0 n0 v U'.heap L ∧ FrameEnd U o U' L ({ frames := 0, cells := 0, slots := 0, locals := 0 } : Room).cells ({ frames := 0, cells := 0, slots := 0, locals := 0 } : Room).slots) := by
  refine MetFree.of_bodySF (plainFor_of_name pn_1) hisR ?_
  intro p e s m args below meth c s₁ Bd hml0 hP hK
  obtain ⟨rfl, hZ, hh⟩ := hP
  have hx := Bd.exec
  have hby := Bd.bytes
  have hml : c.maxLocals = 1 := hml0
  have hown : s.vm.findClass "com/example/pivotlex/pivotlex/terminology/IssueCode" = some m.cls := findClass_of_methodNamed Bd.named
  have X0 : Stand p l e ({ frames := 0, cells := 0, slots := 0, locals := 0 } : Room) s m #[(.ref (ad 24))] below meth c s₁ [] 0 0 := Stand.of_body Bd
  have e0 : s₁.heap = h0 := by rw [← hh, Bd.state]; rfl
  have N0 := Fr.nil n0
  have pre0 : ∀ t, Steps p.tables e below (s₁.setTop (mkF m 0 #[.val (.ref (ad 24))] [])) t → Steps p.tables e below (s₁.setTop (entryFrame m #[(.ref (ad 24))] 1)) t := fun t k => castTop (ef_1_R m (ad 24)) k
  obtain ⟨T1, X1, e1, st1⟩ := getS2 X0 hx hZ hown (host := "") (Or.inl (hw _ (List.mem_of_getElem? (i := 70) rfl))) Via.refl e0 ((ft_42 NF).ext Ol.2) (g := (mkF m 1 #[.val (.ref (ad 24))] [(.ref (ad 24))])) rfl (hb hby d1_1)
  obtain ⟨T2, X2, e2, st2⟩ := getS2 X1 hx hZ hown (host := "") (Or.inl (hw _ (List.mem_of_getElem? (i := 71) rfl))) Via.refl e1 ((ft_43 NF).ext Ol.2) (g := (mkF m 8 #[.val (.ref (ad 24))] [(.ref (ad 24))])) rfl (hb hby d1_8)
  obtain ⟨T3, X3, e3, st3⟩ := getS2 X2 hx hZ hown (host := "") (Or.inl (hw _ (List.mem_of_getElem? (i := 72) rfl))) Via.refl e2 ((ft_44 NF).ext Ol.2) (g := (mkF m 15 #[.val (.ref (ad 24))] [(.ref (ad 24))])) rfl (hb hby d1_15)
  obtain ⟨T4, X4, e4, st4⟩ := getS2 X3 hx hZ hown (host := "") (Or.inl (hw _ (List.mem_of_getElem? (i := 73) rfl))) Via.refl e3 ((ft_45 NF).ext Ol.2) (g := (mkF m 22 #[.val (.ref (ad 24))] [(.ref (ad 24))])) rfl (hb hby d1_22)
  obtain ⟨fs, hr, hrun, hended, hW, hsame⟩ := X4.leave (v := some (.int (0 : Int32))) (fun h => by rw [Bd.returns] at h; cases h)
  refine ⟨_, _, pre0 _ ?_, hrun, hended, _, _, rfl, ?_, ⟨_, rfl⟩, hW, hsame.mono (by decide) (by decide)⟩
  · show Steps p.tables e below (s₁.setTop (mkF m 0 #[.val (.ref (ad 24))] [])) _
    refine XS.aloadN X0.here hx rfl (hb hby d1_0) rfl rfl ?_
    show Steps p.tables e below (s₁.setTop (mkF m 1 #[.val (.ref (ad 24))] [(.ref (ad 24))])) _
    refine st1 _ ?_
    show Steps p.tables e below (T1.setTop (mkF m 4 #[.val (.ref (ad 24))] [(.ref (ad 12)), (.ref (ad 24))])) _
    refine acmp X1 hx rfl (x := (.ref (ad 24))) (y := (.ref (ad 12))) rfl rfl (pc0 := 4) (pc' := 7) (same := false) rfl (hb hby d1_4) rfl (decide_eq_false (fun h => (Fld.ne (ft_88 NF) (ft_61 NF) (by decide)) (Value.ref.inj h))) (by decide) (by decide) ?_
    show Steps p.tables e below (T1.setTop (mkF m 7 #[.val (.ref (ad 24))] [])) _
    refine XS.aloadN X1.here hx rfl (hb hby d1_7) rfl rfl ?_
    show Steps p.tables e below (T1.setTop (mkF m 8 #[.val (.ref (ad 24))] [(.ref (ad 24))])) _
    refine st2 _ ?_
    show Steps p.tables e below (T2.setTop (mkF m 11 #[.val (.ref (ad 24))] [(.ref (ad 13)), (.ref (ad 24))])) _
    refine acmp X2 hx rfl (x := (.ref (ad 24))) (y := (.ref (ad 13))) rfl rfl (pc0 := 11) (pc' := 14) (same := false) rfl (hb hby d1_11) rfl (decide_eq_false (fun h => (Fld.ne (ft_88 NF) (ft_62 NF) (by decide)) (Value.ref.inj h))) (by decide) (by decide) ?_
    show Steps p.tables e below (T2.setTop (mkF m 14 #[.val (.ref (ad 24))] [])) _
    refine XS.aloadN X2.here hx rfl (hb hby d1_14) rfl rfl ?_
    show Steps p.tables e below (T2.setTop (mkF m 15 #[.val (.ref (ad 24))] [(.ref (ad 24))])) _
    refine st3 _ ?_
    show Steps p.tables e below (T3.setTop (mkF m 18 #[.val (.ref (ad 24))] [(.ref (ad 14)), (.ref (ad 24))])) _
    refine acmp X3 hx rfl (x := (.ref (ad 24))) (y := (.ref (ad 14))) rfl rfl (pc0 := 18) (pc' := 21) (same := false) rfl (hb hby d1_18) rfl (decide_eq_false (fun h => (Fld.ne (ft_88 NF) (ft_63 NF) (by decide)) (Value.ref.inj h))) (by decide) (by decide) ?_
    show Steps p.tables e below (T3.setTop (mkF m 21 #[.val (.ref (ad 24))] [])) _
    refine XS.aloadN X3.here hx rfl (hb hby d1_21) rfl rfl ?_
    show Steps p.tables e below (T3.setTop (mkF m 22 #[.val (.ref (ad 24))] [(.ref (ad 24))])) _
    refine st4 _ ?_
    show Steps p.tables e below (T4.setTop (mkF m 25 #[.val (.ref (ad 24))] [(.ref (ad 15)), (.ref (ad 24))])) _
    refine acmp X4 hx rfl (x := (.ref (ad 24))) (y := (.ref (ad 15))) rfl rfl (pc0 := 25) (pc' := 32) (same := false) rfl (hb hby d1_25) rfl (decide_eq_false (fun h => (Fld.ne (ft_88 NF) (ft_64 NF) (by decide)) (Value.ref.inj h))) (by decide) (by decide) ?_
    show Steps p.tables e below (T4.setTop (mkF m 32 #[.val (.ref (ad 24))] [])) _
    refine XS.iconst X4.here hx rfl (hb hby d1_32) ?_
    show Steps p.tables e below (T4.setTop (mkF m 33 #[.val (.ref (ad 24))] [(.int (0 : Int32))])) _
    exact retN X4 hx (t := .boolean) Bd.returns (by simp) (hb hby d1_33) hr
  · exact ⟨rfl, N0, e4⟩
set_option maxRecDepth 65536 in
set_option maxHeartbeats 40000000 in
theorem rm0_24 (l : Launch) (Z : State) (a0 : Array Value) (hw : ∀ d ∈ tables_1, d.before a0 Z = true) (ws : List Jvm.Cond) (ad : Nat → Addr) (NF : Facts Z ad) (h0 : Heap) (n0 : Nat) (Ol : Old Z n0 h0) (p0 : Int32) (hi : (p0 &&& (2147483647 : Int32)) % (30 : Int32) = (24 : Int32)) :
    MetFree l x (head1 (Jvm.Cond.code x code maxLocals ret :: ws) room_1) (fun a U => a = #[(.int p0)] ∧ Z.Warmed39 U.vm ∧ U.heap = h0) (fun _ _ _ _ _ => True) (fun _ U o U' => ∃ v L, o = .returned v ∧ QL n0 v U'.heap L ∧ FrameEnd U o U' L room_1.cells room_1.slots) := by
  refine MetFree.of_bodySF (plainFor_of_name pn_0) hisR ?_
  intro p e s m args below meth c s₁ Bd hml0 hP hK
  obtain ⟨rfl, hZ, hh⟩ := hP
  have hx := Bd.exec
  have hby := Bd.bytes
  have hml : c.maxLocals = 5 := hml0
  have hown : s.vm.findClass "com/example/pivotlex/pivotlex/terminology/IssueCodeIsOfValueSetPinLaw" = some m.cls := findClass_of_methodNamed Bd.named
  have X0 : Stand p l e room_1 s m #[(.int p0)] below meth c s₁ [] 0 0 := Stand.of_body Bd
  have e0 : s₁.heap = h0 := by rw [← hh, Bd.state]; rfl
  have N0 := Fr.nil n0
  have pre0 : ∀ t, Steps p.tables e below (s₁.setTop (mkF m 0 #[.val (.int p0), .unset, .unset, .unset, .unset] [])) t → Steps p.tables e below (s₁.setTop (entryFrame m #[(.int p0)] maxLocals)) t := fun t k => castTop (ef_0_I m (p0)) k
  obtain ⟨T1, h1, Lc1, b1, k1, X1, e1, Ol1, K1, N1, V1, st1⟩ := fill hw ad NF h0 n0 Ol p0 X0 hx hZ hby hml hown e0
  obtain ⟨cl2, Ar2, q2, S2, M2, H2, G2⟩ := id V1
  have hin2 : ¬ ((24 : Int32) < 0 ∨ cl2.slots.size ≤ ((24 : Int32)).toNatClampNeg) := inb_of S2 ⟨by decide, by decide⟩
  have hat2 : cl2.slots[((24 : Int32)).toNatClampNeg]? = some (.ref (ad 24)) := Has.at H2 hin2 rfl
  obtain ⟨cq3, kq3, qa3, qb3, qc3⟩ := isOf hZ e1 ((ft_24 NF).ext Ol1.2)
  obtain ⟨_, _, ⟨T3, L3, k3, n3⟩, -, X3, ⟨Lc3, hQ3, l3, y3, z3⟩, st3⟩ := X1.virtualBack hx (y := (⟨"com/example/pivotlex/pivotlex/terminology/IssueCode", "isOfValueSet", "()Z"⟩ : MethodName)) (z := (⟨"com/example/pivotlex/pivotlex/terminology/IssueCode", "isOfValueSet", "()Z"⟩ : MethodName)) hown (mvT hZ (hw _ (List.mem_of_getElem? (i := 65) rfl))) (mvT hZ (hw _ (List.mem_of_getElem? (i := 66) rfl))) (notFace_of_selects (args := #[]) (mvT hZ (hw _ (List.mem_of_getElem? (i := 68) rfl)))) (mvT hZ (hw _ (List.mem_of_getElem? (i := 68) rfl))) (mvT hZ (hw _ (List.mem_of_getElem? (i := 67) rfl))) (by decide) (backOf (W := 0) (rm1_ad24 l Z a0 hw [] ad NF h1 n0 Ol1) hZ (hw _ (List.mem_of_getElem? (i := 69) rfl)) (hw _ (List.mem_of_getElem? (i := 3) rfl)) (by decide) (by decide)) qa3 qc3 (g := (mkF m 242 #[.val (.int p0), .val (.ref b1), .val (.int (24 : Int32)), .val (.ref (ad 24)), .val (.int (0 : Int32))] [(.ref (ad 24))])) rfl (by rw [hml]; rfl) (Steps.refl _) (argsL := []) (rest := []) (lenOf pd_1 rfl) rfl (by show 2 * 0 + _ ≤ _; exact Nat.le_of_eq rfl) (hb hby at_242) (fun _ _ => ⟨rfl, e1, (by decide : 1 + 0 ≤ _), (by decide : 30 + 0 ≤ _)⟩)
  dsimp only [Pt.U, Pt.locs, Pt.cells, Pt.slots] at X3 l3 y3 z3 st3 hQ3
  subst l3 y3 z3
  obtain ⟨rfl, Nq3, e3⟩ := hQ3
  have N3 := Fr.app N1 Nq3
  obtain ⟨fs, hr, hrun, hended, hW, hsame⟩ := X3.leave (v := some (.int (1 : Int32))) (fun h => by rw [Bd.returns] at h; cases h)
  refine ⟨_, _, pre0 _ ?_, hrun, hended, _, _, rfl, ?_, ⟨_, rfl⟩, hW, hsame.mono (by decide) (by decide)⟩
  · show Steps p.tables e below (s₁.setTop (mkF m 0 #[.val (.int p0), .unset, .unset, .unset, .unset] [])) _
    refine st1 _ ?_
    show Steps p.tables e below (T1.setTop (mkF m 210 #[.val (.int p0), .val (.ref b1), .unset, .unset, .unset] [])) _
    refine XS.iloadN X1.here hx rfl (hb hby at_210) rfl ?_
    show Steps p.tables e below (T1.setTop (mkF m 211 #[.val (.int p0), .val (.ref b1), .unset, .unset, .unset] [(.int p0)])) _
    refine X1.ldcInt hx hown (mvT hZ (hw _ (List.mem_of_getElem? (i := 64) rfl))) (g := (mkF m 211 #[.val (.int p0), .val (.ref b1), .unset, .unset, .unset] [(.int p0)])) rfl (hb hby at_211) _ ?_
    show Steps p.tables e below (T1.setTop (mkF m 213 #[.val (.int p0), .val (.ref b1), .unset, .unset, .unset] [(.int (2147483647 : Int32)), (.int p0)])) _
    refine XS.iand X1.here hx rfl (hb hby at_213) rfl ?_
    show Steps p.tables e below (T1.setTop (mkF m 214 #[.val (.int p0), .val (.ref b1), .unset, .unset, .unset] [(.int (p0 &&& (2147483647 : Int32)))])) _
    refine XS.bipush X1.here hx rfl (hb hby at_214) ?_
    show Steps p.tables e below (T1.setTop (mkF m 216 #[.val (.int p0), .val (.ref b1), .unset, .unset, .unset] [(.int (30 : Int32)), (.int (p0 &&& (2147483647 : Int32)))])) _
    refine iremM X1 hx rfl (hb hby at_216) rfl (by decide) ?_
    show Steps p.tables e below (T1.setTop (mkF m 217 #[.val (.int p0), .val (.ref b1), .unset, .unset, .unset] [(.int ((p0 &&& (2147483647 : Int32)) % (30 : Int32)))])) _
    rw [hi]
    show Steps p.tables e below (T1.setTop (mkF m 217 #[.val (.int p0), .val (.ref b1), .unset, .unset, .unset] [(.int (24 : Int32))])) _
    refine XS.istoreN X1.here hx rfl (hb hby at_217) rfl (l' := #[.val (.int p0), .val (.ref b1), .val (.int (24 : Int32)), .unset, .unset]) rfl ?_
    show Steps p.tables e below (T1.setTop (mkF m 218 #[.val (.int p0), .val (.ref b1), .val (.int (24 : Int32)), .unset, .unset] [])) _
    refine XS.aloadN X1.here hx rfl (hb hby at_218) rfl rfl ?_
    show Steps p.tables e below (T1.setTop (mkF m 219 #[.val (.int p0), .val (.ref b1), .val (.int (24 : Int32)), .unset, .unset] [(.ref b1)])) _
    refine XS.iloadN X1.here hx rfl (hb hby at_219) rfl ?_
    show Steps p.tables e below (T1.setTop (mkF m 220 #[.val (.int p0), .val (.ref b1), .val (.int (24 : Int32)), .unset, .unset] [(.int (24 : Int32)), (.ref b1)])) _
    refine X1.aaload hx (j := (24 : Int32)) (v := (.ref (ad 24))) (by rw [e1]; exact Ar2.1) (State.isArrayOf_alike hZ.alike Ar2.2.1) rfl Ar2.2.2 hin2 hat2 (g := (mkF m 220 #[.val (.int p0), .val (.ref b1), .val (.int (24 : Int32)), .unset, .unset] [(.int (24 : Int32)), (.ref b1)])) rfl rfl (hb hby at_220) _ ?_
    show Steps p.tables e below (T1.setTop (mkF m 221 #[.val (.int p0), .val (.ref b1), .val (.int (24 : Int32)), .unset, .unset] [(.ref (ad 24))])) _
    refine XS.astoreN X1.here hx rfl (hb hby at_221) rfl rfl (l' := #[.val (.int p0), .val (.ref b1), .val (.int (24 : Int32)), .val (.ref (ad 24)), .unset]) rfl ?_
    show Steps p.tables e below (T1.setTop (mkF m 222 #[.val (.int p0), .val (.ref b1), .val (.int (24 : Int32)), .val (.ref (ad 24)), .unset] [])) _
    refine XS.iloadN X1.here hx rfl (hb hby at_222) rfl ?_
    show Steps p.tables e below (T1.setTop (mkF m 223 #[.val (.int p0), .val (.ref b1), .val (.int (24 : Int32)), .val (.ref (ad 24)), .unset] [(.int (24 : Int32))])) _
    refine XS.bipush X1.here hx rfl (hb hby at_223) ?_
    show Steps p.tables e below (T1.setTop (mkF m 225 #[.val (.int p0), .val (.ref b1), .val (.int (24 : Int32)), .val (.ref (ad 24)), .unset] [(.int (12 : Int32)), (.int (24 : Int32))])) _
    refine XS.icmpNo X1.here hx rfl (hb hby at_225) rfl (flt (by decide)).1 ?_
    show Steps p.tables e below (T1.setTop (mkF m 228 #[.val (.int p0), .val (.ref b1), .val (.int (24 : Int32)), .val (.ref (ad 24)), .unset] [])) _
    refine XS.iloadN X1.here hx rfl (hb hby at_228) rfl ?_
    show Steps p.tables e below (T1.setTop (mkF m 229 #[.val (.int p0), .val (.ref b1), .val (.int (24 : Int32)), .val (.ref (ad 24)), .unset] [(.int (24 : Int32))])) _
    refine XS.bipush X1.here hx rfl (hb hby at_229) ?_
    show Steps p.tables e below (T1.setTop (mkF m 231 #[.val (.int p0), .val (.ref b1), .val (.int (24 : Int32)), .val (.ref (ad 24)), .unset] [(.int (15 : Int32)), (.int (24 : Int32))])) _
    refine XS.icmpYes X1.here hx rfl (pc0 := 231) (pc' := 238) rfl (hb hby at_231) rfl (tlt (by decide)).2.2.1 (by decide) (by decide) ?_
    show Steps p.tables e below (T1.setTop (mkF m 238 #[.val (.int p0), .val (.ref b1), .val (.int (24 : Int32)), .val (.ref (ad 24)), .unset] [])) _
    refine XS.iconst X1.here hx rfl (hb hby at_238) ?_
    show Steps p.tables e below (T1.setTop (mkF m 239 #[.val (.int p0), .val (.ref b1), .val (.int (24 : Int32)), .val (.ref (ad 24)), .unset] [(.int (0 : Int32))])) _
    refine XS.istore X1.here hx rfl (hb hby at_239) rfl (l' := #[.val (.int p0), .val (.ref b1), .val (.int (24 : Int32)), .val (.ref (ad 24)), .val (.int (0 : Int32))]) rfl ?_
    show Steps p.tables e below (T1.setTop (mkF m 241 #[.val (.int p0), .val (.ref b1), .val (.int (24 : Int32)), .val (.ref (ad 24)), .val (.int (0 : Int32))] [])) _
    refine XS.aloadN X1.here hx rfl (hb hby at_241) rfl rfl ?_
    show Steps p.tables e below (T1.setTop (mkF m 242 #[.val (.int p0), .val (.ref b1), .val (.int (24 : Int32)), .val (.ref (ad 24)), .val (.int (0 : Int32))] [(.ref (ad 24))])) _
    refine st3.trans ?_
    show Steps p.tables e below (T3.setTop (mkF m 245 #[.val (.int p0), .val (.ref b1), .val (.int (24 : Int32)), .val (.ref (ad 24)), .val (.int (0 : Int32))] [(.int (0 : Int32))])) _
    refine XS.iload X3.here hx rfl (hb hby at_245) rfl ?_
    show Steps p.tables e below (T3.setTop (mkF m 247 #[.val (.int p0), .val (.ref b1), .val (.int (24 : Int32)), .val (.ref (ad 24)), .val (.int (0 : Int32))] [(.int (0 : Int32)), (.int (0 : Int32))])) _
    refine XS.icmpNo X3.here hx rfl (hb hby at_247) rfl (teq (by decide)).2 ?_
    show Steps p.tables e below (T3.setTop (mkF m 250 #[.val (.int p0), .val (.ref b1), .val (.int (24 : Int32)), .val (.ref (ad 24)), .val (.int (0 : Int32))] [])) _
    refine XS.iconst X3.here hx rfl (hb hby at_250) ?_
    show Steps p.tables e below (T3.setTop (mkF m 251 #[.val (.int p0), .val (.ref b1), .val (.int (24 : Int32)), .val (.ref (ad 24)), .val (.int (0 : Int32))] [(.int (1 : Int32))])) _
    refine XS.goto X3.here hx rfl (pc0 := 251) (pc' := 255) rfl (hb hby at_251) (by decide) (by decide) ?_
    show Steps p.tables e below (T3.setTop (mkF m 255 #[.val (.int p0), .val (.ref b1), .val (.int (24 : Int32)), .val (.ref (ad 24)), .val (.int (0 : Int32))] [(.int (1 : Int32))])) _
    exact retN X3 hx (t := .boolean) Bd.returns (by simp) (hb hby at_255) hr
  · exact ⟨rfl, N3⟩
set_option maxRecDepth 65536 in
set_option maxHeartbeats 40000000 in
theorem rm1_ad25 (l : Launch) (Z : State) (a0 : Array Value) (hw : ∀ d ∈ tables_1, d.before a0 Z = true) (ws : List Jvm.Cond) (ad : Nat → Addr) (NF : Facts Z ad) (h0 : Heap) (n0 : Nat) (Ol : Old Z n0 h0) :
    MetFree l (⟨"com/example/pivotlex/pivotlex/terminology/IssueCode", "isOfValueSet", "()Z"⟩ : MethodName) (head1 (Jvm.Cond.code (⟨"com/example/pivotlex/pivotlex/terminology/IssueCode", "isOfValueSet", "()Z"⟩ : MethodName) prog_80_method_4_code 1 (some .boolean) :: ws) ({ frames := 0, cells := 0, slots := 0, locals := 0 } : Room)) (fun a U => a = #[(.ref (ad 25))] ∧ Z.Warmed39 U.vm ∧ U.heap = h0) (fun _ _ _ _ _ => True) (fun _ U o U' => ∃ v L, o = .returned v ∧ QS (.int (0 : Int32)) h0 n0 v U'.heap L ∧ FrameEnd U o U' L ({ frames := 0, cells := 0, slots := 0, locals := 0 } : Room).cells ({ frames := 0, cells := 0, slots := 0, locals := 0 } : Room).slots) := by
  refine MetFree.of_bodySF (plainFor_of_name pn_1) hisR ?_
  intro p e s m args below meth c s₁ Bd hml0 hP hK
  obtain ⟨rfl, hZ, hh⟩ := hP
  have hx := Bd.exec
  have hby := Bd.bytes
  have hml : c.maxLocals = 1 := hml0
  have hown : s.vm.findClass "com/example/pivotlex/pivotlex/terminology/IssueCode" = some m.cls := findClass_of_methodNamed Bd.named
  have X0 : Stand p l e ({ frames := 0, cells := 0, slots := 0, locals := 0 } : Room) s m #[(.ref (ad 25))] below meth c s₁ [] 0 0 := Stand.of_body Bd
  have e0 : s₁.heap = h0 := by rw [← hh, Bd.state]; rfl
  have N0 := Fr.nil n0
  have pre0 : ∀ t, Steps p.tables e below (s₁.setTop (mkF m 0 #[.val (.ref (ad 25))] [])) t → Steps p.tables e below (s₁.setTop (entryFrame m #[(.ref (ad 25))] 1)) t := fun t k => castTop (ef_1_R m (ad 25)) k
  obtain ⟨T1, X1, e1, st1⟩ := getS2 X0 hx hZ hown (host := "") (Or.inl (hw _ (List.mem_of_getElem? (i := 70) rfl))) Via.refl e0 ((ft_42 NF).ext Ol.2) (g := (mkF m 1 #[.val (.ref (ad 25))] [(.ref (ad 25))])) rfl (hb hby d1_1)
  obtain ⟨T2, X2, e2, st2⟩ := getS2 X1 hx hZ hown (host := "") (Or.inl (hw _ (List.mem_of_getElem? (i := 71) rfl))) Via.refl e1 ((ft_43 NF).ext Ol.2) (g := (mkF m 8 #[.val (.ref (ad 25))] [(.ref (ad 25))])) rfl (hb hby d1_8)
  obtain ⟨T3, X3, e3, st3⟩ := getS2 X2 hx hZ hown (host := "") (Or.inl (hw _ (List.mem_of_getElem? (i := 72) rfl))) Via.refl e2 ((ft_44 NF).ext Ol.2) (g := (mkF m 15 #[.val (.ref (ad 25))] [(.ref (ad 25))])) rfl (hb hby d1_15)
  obtain ⟨T4, X4, e4, st4⟩ := getS2 X3 hx hZ hown (host := "") (Or.inl (hw _ (List.mem_of_getElem? (i := 73) rfl))) Via.refl e3 ((ft_45 NF).ext Ol.2) (g := (mkF m 22 #[.val (.ref (ad 25))] [(.ref (ad 25))])) rfl (hb hby d1_22)
  obtain ⟨fs, hr, hrun, hended, hW, hsame⟩ := X4.leave (v := some (.int (0 : Int32))) (fun h => by rw [Bd.returns] at h; cases h)
  refine ⟨_, _, pre0 _ ?_, hrun, hended, _, _, rfl, ?_, ⟨_, rfl⟩, hW, hsame.mono (by decide) (by decide)⟩
  · show Steps p.tables e below (s₁.setTop (mkF m 0 #[.val (.ref (ad 25))] [])) _
    refine XS.aloadN X0.here hx rfl (hb hby d1_0) rfl rfl ?_
    show Steps p.tables e below (s₁.setTop (mkF m 1 #[.val (.ref (ad 25))] [(.ref (ad 25))])) _
    refine st1 _ ?_
    show Steps p.tables e below (T1.setTop (mkF m 4 #[.val (.ref (ad 25))] [(.ref (ad 12)), (.ref (ad 25))])) _
    refine acmp X1 hx rfl (x := (.ref (ad 25))) (y := (.ref (ad 12))) rfl rfl (pc0 := 4) (pc' := 7) (same := false) rfl (hb hby d1_4) rfl (decide_eq_false (fun h => (Fld.ne (ft_75 NF) (ft_61 NF) (by decide)) (Value.ref.inj h))) (by decide) (by decide) ?_
    show Steps p.tables e below (T1.setTop (mkF m 7 #[.val (.ref (ad 25))] [])) _
    refine XS.aloadN X1.here hx rfl (hb hby d1_7) rfl rfl ?_
    show Steps p.tables e below (T1.setTop (mkF m 8 #[.val (.ref (ad 25))] [(.ref (ad 25))])) _
    refine st2 _ ?_
    show Steps p.tables e below (T2.setTop (mkF m 11 #[.val (.ref (ad 25))] [(.ref (ad 13)), (.ref (ad 25))])) _
    refine acmp X2 hx rfl (x := (.ref (ad 25))) (y := (.ref (ad 13))) rfl rfl (pc0 := 11) (pc' := 14) (same := false) rfl (hb hby d1_11) rfl (decide_eq_false (fun h => (Fld.ne (ft_75 NF) (ft_62 NF) (by decide)) (Value.ref.inj h))) (by decide) (by decide) ?_
    show Steps p.tables e below (T2.setTop (mkF m 14 #[.val (.ref (ad 25))] [])) _
    refine XS.aloadN X2.here hx rfl (hb hby d1_14) rfl rfl ?_
    show Steps p.tables e below (T2.setTop (mkF m 15 #[.val (.ref (ad 25))] [(.ref (ad 25))])) _
    refine st3 _ ?_
    show Steps p.tables e below (T3.setTop (mkF m 18 #[.val (.ref (ad 25))] [(.ref (ad 14)), (.ref (ad 25))])) _
    refine acmp X3 hx rfl (x := (.ref (ad 25))) (y := (.ref (ad 14))) rfl rfl (pc0 := 18) (pc' := 21) (same := false) rfl (hb hby d1_18) rfl (decide_eq_false (fun h => (Fld.ne (ft_75 NF) (ft_63 NF) (by decide)) (Value.ref.inj h))) (by decide) (by decide) ?_
    show Steps p.tables e below (T3.setTop (mkF m 21 #[.val (.ref (ad 25))] [])) _
    refine XS.aloadN X3.here hx rfl (hb hby d1_21) rfl rfl ?_
    show Steps p.tables e below (T3.setTop (mkF m 22 #[.val (.ref (ad 25))] [(.ref (ad 25))])) _
    refine st4 _ ?_
    show Steps p.tables e below (T4.setTop (mkF m 25 #[.val (.ref (ad 25))] [(.ref (ad 15)), (.ref (ad 25))])) _
    refine acmp X4 hx rfl (x := (.ref (ad 25))) (y := (.ref (ad 15))) rfl rfl (pc0 := 25) (pc' := 32) (same := false) rfl (hb hby d1_25) rfl (decide_eq_false (fun h => (Fld.ne (ft_75 NF) (ft_64 NF) (by decide)) (Value.ref.inj h))) (by decide) (by decide) ?_
    show Steps p.tables e below (T4.setTop (mkF m 32 #[.val (.ref (ad 25))] [])) _
    refine XS.iconst X4.here hx rfl (hb hby d1_32) ?_
    show Steps p.tables e below (T4.setTop (mkF m 33 #[.val (.ref (ad 25))] [(.int (0 : Int32))])) _
    exact retN X4 hx (t := .boolean) Bd.returns (by simp) (hb hby d1_33) hr
  · exact ⟨rfl, N0, e4⟩
set_option maxRecDepth 65536 in
set_option maxHeartbeats 40000000 in
theorem rm0_25 (l : Launch) (Z : State) (a0 : Array Value) (hw : ∀ d ∈ tables_1, d.before a0 Z = true) (ws : List Jvm.Cond) (ad : Nat → Addr) (NF : Facts Z ad) (h0 : Heap) (n0 : Nat) (Ol : Old Z n0 h0) (p0 : Int32) (hi : (p0 &&& (2147483647 : Int32)) % (30 : Int32) = (25 : Int32)) :
    MetFree l x (head1 (Jvm.Cond.code x code maxLocals ret :: ws) room_1) (fun a U => a = #[(.int p0)] ∧ Z.Warmed39 U.vm ∧ U.heap = h0) (fun _ _ _ _ _ => True) (fun _ U o U' => ∃ v L, o = .returned v ∧ QL n0 v U'.heap L ∧ FrameEnd U o U' L room_1.cells room_1.slots) := by
  refine MetFree.of_bodySF (plainFor_of_name pn_0) hisR ?_
  intro p e s m args below meth c s₁ Bd hml0 hP hK
  obtain ⟨rfl, hZ, hh⟩ := hP
  have hx := Bd.exec
  have hby := Bd.bytes
  have hml : c.maxLocals = 5 := hml0
  have hown : s.vm.findClass "com/example/pivotlex/pivotlex/terminology/IssueCodeIsOfValueSetPinLaw" = some m.cls := findClass_of_methodNamed Bd.named
  have X0 : Stand p l e room_1 s m #[(.int p0)] below meth c s₁ [] 0 0 := Stand.of_body Bd
  have e0 : s₁.heap = h0 := by rw [← hh, Bd.state]; rfl
  have N0 := Fr.nil n0
  have pre0 : ∀ t, Steps p.tables e below (s₁.setTop (mkF m 0 #[.val (.int p0), .unset, .unset, .unset, .unset] [])) t → Steps p.tables e below (s₁.setTop (entryFrame m #[(.int p0)] maxLocals)) t := fun t k => castTop (ef_0_I m (p0)) k
  obtain ⟨T1, h1, Lc1, b1, k1, X1, e1, Ol1, K1, N1, V1, st1⟩ := fill hw ad NF h0 n0 Ol p0 X0 hx hZ hby hml hown e0
  obtain ⟨cl2, Ar2, q2, S2, M2, H2, G2⟩ := id V1
  have hin2 : ¬ ((25 : Int32) < 0 ∨ cl2.slots.size ≤ ((25 : Int32)).toNatClampNeg) := inb_of S2 ⟨by decide, by decide⟩
  have hat2 : cl2.slots[((25 : Int32)).toNatClampNeg]? = some (.ref (ad 25)) := Has.at H2 hin2 rfl
  obtain ⟨cq3, kq3, qa3, qb3, qc3⟩ := isOf hZ e1 ((ft_25 NF).ext Ol1.2)
  obtain ⟨_, _, ⟨T3, L3, k3, n3⟩, -, X3, ⟨Lc3, hQ3, l3, y3, z3⟩, st3⟩ := X1.virtualBack hx (y := (⟨"com/example/pivotlex/pivotlex/terminology/IssueCode", "isOfValueSet", "()Z"⟩ : MethodName)) (z := (⟨"com/example/pivotlex/pivotlex/terminology/IssueCode", "isOfValueSet", "()Z"⟩ : MethodName)) hown (mvT hZ (hw _ (List.mem_of_getElem? (i := 65) rfl))) (mvT hZ (hw _ (List.mem_of_getElem? (i := 66) rfl))) (notFace_of_selects (args := #[]) (mvT hZ (hw _ (List.mem_of_getElem? (i := 68) rfl)))) (mvT hZ (hw _ (List.mem_of_getElem? (i := 68) rfl))) (mvT hZ (hw _ (List.mem_of_getElem? (i := 67) rfl))) (by decide) (backOf (W := 0) (rm1_ad25 l Z a0 hw [] ad NF h1 n0 Ol1) hZ (hw _ (List.mem_of_getElem? (i := 69) rfl)) (hw _ (List.mem_of_getElem? (i := 3) rfl)) (by decide) (by decide)) qa3 qc3 (g := (mkF m 242 #[.val (.int p0), .val (.ref b1), .val (.int (25 : Int32)), .val (.ref (ad 25)), .val (.int (0 : Int32))] [(.ref (ad 25))])) rfl (by rw [hml]; rfl) (Steps.refl _) (argsL := []) (rest := []) (lenOf pd_1 rfl) rfl (by show 2 * 0 + _ ≤ _; exact Nat.le_of_eq rfl) (hb hby at_242) (fun _ _ => ⟨rfl, e1, (by decide : 1 + 0 ≤ _), (by decide : 30 + 0 ≤ _)⟩)
  dsimp only [Pt.U, Pt.locs, Pt.cells, Pt.slots] at X3 l3 y3 z3 st3 hQ3
  subst l3 y3 z3
  obtain ⟨rfl, Nq3, e3⟩ := hQ3
  have N3 := Fr.app N1 Nq3
  obtain ⟨fs, hr, hrun, hended, hW, hsame⟩ := X3.leave (v := some (.int (1 : Int32))) (fun h => by rw [Bd.returns] at h; cases h)
  refine ⟨_, _, pre0 _ ?_, hrun, hended, _, _, rfl, ?_, ⟨_, rfl⟩, hW, hsame.mono (by decide) (by decide)⟩
  · show Steps p.tables e below (s₁.setTop (mkF m 0 #[.val (.int p0), .unset, .unset, .unset, .unset] [])) _
    refine st1 _ ?_
    show Steps p.tables e below (T1.setTop (mkF m 210 #[.val (.int p0), .val (.ref b1), .unset, .unset, .unset] [])) _
    refine XS.iloadN X1.here hx rfl (hb hby at_210) rfl ?_
    show Steps p.tables e below (T1.setTop (mkF m 211 #[.val (.int p0), .val (.ref b1), .unset, .unset, .unset] [(.int p0)])) _
    refine X1.ldcInt hx hown (mvT hZ (hw _ (List.mem_of_getElem? (i := 64) rfl))) (g := (mkF m 211 #[.val (.int p0), .val (.ref b1), .unset, .unset, .unset] [(.int p0)])) rfl (hb hby at_211) _ ?_
    show Steps p.tables e below (T1.setTop (mkF m 213 #[.val (.int p0), .val (.ref b1), .unset, .unset, .unset] [(.int (2147483647 : Int32)), (.int p0)])) _
    refine XS.iand X1.here hx rfl (hb hby at_213) rfl ?_
    show Steps p.tables e below (T1.setTop (mkF m 214 #[.val (.int p0), .val (.ref b1), .unset, .unset, .unset] [(.int (p0 &&& (2147483647 : Int32)))])) _
    refine XS.bipush X1.here hx rfl (hb hby at_214) ?_
    show Steps p.tables e below (T1.setTop (mkF m 216 #[.val (.int p0), .val (.ref b1), .unset, .unset, .unset] [(.int (30 : Int32)), (.int (p0 &&& (2147483647 : Int32)))])) _
    refine iremM X1 hx rfl (hb hby at_216) rfl (by decide) ?_
    show Steps p.tables e below (T1.setTop (mkF m 217 #[.val (.int p0), .val (.ref b1), .unset, .unset, .unset] [(.int ((p0 &&& (2147483647 : Int32)) % (30 : Int32)))])) _
    rw [hi]
    show Steps p.tables e below (T1.setTop (mkF m 217 #[.val (.int p0), .val (.ref b1), .unset, .unset, .unset] [(.int (25 : Int32))])) _
    refine XS.istoreN X1.here hx rfl (hb hby at_217) rfl (l' := #[.val (.int p0), .val (.ref b1), .val (.int (25 : Int32)), .unset, .unset]) rfl ?_
    show Steps p.tables e below (T1.setTop (mkF m 218 #[.val (.int p0), .val (.ref b1), .val (.int (25 : Int32)), .unset, .unset] [])) _
    refine XS.aloadN X1.here hx rfl (hb hby at_218) rfl rfl ?_
    show Steps p.tables e below (T1.setTop (mkF m 219 #[.val (.int p0), .val (.ref b1), .val (.int (25 : Int32)), .unset, .unset] [(.ref b1)])) _
    refine XS.iloadN X1.here hx rfl (hb hby at_219) rfl ?_
    show Steps p.tables e below (T1.setTop (mkF m 220 #[.val (.int p0), .val (.ref b1), .val (.int (25 : Int32)), .unset, .unset] [(.int (25 : Int32)), (.ref b1)])) _
    refine X1.aaload hx (j := (25 : Int32)) (v := (.ref (ad 25))) (by rw [e1]; exact Ar2.1) (State.isArrayOf_alike hZ.alike Ar2.2.1) rfl Ar2.2.2 hin2 hat2 (g := (mkF m 220 #[.val (.int p0), .val (.ref b1), .val (.int (25 : Int32)), .unset, .unset] [(.int (25 : Int32)), (.ref b1)])) rfl rfl (hb hby at_220) _ ?_
    show Steps p.tables e below (T1.setTop (mkF m 221 #[.val (.int p0), .val (.ref b1), .val (.int (25 : Int32)), .unset, .unset] [(.ref (ad 25))])) _
    refine XS.astoreN X1.here hx rfl (hb hby at_221) rfl rfl (l' := #[.val (.int p0), .val (.ref b1), .val (.int (25 : Int32)), .val (.ref (ad 25)), .unset]) rfl ?_
    show Steps p.tables e below (T1.setTop (mkF m 222 #[.val (.int p0), .val (.ref b1), .val (.int (25 : Int32)), .val (.ref (ad 25)), .unset] [])) _
    refine XS.iloadN X1.here hx rfl (hb hby at_222) rfl ?_
    show Steps p.tables e below (T1.setTop (mkF m 223 #[.val (.int p0), .val (.ref b1), .val (.int (25 : Int32)), .val (.ref (ad 25)), .unset] [(.int (25 : Int32))])) _
    refine XS.bipush X1.here hx rfl (hb hby at_223) ?_
    show Steps p.tables e below (T1.setTop (mkF m 225 #[.val (.int p0), .val (.ref b1), .val (.int (25 : Int32)), .val (.ref (ad 25)), .unset] [(.int (12 : Int32)), (.int (25 : Int32))])) _
    refine XS.icmpNo X1.here hx rfl (hb hby at_225) rfl (flt (by decide)).1 ?_
    show Steps p.tables e below (T1.setTop (mkF m 228 #[.val (.int p0), .val (.ref b1), .val (.int (25 : Int32)), .val (.ref (ad 25)), .unset] [])) _
    refine XS.iloadN X1.here hx rfl (hb hby at_228) rfl ?_
    show Steps p.tables e below (T1.setTop (mkF m 229 #[.val (.int p0), .val (.ref b1), .val (.int (25 : Int32)), .val (.ref (ad 25)), .unset] [(.int (25 : Int32))])) _
    refine XS.bipush X1.here hx rfl (hb hby at_229) ?_
    show Steps p.tables e below (T1.setTop (mkF m 231 #[.val (.int p0), .val (.ref b1), .val (.int (25 : Int32)), .val (.ref (ad 25)), .unset] [(.int (15 : Int32)), (.int (25 : Int32))])) _
    refine XS.icmpYes X1.here hx rfl (pc0 := 231) (pc' := 238) rfl (hb hby at_231) rfl (tlt (by decide)).2.2.1 (by decide) (by decide) ?_
    show Steps p.tables e below (T1.setTop (mkF m 238 #[.val (.int p0), .val (.ref b1), .val (.int (25 : Int32)), .val (.ref (ad 25)), .unset] [])) _
    refine XS.iconst X1.here hx rfl (hb hby at_238) ?_
    show Steps p.tables e below (T1.setTop (mkF m 239 #[.val (.int p0), .val (.ref b1), .val (.int (25 : Int32)), .val (.ref (ad 25)), .unset] [(.int (0 : Int32))])) _
    refine XS.istore X1.here hx rfl (hb hby at_239) rfl (l' := #[.val (.int p0), .val (.ref b1), .val (.int (25 : Int32)), .val (.ref (ad 25)), .val (.int (0 : Int32))]) rfl ?_
    show Steps p.tables e below (T1.setTop (mkF m 241 #[.val (.int p0), .val (.ref b1), .val (.int (25 : Int32)), .val (.ref (ad 25)), .val (.int (0 : Int32))] [])) _
    refine XS.aloadN X1.here hx rfl (hb hby at_241) rfl rfl ?_
    show Steps p.tables e below (T1.setTop (mkF m 242 #[.val (.int p0), .val (.ref b1), .val (.int (25 : Int32)), .val (.ref (ad 25)), .val (.int (0 : Int32))] [(.ref (ad 25))])) _
    refine st3.trans ?_
    show Steps p.tables e below (T3.setTop (mkF m 245 #[.val (.int p0), .val (.ref b1), .val (.int (25 : Int32)), .val (.ref (ad 25)), .val (.int (0 : Int32))] [(.int (0 : Int32))])) _
    refine XS.iload X3.here hx rfl (hb hby at_245) rfl ?_
    show Steps p.tables e below (T3.setTop (mkF m 247 #[.val (.int p0), .val (.ref b1), .val (.int (25 : Int32)), .val (.ref (ad 25)), .val (.int (0 : Int32))] [(.int (0 : Int32)), (.int (0 : Int32))])) _
    refine XS.icmpNo X3.here hx rfl (hb hby at_247) rfl (teq (by decide)).2 ?_
    show Steps p.tables e below (T3.setTop (mkF m 250 #[.val (.int p0), .val (.ref b1), .val (.int (25 : Int32)), .val (.ref (ad 25)), .val (.int (0 : Int32))] [])) _
    refine XS.iconst X3.here hx rfl (hb hby at_250) ?_
    show Steps p.tables e below (T3.setTop (mkF m 251 #[.val (.int p0), .val (.ref b1), .val (.int (25 : Int32)), .val (.ref (ad 25)), .val (.int (0 : Int32))] [(.int (1 : Int32))])) _
    refine XS.goto X3.here hx rfl (pc0 := 251) (pc' := 255) rfl (hb hby at_251) (by decide) (by decide) ?_
    show Steps p.tables e below (T3.setTop (mkF m 255 #[.val (.int p0), .val (.ref b1), .val (.int (25 : Int32)), .val (.ref (ad 25)), .val (.int (0 : Int32))] [(.int (1 : Int32))])) _
    exact retN X3 hx (t := .boolean) Bd.returns (by simp) (hb hby at_255) hr
  · exact ⟨rfl, N3⟩
set_option maxRecDepth 65536 in
set_option maxHeartbeats 40000000 in
theorem rm1_ad26 (l : Launch) (Z : State) (a0 : Array Value) (hw : ∀ d ∈ tables_1, d.before a0 Z = true) (ws : List Jvm.Cond) (ad : Nat → Addr) (NF : Facts Z ad) (h0 : Heap) (n0 : Nat) (Ol : Old Z n0 h0) :
    MetFree l (⟨"com/example/pivotlex/pivotlex/terminology/IssueCode", "isOfValueSet", "()Z"⟩ : MethodName) (head1 (Jvm.Cond.code (⟨"com/example/pivotlex/pivotlex/terminology/IssueCode", "isOfValueSet", "()Z"⟩ : MethodName) prog_80_method_4_code 1 (some .boolean) :: ws) ({ frames := 0, cells := 0, slots := 0, locals := 0 } : Room)) (fun a U => a = #[(.ref (ad 26))] ∧ Z.Warmed39 U.vm ∧ U.heap = h0) (fun _ _ _ _ _ => True) (fun _ U o U' => ∃ v L, o = .returned v ∧ QS (.int (0 : Int32)) h0 n0 v U'.heap L ∧ FrameEnd U o U' L ({ frames := 0, cells := 0, slots := 0, locals := 0 } : Room).cells ({ frames := 0, cells := 0, slots := 0, locals := 0 } : Room).slots) := by
  refine MetFree.of_bodySF (plainFor_of_name pn_1) hisR ?_
  intro p e s m args below meth c s₁ Bd hml0 hP hK
  obtain ⟨rfl, hZ, hh⟩ := hP
  have hx := Bd.exec
  have hby := Bd.bytes
  have hml : c.maxLocals = 1 := hml0
  have hown : s.vm.findClass "com/example/pivotlex/pivotlex/terminology/IssueCode" = some m.cls := findClass_of_methodNamed Bd.named
  have X0 : Stand p l e ({ frames := 0, cells := 0, slots := 0, locals := 0 } : Room) s m #[(.ref (ad 26))] below meth c s₁ [] 0 0 := Stand.of_body Bd
  have e0 : s₁.heap = h0 := by rw [← hh, Bd.state]; rfl
  have N0 := Fr.nil n0
  have pre0 : ∀ t, Steps p.tables e below (s₁.setTop (mkF m 0 #[.val (.ref (ad 26))] [])) t → Steps p.tables e below (s₁.setTop (entryFrame m #[(.ref (ad 26))] 1)) t := fun t k => castTop (ef_1_R m (ad 26)) k
  obtain ⟨T1, X1, e1, st1⟩ := getS2 X0 hx hZ hown (host := "") (Or.inl (hw _ (List.mem_of_getElem? (i := 70) rfl))) Via.refl e0 ((ft_42 NF).ext Ol.2) (g := (mkF m 1 #[.val (.ref (ad 26))] [(.ref (ad 26))])) rfl (hb hby d1_1)
  obtain ⟨T2, X2, e2, st2⟩ := getS2 X1 hx hZ hown (host := "") (Or.inl (hw _ (List.mem_of_getElem? (i := 71) rfl))) Via.refl e1 ((ft_43 NF).ext Ol.2) (g := (mkF m 8 #[.val (.ref (ad 26))] [(.ref (ad 26))])) rfl (hb hby d1_8)
  obtain ⟨T3, X3, e3, st3⟩ := getS2 X2 hx hZ hown (host := "") (Or.inl (hw _ (List.mem_of_getElem? (i := 72) rfl))) Via.refl e2 ((ft_44 NF).ext Ol.2) (g := (mkF m 15 #[.val (.ref (ad 26))] [(.ref (ad 26))])) rfl (hb hby d1_15)
  obtain ⟨T4, X4, e4, st4⟩ := getS2 X3 hx hZ hown (host := "") (Or.inl (hw _ (List.mem_of_getElem? (i := 73) rfl))) Via.refl e3 ((ft_45 NF).ext Ol.2) (g := (mkF m 22 #[.val (.ref (ad 26))] [(.ref (ad 26))])) rfl (hb hby d1_22)
  obtain ⟨fs, hr, hrun, hended, hW, hsame⟩ := X4.leave (v := some (.int (0 : Int32))) (fun h => by rw [Bd.returns] at h; cases h)
  refine ⟨_, _, pre0 _ ?_, hrun, hended, _, _, rfl, ?_, ⟨_, rfl⟩, hW, hsame.mono (by decide) (by decide)⟩
  · show Steps p.tables e below (s₁.setTop (mkF m 0 #[.val (.ref (ad 26))] [])) _
    refine XS.aloadN X0.here hx rfl (hb hby d1_0) rfl rfl ?_
    show Steps p.tables e below (s₁.setTop (mkF m 1 #[.val (.ref (ad 26))] [(.ref (ad 26))])) _
    refine st1 _ ?_
    show Steps p.tables e below (T1.setTop (mkF m 4 #[.val (.ref (ad 26))] [(.ref (ad 12)), (.ref (ad 26))])) _
    refine acmp X1 hx rfl (x := (.ref (ad 26))) (y := (.ref (ad 12))) rfl rfl (pc0 := 4) (pc' := 7) (same := false) rfl (hb hby d1_4) rfl (decide_eq_false (fun h => (Fld.ne (ft_79 NF) (ft_61 NF) (by decide)) (Value.ref.inj h))) (by decide) (by decide) ?_
    show Steps p.tables e below (T1.setTop (mkF m 7 #[.val (.ref (ad 26))] [])) _
    refine XS.aloadN X1.here hx rfl (hb hby d1_7) rfl rfl ?_
    show Steps p.tables e below (T1.setTop (mkF m 8 #[.val (.ref (ad 26))] [(.ref (ad 26))])) _
    refine st2 _ ?_
    show Steps p.tables e below (T2.setTop (mkF m 11 #[.val (.ref (ad 26))] [(.ref (ad 13)), (.ref (ad 26))])) _
    refine acmp X2 hx rfl (x := (.ref (ad 26))) (y := (.ref (ad 13))) rfl rfl (pc0 := 11) (pc' := 14) (same := false) rfl (hb hby d1_11) rfl (decide_eq_false (fun h => (Fld.ne (ft_79 NF) (ft_62 NF) (by decide)) (Value.ref.inj h))) (by decide) (by decide) ?_
    show Steps p.tables e below (T2.setTop (mkF m 14 #[.val (.ref (ad 26))] [])) _
    refine XS.aloadN X2.here hx rfl (hb hby d1_14) rfl rfl ?_
    show Steps p.tables e below (T2.setTop (mkF m 15 #[.val (.ref (ad 26))] [(.ref (ad 26))])) _
    refine st3 _ ?_
    show Steps p.tables e below (T3.setTop (mkF m 18 #[.val (.ref (ad 26))] [(.ref (ad 14)), (.ref (ad 26))])) _
    refine acmp X3 hx rfl (x := (.ref (ad 26))) (y := (.ref (ad 14))) rfl rfl (pc0 := 18) (pc' := 21) (same := false) rfl (hb hby d1_18) rfl (decide_eq_false (fun h => (Fld.ne (ft_79 NF) (ft_63 NF) (by decide)) (Value.ref.inj h))) (by decide) (by decide) ?_
    show Steps p.tables e below (T3.setTop (mkF m 21 #[.val (.ref (ad 26))] [])) _
    refine XS.aloadN X3.here hx rfl (hb hby d1_21) rfl rfl ?_
    show Steps p.tables e below (T3.setTop (mkF m 22 #[.val (.ref (ad 26))] [(.ref (ad 26))])) _
    refine st4 _ ?_
    show Steps p.tables e below (T4.setTop (mkF m 25 #[.val (.ref (ad 26))] [(.ref (ad 15)), (.ref (ad 26))])) _
    refine acmp X4 hx rfl (x := (.ref (ad 26))) (y := (.ref (ad 15))) rfl rfl (pc0 := 25) (pc' := 32) (same := false) rfl (hb hby d1_25) rfl (decide_eq_false (fun h => (Fld.ne (ft_79 NF) (ft_64 NF) (by decide)) (Value.ref.inj h))) (by decide) (by decide) ?_
    show Steps p.tables e below (T4.setTop (mkF m 32 #[.val (.ref (ad 26))] [])) _
    refine XS.iconst X4.here hx rfl (hb hby d1_32) ?_
    show Steps p.tables e below (T4.setTop (mkF m 33 #[.val (.ref (ad 26))] [(.int (0 : Int32))])) _
    exact retN X4 hx (t := .boolean) Bd.returns (by simp) (hb hby d1_33) hr
  · exact ⟨rfl, N0, e4⟩
set_option maxRecDepth 65536 in
set_option maxHeartbeats 40000000 in
theorem rm0_26 (l : Launch) (Z : State) (a0 : Array Value) (hw : ∀ d ∈ tables_1, d.before a0 Z = true) (ws : List Jvm.Cond) (ad : Nat → Addr) (NF : Facts Z ad) (h0 : Heap) (n0 : Nat) (Ol : Old Z n0 h0) (p0 : Int32) (hi : (p0 &&& (2147483647 : Int32)) % (30 : Int32) = (26 : Int32)) :
    MetFree l x (head1 (Jvm.Cond.code x code maxLocals ret :: ws) room_1) (fun a U => a = #[(.int p0)] ∧ Z.Warmed39 U.vm ∧ U.heap = h0) (fun _ _ _ _ _ => True) (fun _ U o U' => ∃ v L, o = .returned v ∧ QL n0 v U'.heap L ∧ FrameEnd U o U' L room_1.cells room_1.slots) := by
  refine MetFree.of_bodySF (plainFor_of_name pn_0) hisR ?_
  intro p e s m args below meth c s₁ Bd hml0 hP hK
  obtain ⟨rfl, hZ, hh⟩ := hP
  have hx := Bd.exec
  have hby := Bd.bytes
  have hml : c.maxLocals = 5 := hml0
  have hown : s.vm.findClass "com/example/pivotlex/pivotlex/terminology/IssueCodeIsOfValueSetPinLaw" = some m.cls := findClass_of_methodNamed Bd.named
  have X0 : Stand p l e room_1 s m #[(.int p0)] below meth c s₁ [] 0 0 := Stand.of_body Bd
  have e0 : s₁.heap = h0 := by rw [← hh, Bd.state]; rfl
  have N0 := Fr.nil n0
  have pre0 : ∀ t, Steps p.tables e below (s₁.setTop (mkF m 0 #[.val (.int p0), .unset, .unset, .unset, .unset] [])) t → Steps p.tables e below (s₁.setTop (entryFrame m #[(.int p0)] maxLocals)) t := fun t k => castTop (ef_0_I m (p0)) k
  obtain ⟨T1, h1, Lc1, b1, k1, X1, e1, Ol1, K1, N1, V1, st1⟩ := fill hw ad NF h0 n0 Ol p0 X0 hx hZ hby hml hown e0
  obtain ⟨cl2, Ar2, q2, S2, M2, H2, G2⟩ := id V1
  have hin2 : ¬ ((26 : Int32) < 0 ∨ cl2.slots.size ≤ ((26 : Int32)).toNatClampNeg) := inb_of S2 ⟨by decide, by decide⟩
  have hat2 : cl2.slots[((26 : Int32)).toNatClampNeg]? = some (.ref (ad 26)) := Has.at H2 hin2 rfl
  obtain ⟨cq3, kq3, qa3, qb3, qc3⟩ := isOf hZ e1 ((ft_26 NF).ext Ol1.2)
  obtain ⟨_, _, ⟨T3, L3, k3, n3⟩, -, X3, ⟨Lc3, hQ3, l3, y3, z3⟩, st3⟩ := X1.virtualBack hx (y := (⟨"com/example/pivotlex/pivotlex/terminology/IssueCode", "isOfValueSet", "()Z"⟩ : MethodName)) (z := (⟨"com/example/pivotlex/pivotlex/terminology/IssueCode", "isOfValueSet", "()Z"⟩ : MethodName)) hown (mvT hZ (hw _ (List.mem_of_getElem? (i := 65) rfl))) (mvT hZ (hw _ (List.mem_of_getElem? (i := 66) rfl))) (notFace_of_selects (args := #[]) (mvT hZ (hw _ (List.mem_of_getElem? (i := 68) rfl)))) (mvT hZ (hw _ (List.mem_of_getElem? (i := 68) rfl))) (mvT hZ (hw _ (List.mem_of_getElem? (i := 67) rfl))) (by decide) (backOf (W := 0) (rm1_ad26 l Z a0 hw [] ad NF h1 n0 Ol1) hZ (hw _ (List.mem_of_getElem? (i := 69) rfl)) (hw _ (List.mem_of_getElem? (i := 3) rfl)) (by decide) (by decide)) qa3 qc3 (g := (mkF m 242 #[.val (.int p0), .val (.ref b1), .val (.int (26 : Int32)), .val (.ref (ad 26)), .val (.int (0 : Int32))] [(.ref (ad 26))])) rfl (by rw [hml]; rfl) (Steps.refl _) (argsL := []) (rest := []) (lenOf pd_1 rfl) rfl (by show 2 * 0 + _ ≤ _; exact Nat.le_of_eq rfl) (hb hby at_242) (fun _ _ => ⟨rfl, e1, (by decide : 1 + 0 ≤ _), (by decide : 30 + 0 ≤ _)⟩)
  dsimp only [Pt.U, Pt.locs, Pt.cells, Pt.slots] at X3 l3 y3 z3 st3 hQ3
  subst l3 y3 z3
  obtain ⟨rfl, Nq3, e3⟩ := hQ3
  have N3 := Fr.app N1 Nq3
  obtain ⟨fs, hr, hrun, hended, hW, hsame⟩ := X3.leave (v := some (.int (1 : Int32))) (fun h => by rw [Bd.returns] at h; cases h)
  refine ⟨_, _, pre0 _ ?_, hrun, hended, _, _, rfl, ?_, ⟨_, rfl⟩, hW, hsame.mono (by decide) (by decide)⟩
  · show Steps p.tables e below (s₁.setTop (mkF m 0 #[.val (.int p0), .unset, .unset, .unset, .unset] [])) _
    refine st1 _ ?_
    show Steps p.tables e below (T1.setTop (mkF m 210 #[.val (.int p0), .val (.ref b1), .unset, .unset, .unset] [])) _
    refine XS.iloadN X1.here hx rfl (hb hby at_210) rfl ?_
    show Steps p.tables e below (T1.setTop (mkF m 211 #[.val (.int p0), .val (.ref b1), .unset, .unset, .unset] [(.int p0)])) _
    refine X1.ldcInt hx hown (mvT hZ (hw _ (List.mem_of_getElem? (i := 64) rfl))) (g := (mkF m 211 #[.val (.int p0), .val (.ref b1), .unset, .unset, .unset] [(.int p0)])) rfl (hb hby at_211) _ ?_
    show Steps p.tables e below (T1.setTop (mkF m 213 #[.val (.int p0), .val (.ref b1), .unset, .unset, .unset] [(.int (2147483647 : Int32)), (.int p0)])) _
    refine XS.iand X1.here hx rfl (hb hby at_213) rfl ?_
    show Steps p.tables e below (T1.setTop (mkF m 214 #[.val (.int p0), .val (.ref b1), .unset, .unset, .unset] [(.int (p0 &&& (2147483647 : Int32)))])) _
    refine XS.bipush X1.here hx rfl (hb hby at_214) ?_
    show Steps p.tables e below (T1.setTop (mkF m 216 #[.val (.int p0), .val (.ref b1), .unset, .unset, .unset] [(.int (30 : Int32)), (.int (p0 &&& (2147483647 : Int32)))])) _
    refine iremM X1 hx rfl (hb hby at_216) rfl (by decide) ?_
    show Steps p.tables e below (T1.setTop (mkF m 217 #[.val (.int p0), .val (.ref b1), .unset, .unset, .unset] [(.int ((p0 &&& (2147483647 : Int32)) % (30 : Int32)))])) _
    rw [hi]
    show Steps p.tables e below (T1.setTop (mkF m 217 #[.val (.int p0), .val (.ref b1), .unset, .unset, .unset] [(.int (26 : Int32))])) _
    refine XS.istoreN X1.here hx rfl (hb hby at_217) rfl (l' := #[.val (.int p0), .val (.ref b1), .val (.int (26 : Int32)), .unset, .unset]) rfl ?_
    show Steps p.tables e below (T1.setTop (mkF m 218 #[.val (.int p0), .val (.ref b1), .val (.int (26 : Int32)), .unset, .unset] [])) _
    refine XS.aloadN X1.here hx rfl (hb hby at_218) rfl rfl ?_
    show Steps p.tables e below (T1.setTop (mkF m 219 #[.val (.int p0), .val (.ref b1), .val (.int (26 : Int32)), .unset, .unset] [(.ref b1)])) _
    refine XS.iloadN X1.here hx rfl (hb hby at_219) rfl ?_
    show Steps p.tables e below (T1.setTop (mkF m 220 #[.val (.int p0), .val (.ref b1), .val (.int (26 : Int32)), .unset, .unset] [(.int (26 : Int32)), (.ref b1)])) _
    refine X1.aaload hx (j := (26 : Int32)) (v := (.ref (ad 26))) (by rw [e1]; exact Ar2.1) (State.isArrayOf_alike hZ.alike Ar2.2.1) rfl Ar2.2.2 hin2 hat2 (g := (mkF m 220 #[.val (.int p0), .val (.ref b1), .val (.int (26 : Int32)), .unset, .unset] [(.int (26 : Int32)), (.ref b1)])) rfl rfl (hb hby at_220) _ ?_
    show Steps p.tables e below (T1.setTop (mkF m 221 #[.val (.int p0), .val (.ref b1), .val (.int (26 : Int32)), .unset, .unset] [(.ref (ad 26))])) _
    refine XS.astoreN X1.here hx rfl (hb hby at_221) rfl rfl (l' := #[.val (.int p0), .val (.ref b1), .val (.int (26 : Int32)), .val (.ref (ad 26)), .unset]) rfl ?_
    show Steps p.tables e below (T1.setTop (mkF m 222 #[.val (.int p0), .val (.ref b1), .val (.int (26 : Int32)), .val (.ref (ad 26)), .unset] [])) _
    refine XS.iloadN X1.here hx rfl (hb hby at_222) rfl ?_
    show Steps p.tables e below (T1.setTop (mkF m 223 #[.val (.int p0), .val (.ref b1), .val (.int (26 : Int32)), .val (.ref (ad 26)), .unset] [(.int (26 : Int32))])) _
    refine XS.bipush X1.here hx rfl (hb hby at_223) ?_
    show Steps p.tables e below (T1.setTop (mkF m 225 #[.val (.int p0), .val (.ref b1), .val (.int (26 : Int32)), .val (.ref (ad 26)), .unset] [(.int (12 : Int32)), (.int (26 : Int32))])) _
    refine XS.icmpNo X1.here hx rfl (hb hby at_225) rfl (flt (by decide)).1 ?_
    show Steps p.tables e below (T1.setTop (mkF m 228 #[.val (.int p0), .val (.ref b1), .val (.int (26 : Int32)), .val (.ref (ad 26)), .unset] [])) _
    refine XS.iloadN X1.here hx rfl (hb hby at_228) rfl ?_
    show Steps p.tables e below (T1.setTop (mkF m 229 #[.val (.int p0), .val (.ref b1), .val (.int (26 : Int32)), .val (.ref (ad 26)), .unset] [(.int (26 : Int32))])) _
    refine XS.bipush X1.here hx rfl (hb hby at_229) ?_
    show Steps p.tables e below (T1.setTop (mkF m 231 #[.val (.int p0), .val (.ref b1), .val (.int (26 : Int32)), .val (.ref (ad 26)), .unset] [(.int (15 : Int32)), (.int (26 : Int32))])) _
    refine XS.icmpYes X1.here hx rfl (pc0 := 231) (pc' := 238) rfl (hb hby at_231) rfl (tlt (by decide)).2.2.1 (by decide) (by decide) ?_
    show Steps p.tables e below (T1.setTop (mkF m 238 #[.val (.int p0), .val (.ref b1), .val (.int (26 : Int32)), .val (.ref (ad 26)), .unset] [])) _
    refine XS.iconst X1.here hx rfl (hb hby at_238) ?_
    show Steps p.tables e below (T1.setTop (mkF m 239 #[.val (.int p0), .val (.ref b1), .val (.int (26 : Int32)), .val (.ref (ad 26)), .unset] [(.int (0 : Int32))])) _
    refine XS.istore X1.here hx rfl (hb hby at_239) rfl (l' := #[.val (.int p0), .val (.ref b1), .val (.int (26 : Int32)), .val (.ref (ad 26)), .val (.int (0 : Int32))]) rfl ?_
    show Steps p.tables e below (T1.setTop (mkF m 241 #[.val (.int p0), .val (.ref b1), .val (.int (26 : Int32)), .val (.ref (ad 26)), .val (.int (0 : Int32))] [])) _
    refine XS.aloadN X1.here hx rfl (hb hby at_241) rfl rfl ?_
    show Steps p.tables e below (T1.setTop (mkF m 242 #[.val (.int p0), .val (.ref b1), .val (.int (26 : Int32)), .val (.ref (ad 26)), .val (.int (0 : Int32))] [(.ref (ad 26))])) _
    refine st3.trans ?_
    show Steps p.tables e below (T3.setTop (mkF m 245 #[.val (.int p0), .val (.ref b1), .val (.int (26 : Int32)), .val (.ref (ad 26)), .val (.int (0 : Int32))] [(.int (0 : Int32))])) _
    refine XS.iload X3.here hx rfl (hb hby at_245) rfl ?_
    show Steps p.tables e below (T3.setTop (mkF m 247 #[.val (.int p0), .val (.ref b1), .val (.int (26 : Int32)), .val (.ref (ad 26)), .val (.int (0 : Int32))] [(.int (0 : Int32)), (.int (0 : Int32))])) _
    refine XS.icmpNo X3.here hx rfl (hb hby at_247) rfl (teq (by decide)).2 ?_
    show Steps p.tables e below (T3.setTop (mkF m 250 #[.val (.int p0), .val (.ref b1), .val (.int (26 : Int32)), .val (.ref (ad 26)), .val (.int (0 : Int32))] [])) _
    refine XS.iconst X3.here hx rfl (hb hby at_250) ?_
    show Steps p.tables e below (T3.setTop (mkF m 251 #[.val (.int p0), .val (.ref b1), .val (.int (26 : Int32)), .val (.ref (ad 26)), .val (.int (0 : Int32))] [(.int (1 : Int32))])) _
    refine XS.goto X3.here hx rfl (pc0 := 251) (pc' := 255) rfl (hb hby at_251) (by decide) (by decide) ?_
    show Steps p.tables e below (T3.setTop (mkF m 255 #[.val (.int p0), .val (.ref b1), .val (.int (26 : Int32)), .val (.ref (ad 26)), .val (.int (0 : Int32))] [(.int (1 : Int32))])) _
    exact retN X3 hx (t := .boolean) Bd.returns (by simp) (hb hby at_255) hr
  · exact ⟨rfl, N3⟩
set_option maxRecDepth 65536 in
set_option maxHeartbeats 40000000 in
theorem rm1_ad27 (l : Launch) (Z : State) (a0 : Array Value) (hw : ∀ d ∈ tables_1, d.before a0 Z = true) (ws : List Jvm.Cond) (ad : Nat → Addr) (NF : Facts Z ad) (h0 : Heap) (n0 : Nat) (Ol : Old Z n0 h0) :
    MetFree l (⟨"com/example/pivotlex/pivotlex/terminology/IssueCode", "isOfValueSet", "()Z"⟩ : MethodName) (head1 (Jvm.Cond.code (⟨"com/example/pivotlex/pivotlex/terminology/IssueCode", "isOfValueSet", "()Z"⟩ : MethodName) prog_80_method_4_code 1 (some .boolean) :: ws) ({ frames := 0, cells := 0, slots := 0, locals := 0 } : Room)) (fun a U => a = #[(.ref (ad 27))] ∧ Z.Warmed39 U.vm ∧ U.heap = h0) (fun _ _ _ _ _ => True) (fun _ U o U' => ∃ v L, o = .returned v ∧ QS (.int (0 : Int32)) h0 n0 v U'.heap L ∧ FrameEnd U o U' L ({ frames := 0, cells := 0, slots := 0, locals := 0 } : Room).cells ({ frames := 0, cells := 0, slots := 0, locals := 0 } : Room).slots) := by
  refine MetFree.of_bodySF (plainFor_of_name pn_1) hisR ?_
  intro p e s m args below meth c s₁ Bd hml0 hP hK
  obtain ⟨rfl, hZ, hh⟩ := hP
  have hx := Bd.exec
  have hby := Bd.bytes
  have hml : c.maxLocals = 1 := hml0
  have hown : s.vm.findClass "com/example/pivotlex/pivotlex/terminology/IssueCode" = some m.cls := findClass_of_methodNamed Bd.named
  have X0 : Stand p l e ({ frames := 0, cells := 0, slots := 0, locals := 0 } : Room) s m #[(.ref (ad 27))] below meth c s₁ [] 0 0 := Stand.of_body Bd
  have e0 : s₁.heap = h0 := by rw [← hh, Bd.state]; rfl
  have N0 := Fr.nil n0
  have pre0 : ∀ t, Steps p.tables e below (s₁.setTop (mkF m 0 #[.val (.ref (ad 27))] [])) t → Steps p.tables e below (s₁.setTop (entryFrame m #[(.ref (ad 27))] 1)) t := fun t k => castTop (ef_1_R m (ad 27)) k
  obtain ⟨T1, X1, e1, st1⟩ := getS2 X0 hx hZ hown (host := "") (Or.inl (hw _ (List.mem_of_getElem? (i := 70) rfl))) Via.refl e0 ((ft_42 NF).ext Ol.2) (g := (mkF m 1 #[.val (.ref (ad 27))] [(.ref (ad 27))])) rfl (hb hby d1_1)
  obtain ⟨T2, X2, e2, st2⟩ := getS2 X1 hx hZ hown (host := "") (Or.inl (hw _ (List.mem_of_getElem? (i := 71) rfl))) Via.refl e1 ((ft_43 NF).ext Ol.2) (g := (mkF m 8 #[.val (.ref (ad 27))] [(.ref (ad 27))])) rfl (hb hby d1_8)
  obtain ⟨T3, X3, e3, st3⟩ := getS2 X2 hx hZ hown (host := "") (Or.inl (hw _ (List.mem_of_getElem? (i := 72) rfl))) Via.refl e2 ((ft_44 NF).ext Ol.2) (g := (mkF m 15 #[.val (.ref (ad 27))] [(.ref (ad 27))])) rfl (hb hby d1_15)
  obtain ⟨T4, X4, e4, st4⟩ := getS2 X3 hx hZ hown (host := "") (Or.inl (hw _ (List.mem_of_getElem? (i := 73) rfl))) Via.refl e3 ((ft_45 NF).ext Ol.2) (g := (mkF m 22 #[.val (.ref (ad 27))] [(.ref (ad 27))])) rfl (hb hby d1_22)
  obtain ⟨fs, hr, hrun, hended, hW, hsame⟩ := X4.leave (v := some (.int (0 : Int32))) (fun h => by rw [Bd.returns] at h; cases h)
  refine ⟨_, _, pre0 _ ?_, hrun, hended, _, _, rfl, ?_, ⟨_, rfl⟩, hW, hsame.mono (by decide) (by decide)⟩
  · show Steps p.tables e below (s₁.setTop (mkF m 0 #[.val (.ref (ad 27))] [])) _
    refine XS.aloadN X0.here hx rfl (hb hby d1_0) rfl rfl ?_
    show Steps p.tables e below (s₁.setTop (mkF m 1 #[.val (.ref (ad 27))] [(.ref (ad 27))])) _
    refine st1 _ ?_
    show Steps p.tables e below (T1.setTop (mkF m 4 #[.val (.ref (ad 27))] [(.ref (ad 12)), (.ref (ad 27))])) _
    refine acmp X1 hx rfl (x := (.ref (ad 27))) (y := (.ref (ad 12))) rfl rfl (pc0 := 4) (pc' := 7) (same := false) rfl (hb hby d1_4) rfl (decide_eq_false (fun h => (Fld.ne (ft_77 NF) (ft_61 NF) (by decide)) (Value.ref.inj h))) (by decide) (by decide) ?_
    show Steps p.tables e below (T1.setTop (mkF m 7 #[.val (.ref (ad 27))] [])) _
    refine XS.aloadN X1.here hx rfl (hb hby d1_7) rfl rfl ?_
    show Steps p.tables e below (T1.setTop (mkF m 8 #[.val (.ref (ad 27))] [(.ref (ad 27))])) _
    refine st2 _ ?_
    show Steps p.tables e below (T2.setTop (mkF m 11 #[.val (.ref (ad 27))] [(.ref (ad 13)), (.ref (ad 27))])) _
    refine acmp X2 hx rfl (x := (.ref (ad 27))) (y := (.ref (ad 13))) rfl rfl (pc0 := 11) (pc' := 14) (same := false) rfl (hb hby d1_11) rfl (decide_eq_false (fun h => (Fld.ne (ft_77 NF) (ft_62 NF) (by decide)) (Value.ref.inj h))) (by decide) (by decide) ?_
    show Steps p.tables e below (T2.setTop (mkF m 14 #[.val (.ref (ad 27))] [])) _
    refine XS.aloadN X2.here hx rfl (hb hby d1_14) rfl rfl ?_
    show Steps p.tables e below (T2.setTop (mkF m 15 #[.val (.ref (ad 27))] [(.ref (ad 27))])) _
    refine st3 _ ?_
    show Steps p.tables e below (T3.setTop (mkF m 18 #[.val (.ref (ad 27))] [(.ref (ad 14)), (.ref (ad 27))])) _
    refine acmp X3 hx rfl (x := (.ref (ad 27))) (y := (.ref (ad 14))) rfl rfl (pc0 := 18) (pc' := 21) (same := false) rfl (hb hby d1_18) rfl (decide_eq_false (fun h => (Fld.ne (ft_77 NF) (ft_63 NF) (by decide)) (Value.ref.inj h))) (by decide) (by decide) ?_
    show Steps p.tables e below (T3.setTop (mkF m 21 #[.val (.ref (ad 27))] [])) _
    refine XS.aloadN X3.here hx rfl (hb hby d1_21) rfl rfl ?_
    show Steps p.tables e below (T3.setTop (mkF m 22 #[.val (.ref (ad 27))] [(.ref (ad 27))])) _
    refine st4 _ ?_
    show Steps p.tables e below (T4.setTop (mkF m 25 #[.val (.ref (ad 27))] [(.ref (ad 15)), (.ref (ad 27))])) _
    refine acmp X4 hx rfl (x := (.ref (ad 27))) (y := (.ref (ad 15))) rfl rfl (pc0 := 25) (pc' := 32) (same := false) rfl (hb hby d1_25) rfl (decide_eq_false (fun h => (Fld.ne (ft_77 NF) (ft_64 NF) (by decide)) (Value.ref.inj h))) (by decide) (by decide) ?_
    show Steps p.tables e below (T4.setTop (mkF m 32 #[.val (.ref (ad 27))] [])) _
    refine XS.iconst X4.here hx rfl (hb hby d1_32) ?_
    show Steps p.tables e below (T4.setTop (mkF m 33 #[.val (.ref (ad 27))] [(.int (0 : Int32))])) _
    exact retN X4 hx (t := .boolean) Bd.returns (by simp) (hb hby d1_33) hr
  · exact ⟨rfl, N0, e4⟩
set_option maxRecDepth 65536 in
set_option maxHeartbeats 40000000 in
theorem rm0_27 (l : Launch) (Z : State) (a0 : Array Value) (hw : ∀ d ∈ tables_1, d.before a0 Z = true) (ws : List Jvm.Cond) (ad : Nat → Addr) (NF : Facts Z ad) (h0 : Heap) (n0 : Nat) (Ol : Old Z n0 h0) (p0 : Int32) (hi : (p0 &&& (2147483647 : Int32)) % (30 : Int32) = (27 : Int32)) :
    MetFree l x (head1 (Jvm.Cond.code x code maxLocals ret :: ws) room_1) (fun a U => a = #[(.int p0)] ∧ Z.Warmed39 U.vm ∧ U.heap = h0) (fun _ _ _ _ _ => True) (fun _ U o U' => ∃ v L, o = .returned v ∧ QL n0 v U'.heap L ∧ FrameEnd U o U' L room_1.cells room_1.slots) := by
  refine MetFree.of_bodySF (plainFor_of_name pn_0) hisR ?_
  intro p e s m args below meth c s₁ Bd hml0 hP hK
  obtain ⟨rfl, hZ, hh⟩ := hP
  have hx := Bd.exec
  have hby := Bd.bytes
  have hml : c.maxLocals = 5 := hml0
  have hown : s.vm.findClass "com/example/pivotlex/pivotlex/terminology/IssueCodeIsOfValueSetPinLaw" = some m.cls := findClass_of_methodNamed Bd.named
  have X0 : Stand p l e room_1 s m #[(.int p0)] below meth c s₁ [] 0 0 := Stand.of_body Bd
  have e0 : s₁.heap = h0 := by rw [← hh, Bd.state]; rfl
  have N0 := Fr.nil n0
  have pre0 : ∀ t, Steps p.tables e below (s₁.setTop (mkF m 0 #[.val (.int p0), .unset, .unset, .unset, .unset] [])) t → Steps p.tables e below (s₁.setTop (entryFrame m #[(.int p0)] maxLocals)) t := fun t k => castTop (ef_0_I m (p0)) k
  obtain ⟨T1, h1, Lc1, b1, k1, X1, e1, Ol1, K1, N1, V1, st1⟩ := fill hw ad NF h0 n0 Ol p0 X0 hx hZ hby hml hown e0
  obtain ⟨cl2, Ar2, q2, S2, M2, H2, G2⟩ := id V1
  have hin2 : ¬ ((27 : Int32) < 0 ∨ cl2.slots.size ≤ ((27 : Int32)).toNatClampNeg) := inb_of S2 ⟨by decide, by decide⟩
  have hat2 : cl2.slots[((27 : Int32)).toNatClampNeg]? = some (.ref (ad 27)) := Has.at H2 hin2 rfl
  obtain ⟨cq3, kq3, qa3, qb3, qc3⟩ := isOf hZ e1 ((ft_27 NF).ext Ol1.2)
  obtain ⟨_, _, ⟨T3, L3, k3, n3⟩, -, X3, ⟨Lc3, hQ3, l3, y3, z3⟩, st3⟩ := X1.virtualBack hx (y := (⟨"com/example/pivotlex/pivotlex/terminology/IssueCode", "isOfValueSet", "()Z"⟩ : MethodName)) (z := (⟨"com/example/pivotlex/pivotlex/terminology/IssueCode", "isOfValueSet", "()Z"⟩ : MethodName)) hown (mvT hZ (hw _ (List.mem_of_getElem? (i := 65) rfl))) (mvT hZ (hw _ (List.mem_of_getElem? (i := 66) rfl))) (notFace_of_selects (args := #[]) (mvT hZ (hw _ (List.mem_of_getElem? (i := 68) rfl)))) (mvT hZ (hw _ (List.mem_of_getElem? (i := 68) rfl))) (mvT hZ (hw _ (List.mem_of_getElem? (i := 67) rfl))) (by decide) (backOf (W := 0) (rm1_ad27 l Z a0 hw [] ad NF h1 n0 Ol1) hZ (hw _ (List.mem_of_getElem? (i := 69) rfl)) (hw _ (List.mem_of_getElem? (i := 3) rfl)) (by decide) (by decide)) qa3 qc3 (g := (mkF m 242 #[.val (.int p0), .val (.ref b1), .val (.int (27 : Int32)), .val (.ref (ad 27)), .val (.int (0 : Int32))] [(.ref (ad 27))])) rfl (by rw [hml]; rfl) (Steps.refl _) (argsL := []) (rest := []) (lenOf pd_1 rfl) rfl (by show 2 * 0 + _ ≤ _; exact Nat.le_of_eq rfl) (hb hby at_242) (fun _ _ => ⟨rfl, e1, (by decide : 1 + 0 ≤ _), (by decide : 30 + 0 ≤ _)⟩)
  dsimp only [Pt.U, Pt.locs, Pt.cells, Pt.slots] at X3 l3 y3 z3 st3 hQ3
  subst l3 y3 z3
  obtain ⟨rfl, Nq3, e3⟩ := hQ3
  have N3 := Fr.app N1 Nq3
  obtain ⟨fs, hr, hrun, hended, hW, hsame⟩ := X3.leave (v := some (.int (1 : Int32))) (fun h => by rw [Bd.returns] at h; cases h)
  refine ⟨_, _, pre0 _ ?_, hrun, hended, _, _, rfl, ?_, ⟨_, rfl⟩, hW, hsame.mono (by decide) (by decide)⟩
  · show Steps p.tables e below (s₁.setTop (mkF m 0 #[.val (.int p0), .unset, .unset, .unset, .unset] [])) _
    refine st1 _ ?_
    show Steps p.tables e below (T1.setTop (mkF m 210 #[.val (.int p0), .val (.ref b1), .unset, .unset, .unset] [])) _
    refine XS.iloadN X1.here hx rfl (hb hby at_210) rfl ?_
    show Steps p.tables e below (T1.setTop (mkF m 211 #[.val (.int p0), .val (.ref b1), .unset, .unset, .unset] [(.int p0)])) _
    refine X1.ldcInt hx hown (mvT hZ (hw _ (List.mem_of_getElem? (i := 64) rfl))) (g := (mkF m 211 #[.val (.int p0), .val (.ref b1), .unset, .unset, .unset] [(.int p0)])) rfl (hb hby at_211) _ ?_
    show Steps p.tables e below (T1.setTop (mkF m 213 #[.val (.int p0), .val (.ref b1), .unset, .unset, .unset] [(.int (2147483647 : Int32)), (.int p0)])) _
    refine XS.iand X1.here hx rfl (hb hby at_213) rfl ?_
    show Steps p.tables e below (T1.setTop (mkF m 214 #[.val (.int p0), .val (.ref b1), .unset, .unset, .unset] [(.int (p0 &&& (2147483647 : Int32)))])) _
    refine XS.bipush X1.here hx rfl (hb hby at_214) ?_
    show Steps p.tables e below (T1.setTop (mkF m 216 #[.val (.int p0), .val (.ref b1), .unset, .unset, .unset] [(.int (30 : Int32)), (.int (p0 &&& (2147483647 : Int32)))])) _
    refine iremM X1 hx rfl (hb hby at_216) rfl (by decide) ?_
    show Steps p.tables e below (T1.setTop (mkF m 217 #[.val (.int p0), .val (.ref b1), .unset, .unset, .unset] [(.int ((p0 &&& (2147483647 : Int32)) % (30 : Int32)))])) _
    rw [hi]
    show Steps p.tables e below (T1.setTop (mkF m 217 #[.val (.int p0), .val (.ref b1), .unset, .unset, .unset] [(.int (27 : Int32))])) _
    refine XS.istoreN X1.here hx rfl (hb hby at_217) rfl (l' := #[.val (.int p0), .val (.ref b1), .val (.int (27 : Int32)), .unset, .unset]) rfl ?_
    show Steps p.tables e below (T1.setTop (mkF m 218 #[.val (.int p0), .val (.ref b1), .val (.int (27 : Int32)), .unset, .unset] [])) _
    refine XS.aloadN X1.here hx rfl (hb hby at_218) rfl rfl ?_
    show Steps p.tables e below (T1.setTop (mkF m 219 #[.val (.int p0), .val (.ref b1), .val (.int (27 : Int32)), .unset, .unset] [(.ref b1)])) _
    refine XS.iloadN X1.here hx rfl (hb hby at_219) rfl ?_
    show Steps p.tables e below (T1.setTop (mkF m 220 #[.val (.int p0), .val (.ref b1), .val (.int (27 : Int32)), .unset, .unset] [(.int (27 : Int32)), (.ref b1)])) _
    refine X1.aaload hx (j := (27 : Int32)) (v := (.ref (ad 27))) (by rw [e1]; exact Ar2.1) (State.isArrayOf_alike hZ.alike Ar2.2.1) rfl Ar2.2.2 hin2 hat2 (g := (mkF m 220 #[.val (.int p0), .val (.ref b1), .val (.int (27 : Int32)), .unset, .unset] [(.int (27 : Int32)), (.ref b1)])) rfl rfl (hb hby at_220) _ ?_
    show Steps p.tables e below (T1.setTop (mkF m 221 #[.val (.int p0), .val (.ref b1), .val (.int (27 : Int32)), .unset, .unset] [(.ref (ad 27))])) _
    refine XS.astoreN X1.here hx rfl (hb hby at_221) rfl rfl (l' := #[.val (.int p0), .val (.ref b1), .val (.int (27 : Int32)), .val (.ref (ad 27)), .unset]) rfl ?_
    show Steps p.tables e below (T1.setTop (mkF m 222 #[.val (.int p0), .val (.ref b1), .val (.int (27 : Int32)), .val (.ref (ad 27)), .unset] [])) _
    refine XS.iloadN X1.here hx rfl (hb hby at_222) rfl ?_
    show Steps p.tables e below (T1.setTop (mkF m 223 #[.val (.int p0), .val (.ref b1), .val (.int (27 : Int32)), .val (.ref (ad 27)), .unset] [(.int (27 : Int32))])) _
    refine XS.bipush X1.here hx rfl (hb hby at_223) ?_
    show Steps p.tables e below (T1.setTop (mkF m 225 #[.val (.int p0), .val (.ref b1), .val (.int (27 : Int32)), .val (.ref (ad 27)), .unset] [(.int (12 : Int32)), (.int (27 : Int32))])) _
    refine XS.icmpNo X1.here hx rfl (hb hby at_225) rfl (flt (by decide)).1 ?_
    show Steps p.tables e below (T1.setTop (mkF m 228 #[.val (.int p0), .val (.ref b1), .val (.int (27 : Int32)), .val (.ref (ad 27)), .unset] [])) _
    refine XS.iloadN X1.here hx rfl (hb hby at_228) rfl ?_
    show Steps p.tables e below (T1.setTop (mkF m 229 #[.val (.int p0), .val (.ref b1), .val (.int (27 : Int32)), .val (.ref (ad 27)), .unset] [(.int (27 : Int32))])) _
    refine XS.bipush X1.here hx rfl (hb hby at_229) ?_
    show Steps p.tables e below (T1.setTop (mkF m 231 #[.val (.int p0), .val (.ref b1), .val (.int (27 : Int32)), .val (.ref (ad 27)), .unset] [(.int (15 : Int32)), (.int (27 : Int32))])) _
    refine XS.icmpYes X1.here hx rfl (pc0 := 231) (pc' := 238) rfl (hb hby at_231) rfl (tlt (by decide)).2.2.1 (by decide) (by decide) ?_
    show Steps p.tables e below (T1.setTop (mkF m 238 #[.val (.int p0), .val (.ref b1), .val (.int (27 : Int32)), .val (.ref (ad 27)), .unset] [])) _
    refine XS.iconst X1.here hx rfl (hb hby at_238) ?_
    show Steps p.tables e below (T1.setTop (mkF m 239 #[.val (.int p0), .val (.ref b1), .val (.int (27 : Int32)), .val (.ref (ad 27)), .unset] [(.int (0 : Int32))])) _
    refine XS.istore X1.here hx rfl (hb hby at_239) rfl (l' := #[.val (.int p0), .val (.ref b1), .val (.int (27 : Int32)), .val (.ref (ad 27)), .val (.int (0 : Int32))]) rfl ?_
    show Steps p.tables e below (T1.setTop (mkF m 241 #[.val (.int p0), .val (.ref b1), .val (.int (27 : Int32)), .val (.ref (ad 27)), .val (.int (0 : Int32))] [])) _
    refine XS.aloadN X1.here hx rfl (hb hby at_241) rfl rfl ?_
    show Steps p.tables e below (T1.setTop (mkF m 242 #[.val (.int p0), .val (.ref b1), .val (.int (27 : Int32)), .val (.ref (ad 27)), .val (.int (0 : Int32))] [(.ref (ad 27))])) _
    refine st3.trans ?_
    show Steps p.tables e below (T3.setTop (mkF m 245 #[.val (.int p0), .val (.ref b1), .val (.int (27 : Int32)), .val (.ref (ad 27)), .val (.int (0 : Int32))] [(.int (0 : Int32))])) _
    refine XS.iload X3.here hx rfl (hb hby at_245) rfl ?_
    show Steps p.tables e below (T3.setTop (mkF m 247 #[.val (.int p0), .val (.ref b1), .val (.int (27 : Int32)), .val (.ref (ad 27)), .val (.int (0 : Int32))] [(.int (0 : Int32)), (.int (0 : Int32))])) _
    refine XS.icmpNo X3.here hx rfl (hb hby at_247) rfl (teq (by decide)).2 ?_
    show Steps p.tables e below (T3.setTop (mkF m 250 #[.val (.int p0), .val (.ref b1), .val (.int (27 : Int32)), .val (.ref (ad 27)), .val (.int (0 : Int32))] [])) _
    refine XS.iconst X3.here hx rfl (hb hby at_250) ?_
    show Steps p.tables e below (T3.setTop (mkF m 251 #[.val (.int p0), .val (.ref b1), .val (.int (27 : Int32)), .val (.ref (ad 27)), .val (.int (0 : Int32))] [(.int (1 : Int32))])) _
    refine XS.goto X3.here hx rfl (pc0 := 251) (pc' := 255) rfl (hb hby at_251) (by decide) (by decide) ?_
    show Steps p.tables e below (T3.setTop (mkF m 255 #[.val (.int p0), .val (.ref b1), .val (.int (27 : Int32)), .val (.ref (ad 27)), .val (.int (0 : Int32))] [(.int (1 : Int32))])) _
    exact retN X3 hx (t := .boolean) Bd.returns (by simp) (hb hby at_255) hr
  · exact ⟨rfl, N3⟩
set_option maxRecDepth 65536 in
set_option maxHeartbeats 40000000 in
theorem rm1_ad28 (l : Launch) (Z : State) (a0 : Array Value) (hw : ∀ d ∈ tables_1, d.before a0 Z = true) (ws : List Jvm.Cond) (ad : Nat → Addr) (NF : Facts Z ad) (h0 : Heap) (n0 : Nat) (Ol : Old Z n0 h0) :
    MetFree l (⟨"com/example/pivotlex/pivotlex/terminology/IssueCode", "isOfValueSet", "()Z"⟩ : MethodName) (head1 (Jvm.Cond.code (⟨"com/example/pivotlex/pivotlex/terminology/IssueCode", "isOfValueSet", "()Z"⟩ : MethodName) prog_80_method_4_code 1 (some .boolean) :: ws) ({ frames := 0, cells := 0, slots := 0, locals := 0 } : Room)) (fun a U => a = #[(.ref (ad 28))] ∧ Z.Warmed39 U.vm ∧ U.heap = h0) (fun _ _ _ _ _ => True) (fun _ U o U' => ∃ v L, o = .returned v ∧ QS (.int (0 : Int32)) h0 n0 v U'.heap L ∧ FrameEnd U o U' L ({ frames := 0, cells := 0, slots := 0, locals := 0 } : Room).cells ({ frames := 0, cells := 0, slots := 0, locals := 0 } : Room).slots) := by
  refine MetFree.of_bodySF (plainFor_of_name pn_1) hisR ?_
  intro p e s m args below meth c s₁ Bd hml0 hP hK
  obtain ⟨rfl, hZ, hh⟩ := hP
  have hx := Bd.exec
  have hby := Bd.bytes
  have hml : c.maxLocals = 1 := hml0
  have hown : s.vm.findClass "com/example/pivotlex/pivotlex/terminology/IssueCode" = some m.cls := findClass_of_methodNamed Bd.named
  have X0 : Stand p l e ({ frames := 0, cells := 0, slots := 0, locals := 0 } : Room) s m #[(.ref (ad 28))] below meth c s₁ [] 0 0 := Stand.of_body Bd
  have e0 : s₁.heap = h0 := by rw [← hh, Bd.state]; rfl
  have N0 := Fr.nil n0
  have pre0 : ∀ t, Steps p.tables e below (s₁.setTop (mkF m 0 #[.val (.ref (ad 28))] [])) t → Steps p.tables e below (s₁.setTop (entryFrame m #[(.ref (ad 28))] 1)) t := fun t k => castTop (ef_1_R m (ad 28)) k
  obtain ⟨T1, X1, e1, st1⟩ := getS2 X0 hx hZ hown (host := "") (Or.inl (hw _ (List.mem_of_getElem? (i := 70) rfl))) Via.refl e0 ((ft_42 NF).ext Ol.2) (g := (mkF m 1 #[.val (.ref (ad 28))] [(.ref (ad 28))])) rfl (hb hby d1_1)
  obtain ⟨T2, X2, e2, st2⟩ := getS2 X1 hx hZ hown (host := "") (Or.inl (hw _ (List.mem_of_getElem? (i := 71) rfl))) Via.refl e1 ((ft_43 NF).ext Ol.2) (g := (mkF m 8 #[.val (.ref (ad 28))] [(.ref (ad 28))])) rfl (hb hby d1_8)
  obtain ⟨T3, X3, e3, st3⟩ := getS2 X2 hx hZ hown (host := "") (Or.inl (hw _ (List.mem_of_getElem? (i := 72) rfl))) Via.refl e2 ((ft_44 NF).ext Ol.2) (g := (mkF m 15 #[.val (.ref (ad 28))] [(.ref (ad 28))])) rfl (hb hby d1_15)
  obtain ⟨T4, X4, e4, st4⟩ := getS2 X3 hx hZ hown (host := "") (Or.inl (hw _ (List.mem_of_getElem? (i := 73) rfl))) Via.refl e3 ((ft_45 NF).ext Ol.2) (g := (mkF m 22 #[.val (.ref (ad 28))] [(.ref (ad 28))])) rfl (hb hby d1_22)
  obtain ⟨fs, hr, hrun, hended, hW, hsame⟩ := X4.leave (v := some (.int (0 : Int32))) (fun h => by rw [Bd.returns] at h; cases h)
  refine ⟨_, _, pre0 _ ?_, hrun, hended, _, _, rfl, ?_, ⟨_, rfl⟩, hW, hsame.mono (by decide) (by decide)⟩
  · show Steps p.tables e below (s₁.setTop (mkF m 0 #[.val (.ref (ad 28))] [])) _
    refine XS.aloadN X0.here hx rfl (hb hby d1_0) rfl rfl ?_
    show Steps p.tables e below (s₁.setTop (mkF m 1 #[.val (.ref (ad 28))] [(.ref (ad 28))])) _
    refine st1 _ ?_
    show Steps p.tables e below (T1.setTop (mkF m 4 #[.val (.ref (ad 28))] [(.ref (ad 12)), (.ref (ad 28))])) _
    refine acmp X1 hx rfl (x := (.ref (ad 28))) (y := (.ref (ad 12))) rfl rfl (pc0 := 4) (pc' := 7) (same := false) rfl (hb hby d1_4) rfl (decide_eq_false (fun h => (Fld.ne (ft_85 NF) (ft_61 NF) (by decide)) (Value.ref.inj h))) (by decide) (by decide) ?_
    show Steps p.tables e below (T1.setTop (mkF m 7 #[.val (.ref (ad 28))] [])) _
    refine XS.aloadN X1.here hx rfl (hb hby d1_7) rfl rfl ?_
    show Steps p.tables e below (T1.setTop (mkF m 8 #[.val (.ref (ad 28))] [(.ref (ad 28))])) _
    refine st2 _ ?_
    show Steps p.tables e below (T2.setTop (mkF m 11 #[.val (.ref (ad 28))] [(.ref (ad 13)), (.ref (ad 28))])) _
    refine acmp X2 hx rfl (x := (.ref (ad 28))) (y := (.ref (ad 13))) rfl rfl (pc0 := 11) (pc' := 14) (same := false) rfl (hb hby d1_11) rfl (decide_eq_false (fun h => (Fld.ne (ft_85 NF) (ft_62 NF) (by decide)) (Value.ref.inj h))) (by decide) (by decide) ?_
    show Steps p.tables e below (T2.setTop (mkF m 14 #[.val (.ref (ad 28))] [])) _
    refine XS.aloadN X2.here hx rfl (hb hby d1_14) rfl rfl ?_
    show Steps p.tables e below (T2.setTop (mkF m 15 #[.val (.ref (ad 28))] [(.ref (ad 28))])) _
    refine st3 _ ?_
    show Steps p.tables e below (T3.setTop (mkF m 18 #[.val (.ref (ad 28))] [(.ref (ad 14)), (.ref (ad 28))])) _
    refine acmp X3 hx rfl (x := (.ref (ad 28))) (y := (.ref (ad 14))) rfl rfl (pc0 := 18) (pc' := 21) (same := false) rfl (hb hby d1_18) rfl (decide_eq_false (fun h => (Fld.ne (ft_85 NF) (ft_63 NF) (by decide)) (Value.ref.inj h))) (by decide) (by decide) ?_
    show Steps p.tables e below (T3.setTop (mkF m 21 #[.val (.ref (ad 28))] [])) _
    refine XS.aloadN X3.here hx rfl (hb hby d1_21) rfl rfl ?_
    show Steps p.tables e below (T3.setTop (mkF m 22 #[.val (.ref (ad 28))] [(.ref (ad 28))])) _
    refine st4 _ ?_
    show Steps p.tables e below (T4.setTop (mkF m 25 #[.val (.ref (ad 28))] [(.ref (ad 15)), (.ref (ad 28))])) _
    refine acmp X4 hx rfl (x := (.ref (ad 28))) (y := (.ref (ad 15))) rfl rfl (pc0 := 25) (pc' := 32) (same := false) rfl (hb hby d1_25) rfl (decide_eq_false (fun h => (Fld.ne (ft_85 NF) (ft_64 NF) (by decide)) (Value.ref.inj h))) (by decide) (by decide) ?_
    show Steps p.tables e below (T4.setTop (mkF m 32 #[.val (.ref (ad 28))] [])) _
    refine XS.iconst X4.here hx rfl (hb hby d1_32) ?_
    show Steps p.tables e below (T4.setTop (mkF m 33 #[.val (.ref (ad 28))] [(.int (0 : Int32))])) _
    exact retN X4 hx (t := .boolean) Bd.returns (by simp) (hb hby d1_33) hr
  · exact ⟨rfl, N0, e4⟩
set_option maxRecDepth 65536 in
set_option maxHeartbeats 40000000 in
theorem rm0_28 (l : Launch) (Z : State) (a0 : Array Value) (hw : ∀ d ∈ tables_1, d.before a0 Z = true) (ws : List Jvm.Cond) (ad : Nat → Addr) (NF : Facts Z ad) (h0 : Heap) (n0 : Nat) (Ol : Old Z n0 h0) (p0 : Int32) (hi : (p0 &&& (2147483647 : Int32)) % (30 : Int32) = (28 : Int32)) :
    MetFree l x (head1 (Jvm.Cond.code x code maxLocals ret :: ws) room_1) (fun a U => a = #[(.int p0)] ∧ Z.Warmed39 U.vm ∧ U.heap = h0) (fun _ _ _ _ _ => True) (fun _ U o U' => ∃ v L, o = .returned v ∧ QL n0 v U'.heap L ∧ FrameEnd U o U' L room_1.cells room_1.slots) := by
  refine MetFree.of_bodySF (plainFor_of_name pn_0) hisR ?_
  intro p e s m args below meth c s₁ Bd hml0 hP hK
  obtain ⟨rfl, hZ, hh⟩ := hP
  have hx := Bd.exec
  have hby := Bd.bytes
  have hml : c.maxLocals = 5 := hml0
  have hown : s.vm.findClass "com/example/pivotlex/pivotlex/terminology/IssueCodeIsOfValueSetPinLaw" = some m.cls := findClass_of_methodNamed Bd.named
  have X0 : Stand p l e room_1 s m #[(.int p0)] below meth c s₁ [] 0 0 := Stand.of_body Bd
  have e0 : s₁.heap = h0 := by rw [← hh, Bd.state]; rfl
  have N0 := Fr.nil n0
  have pre0 : ∀ t, Steps p.tables e below (s₁.setTop (mkF m 0 #[.val (.int p0), .unset, .unset, .unset, .unset] [])) t → Steps p.tables e below (s₁.setTop (entryFrame m #[(.int p0)] maxLocals)) t := fun t k => castTop (ef_0_I m (p0)) k
  obtain ⟨T1, h1, Lc1, b1, k1, X1, e1, Ol1, K1, N1, V1, st1⟩ := fill hw ad NF h0 n0 Ol p0 X0 hx hZ hby hml hown e0
  obtain ⟨cl2, Ar2, q2, S2, M2, H2, G2⟩ := id V1
  have hin2 : ¬ ((28 : Int32) < 0 ∨ cl2.slots.size ≤ ((28 : Int32)).toNatClampNeg) := inb_of S2 ⟨by decide, by decide⟩
  have hat2 : cl2.slots[((28 : Int32)).toNatClampNeg]? = some (.ref (ad 28)) := Has.at H2 hin2 rfl
  obtain ⟨cq3, kq3, qa3, qb3, qc3⟩ := isOf hZ e1 ((ft_28 NF).ext Ol1.2)
  obtain ⟨_, _, ⟨T3, L3, k3, n3⟩, -, X3, ⟨Lc3, hQ3, l3, y3, z3⟩, st3⟩ := X1.virtualBack hx (y := (⟨"com/example/pivotlex/pivotlex/terminology/IssueCode", "isOfValueSet", "()Z"⟩ : MethodName)) (z := (⟨"com/example/pivotlex/pivotlex/terminology/IssueCode", "isOfValueSet", "()Z"⟩ : MethodName)) hown (mvT hZ (hw _ (List.mem_of_getElem? (i := 65) rfl))) (mvT hZ (hw _ (List.mem_of_getElem? (i := 66) rfl))) (notFace_of_selects (args := #[]) (mvT hZ (hw _ (List.mem_of_getElem? (i := 68) rfl)))) (mvT hZ (hw _ (List.mem_of_getElem? (i := 68) rfl))) (mvT hZ (hw _ (List.mem_of_getElem? (i := 67) rfl))) (by decide) (backOf (W := 0) (rm1_ad28 l Z a0 hw [] ad NF h1 n0 Ol1) hZ (hw _ (List.mem_of_getElem? (i := 69) rfl)) (hw _ (List.mem_of_getElem? (i := 3) rfl)) (by decide) (by decide)) qa3 qc3 (g := (mkF m 242 #[.val (.int p0), .val (.ref b1), .val (.int (28 : Int32)), .val (.ref (ad 28)), .val (.int (0 : Int32))] [(.ref (ad 28))])) rfl (by rw [hml]; rfl) (Steps.refl _) (argsL := []) (rest := []) (lenOf pd_1 rfl) rfl (by show 2 * 0 + _ ≤ _; exact Nat.le_of_eq rfl) (hb hby at_242) (fun _ _ => ⟨rfl, e1, (by decide : 1 + 0 ≤ _), (by decide : 30 + 0 ≤ _)⟩)
  dsimp only [Pt.U, Pt.locs, Pt.cells, Pt.slots] at X3 l3 y3 z3 st3 hQ3
  subst l3 y3 z3
  obtain ⟨rfl, Nq3, e3⟩ := hQ3
  have N3 := Fr.app N1 Nq3
  obtain ⟨fs, hr, hrun, hended, hW, hsame⟩ := X3.leave (v := some (.int (1 : Int32))) (fun h => by rw [Bd.returns] at h; cases h)
  refine ⟨_, _, pre0 _ ?_, hrun, hended, _, _, rfl, ?_, ⟨_, rfl⟩, hW, hsame.mono (by decide) (by decide)⟩
  · show Steps p.tables e below (s₁.setTop (mkF m 0 #[.val (.int p0), .unset, .unset, .unset, .unset] [])) _
    refine st1 _ ?_
    show Steps p.tables e below (T1.setTop (mkF m 210 #[.val (.int p0), .val (.ref b1), .unset, .unset, .unset] [])) _
    refine XS.iloadN X1.here hx rfl (hb hby at_210) rfl ?_
    show Steps p.tables e below (T1.setTop (mkF m 211 #[.val (.int p0), .val (.ref b1), .unset, .unset, .unset] [(.int p0)])) _
    refine X1.ldcInt hx hown (mvT hZ (hw _ (List.mem_of_getElem? (i := 64) rfl))) (g := (mkF m 211 #[.val (.int p0), .val (.ref b1), .unset, .unset, .unset] [(.int p0)])) rfl (hb hby at_211) _ ?_
    show Steps p.tables e below (T1.setTop (mkF m 213 #[.val (.int p0), .val (.ref b1), .unset, .unset, .unset] [(.int (2147483647 : Int32)), (.int p0)])) _
    refine XS.iand X1.here hx rfl (hb hby at_213) rfl ?_
    show Steps p.tables e below (T1.setTop (mkF m 214 #[.val (.int p0), .val (.ref b1), .unset, .unset, .unset] [(.int (p0 &&& (2147483647 : Int32)))])) _
    refine XS.bipush X1.here hx rfl (hb hby at_214) ?_
    show Steps p.tables e below (T1.setTop (mkF m 216 #[.val (.int p0), .val (.ref b1), .unset, .unset, .unset] [(.int (30 : Int32)), (.int (p0 &&& (2147483647 : Int32)))])) _
    refine iremM X1 hx rfl (hb hby at_216) rfl (by decide) ?_
    show Steps p.tables e below (T1.setTop (mkF m 217 #[.val (.int p0), .val (.ref b1), .unset, .unset, .unset] [(.int ((p0 &&& (2147483647 : Int32)) % (30 : Int32)))])) _
    rw [hi]
    show Steps p.tables e below (T1.setTop (mkF m 217 #[.val (.int p0), .val (.ref b1), .unset, .unset, .unset] [(.int (28 : Int32))])) _
    refine XS.istoreN X1.here hx rfl (hb hby at_217) rfl (l' := #[.val (.int p0), .val (.ref b1), .val (.int (28 : Int32)), .unset, .unset]) rfl ?_
    show Steps p.tables e below (T1.setTop (mkF m 218 #[.val (.int p0), .val (.ref b1), .val (.int (28 : Int32)), .unset, .unset] [])) _
    refine XS.aloadN X1.here hx rfl (hb hby at_218) rfl rfl ?_
    show Steps p.tables e below (T1.setTop (mkF m 219 #[.val (.int p0), .val (.ref b1), .val (.int (28 : Int32)), .unset, .unset] [(.ref b1)])) _
    refine XS.iloadN X1.here hx rfl (hb hby at_219) rfl ?_
    show Steps p.tables e below (T1.setTop (mkF m 220 #[.val (.int p0), .val (.ref b1), .val (.int (28 : Int32)), .unset, .unset] [(.int (28 : Int32)), (.ref b1)])) _
    refine X1.aaload hx (j := (28 : Int32)) (v := (.ref (ad 28))) (by rw [e1]; exact Ar2.1) (State.isArrayOf_alike hZ.alike Ar2.2.1) rfl Ar2.2.2 hin2 hat2 (g := (mkF m 220 #[.val (.int p0), .val (.ref b1), .val (.int (28 : Int32)), .unset, .unset] [(.int (28 : Int32)), (.ref b1)])) rfl rfl (hb hby at_220) _ ?_
    show Steps p.tables e below (T1.setTop (mkF m 221 #[.val (.int p0), .val (.ref b1), .val (.int (28 : Int32)), .unset, .unset] [(.ref (ad 28))])) _
    refine XS.astoreN X1.here hx rfl (hb hby at_221) rfl rfl (l' := #[.val (.int p0), .val (.ref b1), .val (.int (28 : Int32)), .val (.ref (ad 28)), .unset]) rfl ?_
    show Steps p.tables e below (T1.setTop (mkF m 222 #[.val (.int p0), .val (.ref b1), .val (.int (28 : Int32)), .val (.ref (ad 28)), .unset] [])) _
    refine XS.iloadN X1.here hx rfl (hb hby at_222) rfl ?_
    show Steps p.tables e below (T1.setTop (mkF m 223 #[.val (.int p0), .val (.ref b1), .val (.int (28 : Int32)), .val (.ref (ad 28)), .unset] [(.int (28 : Int32))])) _
    refine XS.bipush X1.here hx rfl (hb hby at_223) ?_
    show Steps p.tables e below (T1.setTop (mkF m 225 #[.val (.int p0), .val (.ref b1), .val (.int (28 : Int32)), .val (.ref (ad 28)), .unset] [(.int (12 : Int32)), (.int (28 : Int32))])) _
    refine XS.icmpNo X1.here hx rfl (hb hby at_225) rfl (flt (by decide)).1 ?_
    show Steps p.tables e below (T1.setTop (mkF m 228 #[.val (.int p0), .val (.ref b1), .val (.int (28 : Int32)), .val (.ref (ad 28)), .unset] [])) _
    refine XS.iloadN X1.here hx rfl (hb hby at_228) rfl ?_
    show Steps p.tables e below (T1.setTop (mkF m 229 #[.val (.int p0), .val (.ref b1), .val (.int (28 : Int32)), .val (.ref (ad 28)), .unset] [(.int (28 : Int32))])) _
    refine XS.bipush X1.here hx rfl (hb hby at_229) ?_
    show Steps p.tables e below (T1.setTop (mkF m 231 #[.val (.int p0), .val (.ref b1), .val (.int (28 : Int32)), .val (.ref (ad 28)), .unset] [(.int (15 : Int32)), (.int (28 : Int32))])) _
    refine XS.icmpYes X1.here hx rfl (pc0 := 231) (pc' := 238) rfl (hb hby at_231) rfl (tlt (by decide)).2.2.1 (by decide) (by decide) ?_
    show Steps p.tables e below (T1.setTop (mkF m 238 #[.val (.int p0), .val (.ref b1), .val (.int (28 : Int32)), .val (.ref (ad 28)), .unset] [])) _
    refine XS.iconst X1.here hx rfl (hb hby at_238) ?_
    show Steps p.tables e below (T1.setTop (mkF m 239 #[.val (.int p0), .val (.ref b1), .val (.int (28 : Int32)), .val (.ref (ad 28)), .unset] [(.int (0 : Int32))])) _
    refine XS.istore X1.here hx rfl (hb hby at_239) rfl (l' := #[.val (.int p0), .val (.ref b1), .val (.int (28 : Int32)), .val (.ref (ad 28)), .val (.int (0 : Int32))]) rfl ?_
    show Steps p.tables e below (T1.setTop (mkF m 241 #[.val (.int p0), .val (.ref b1), .val (.int (28 : Int32)), .val (.ref (ad 28)), .val (.int (0 : Int32))] [])) _
    refine XS.aloadN X1.here hx rfl (hb hby at_241) rfl rfl ?_
    show Steps p.tables e below (T1.setTop (mkF m 242 #[.val (.int p0), .val (.ref b1), .val (.int (28 : Int32)), .val (.ref (ad 28)), .val (.int (0 : Int32))] [(.ref (ad 28))])) _
    refine st3.trans ?_
    show Steps p.tables e below (T3.setTop (mkF m 245 #[.val (.int p0), .val (.ref b1), .val (.int (28 : Int32)), .val (.ref (ad 28)), .val (.int (0 : Int32))] [(.int (0 : Int32))])) _
    refine XS.iload X3.here hx rfl (hb hby at_245) rfl ?_
    show Steps p.tables e below (T3.setTop (mkF m 247 #[.val (.int p0), .val (.ref b1), .val (.int (28 : Int32)), .val (.ref (ad 28)), .val (.int (0 : Int32))] [(.int (0 : Int32)), (.int (0 : Int32))])) _
    refine XS.icmpNo X3.here hx rfl (hb hby at_247) rfl (teq (by decide)).2 ?_
    show Steps p.tables e below (T3.setTop (mkF m 250 #[.val (.int p0), .val (.ref b1), .val (.int (28 : Int32)), .val (.ref (ad 28)), .val (.int (0 : Int32))] [])) _
    refine XS.iconst X3.here hx rfl (hb hby at_250) ?_
    show Steps p.tables e below (T3.setTop (mkF m 251 #[.val (.int p0), .val (.ref b1), .val (.int (28 : Int32)), .val (.ref (ad 28)), .val (.int (0 : Int32))] [(.int (1 : Int32))])) _
    refine XS.goto X3.here hx rfl (pc0 := 251) (pc' := 255) rfl (hb hby at_251) (by decide) (by decide) ?_
    show Steps p.tables e below (T3.setTop (mkF m 255 #[.val (.int p0), .val (.ref b1), .val (.int (28 : Int32)), .val (.ref (ad 28)), .val (.int (0 : Int32))] [(.int (1 : Int32))])) _
    exact retN X3 hx (t := .boolean) Bd.returns (by simp) (hb hby at_255) hr
  · exact ⟨rfl, N3⟩
set_option maxRecDepth 65536 in
set_option maxHeartbeats 40000000 in
theorem rm1_ad29 (l : Launch) (Z : State) (a0 : Array Value) (hw : ∀ d ∈ tables_1, d.before a0 Z = true) (ws : List Jvm.Cond) (ad : Nat → Addr) (NF : Facts Z ad) (h0 : Heap) (n0 : Nat) (Ol : Old Z n0 h0) :
    MetFree l (⟨"com/example/pivotlex/pivotlex/terminology/IssueCode", "isOfValueSet", "()Z"⟩ : MethodName) (head1 (Jvm.Cond.code (⟨"com/example/pivotlex/pivotlex/terminology/IssueCode", "isOfValueSet", "()Z"⟩ : MethodName) prog_80_method_4_code 1 (some .boolean) :: ws) ({ frames := 0, cells := 0, slots := 0, locals := 0 } : Room)) (fun a U => a = #[(.ref (ad 29))] ∧ Z.Warmed39 U.vm ∧ U.heap = h0) (fun _ _ _ _ _ => True) (fun _ U o U' => ∃ v L, o = .returned v ∧ QS (.int (0 : Int32)) h0 n0 v U'.heap L ∧ FrameEnd U o U' L ({ frames := 0, cells := 0, slots := 0, locals := 0 } : Room).cells ({ frames := 0, cells := 0, slots := 0, locals := 0 } : Room).slots) := by
  refine MetFree.of_bodySF (plainFor_of_name pn_1) hisR ?_
  intro p e s m args below meth c s₁ Bd hml0 hP hK
  obtain ⟨rfl, hZ, hh⟩ := hP
  have hx := Bd.exec
  have hby := Bd.bytes
  have hml : c.maxLocals = 1 := hml0
  have hown : s.vm.findClass "com/example/pivotlex/pivotlex/terminology/IssueCode" = some m.cls := findClass_of_methodNamed Bd.named
  have X0 : Stand p l e ({ frames := 0, cells := 0, slots := 0, locals := 0 } : Room) s m #[(.ref (ad 29))] below meth c s₁ [] 0 0 := Stand.of_body Bd
  have e0 : s₁.heap = h0 := by rw [← hh, Bd.state]; rfl
  have N0 := Fr.nil n0
  have pre0 : ∀ t, Steps p.tables e below (s₁.setTop (mkF m 0 #[.val (.ref (ad 29))] [])) t → Steps p.tables e below (s₁.setTop (entryFrame m #[(.ref (ad 29))] 1)) t := fun t k => castTop (ef_1_R m (ad 29)) k
  obtain ⟨T1, X1, e1, st1⟩ := getS2 X0 hx hZ hown (host := "") (Or.inl (hw _ (List.mem_of_getElem? (i := 70) rfl))) Via.refl e0 ((ft_42 NF).ext Ol.2) (g := (mkF m 1 #[.val (.ref (ad 29))] [(.ref (ad 29))])) rfl (hb hby d1_1)
  obtain ⟨T2, X2, e2, st2⟩ := getS2 X1 hx hZ hown (host := "") (Or.inl (hw _ (List.mem_of_getElem? (i := 71) rfl))) Via.refl e1 ((ft_43 NF).ext Ol.2) (g := (mkF m 8 #[.val (.ref (ad 29))] [(.ref (ad 29))])) rfl (hb hby d1_8)
  obtain ⟨T3, X3, e3, st3⟩ := getS2 X2 hx hZ hown (host := "") (Or.inl (hw _ (List.mem_of_getElem? (i := 72) rfl))) Via.refl e2 ((ft_44 NF).ext Ol.2) (g := (mkF m 15 #[.val (.ref (ad 29))] [(.ref (ad 29))])) rfl (hb hby d1_15)
  obtain ⟨T4, X4, e4, st4⟩ := getS2 X3 hx hZ hown (host := "") (Or.inl (hw _ (List.mem_of_getElem? (i := 73) rfl))) Via.refl e3 ((ft_45 NF).ext Ol.2) (g := (mkF m 22 #[.val (.ref (ad 29))] [(.ref (ad 29))])) rfl (hb hby d1_22)
  obtain ⟨fs, hr, hrun, hended, hW, hsame⟩ := X4.leave (v := some (.int (0 : Int32))) (fun h => by rw [Bd.returns] at h; cases h)
  refine ⟨_, _, pre0 _ ?_, hrun, hended, _, _, rfl, ?_, ⟨_, rfl⟩, hW, hsame.mono (by decide) (by decide)⟩
  · show Steps p.tables e below (s₁.setTop (mkF m 0 #[.val (.ref (ad 29))] [])) _
    refine XS.aloadN X0.here hx rfl (hb hby d1_0) rfl rfl ?_
    show Steps p.tables e below (s₁.setTop (mkF m 1 #[.val (.ref (ad 29))] [(.ref (ad 29))])) _
    refine st1 _ ?_
    show Steps p.tables e below (T1.setTop (mkF m 4 #[.val (.ref (ad 29))] [(.ref (ad 12)), (.ref (ad 29))])) _
    refine acmp X1 hx rfl (x := (.ref (ad 29))) (y := (.ref (ad 12))) rfl rfl (pc0 := 4) (pc' := 7) (same := false) rfl (hb hby d1_4) rfl (decide_eq_false (fun h => (Fld.ne (ft_74 NF) (ft_61 NF) (by decide)) (Value.ref.inj h))) (by decide) (by decide) ?_
    show Steps p.tables e below (T1.setTop (mkF m 7 #[.val (.ref (ad 29))] [])) _
    refine XS.aloadN X1.here hx rfl (hb hby d1_7) rfl rfl ?_
    show Steps p.tables e below (T1.setTop (mkF m 8 #[.val (.ref (ad 29))] [(.ref (ad 29))])) _
    refine st2 _ ?_
    show Steps p.tables e below (T2.setTop (mkF m 11 #[.val (.ref (ad 29))] [(.ref (ad 13)), (.ref (ad 29))])) _
    refine acmp X2 hx rfl (x := (.ref (ad 29))) (y := (.ref (ad 13))) rfl rfl (pc0 := 11) (pc' := 14) (same := false) rfl (hb hby d1_11) rfl (decide_eq_false (fun h => (Fld.ne (ft_74 NF) (ft_62 NF) (by decide)) (Value.ref.inj h))) (by decide) (by decide) ?_
    show Steps p.tables e below (T2.setTop (mkF m 14 #[.val (.ref (ad 29))] [])) _
    refine XS.aloadN X2.here hx rfl (hb hby d1_14) rfl rfl ?_
    show Steps p.tables e below (T2.setTop (mkF m 15 #[.val (.ref (ad 29))] [(.ref (ad 29))])) _
    refine st3 _ ?_
    show Steps p.tables e below (T3.setTop (mkF m 18 #[.val (.ref (ad 29))] [(.ref (ad 14)), (.ref (ad 29))])) _
    refine acmp X3 hx rfl (x := (.ref (ad 29))) (y := (.ref (ad 14))) rfl rfl (pc0 := 18) (pc' := 21) (same := false) rfl (hb hby d1_18) rfl (decide_eq_false (fun h => (Fld.ne (ft_74 NF) (ft_63 NF) (by decide)) (Value.ref.inj h))) (by decide) (by decide) ?_
    show Steps p.tables e below (T3.setTop (mkF m 21 #[.val (.ref (ad 29))] [])) _
    refine XS.aloadN X3.here hx rfl (hb hby d1_21) rfl rfl ?_
    show Steps p.tables e below (T3.setTop (mkF m 22 #[.val (.ref (ad 29))] [(.ref (ad 29))])) _
    refine st4 _ ?_
    show Steps p.tables e below (T4.setTop (mkF m 25 #[.val (.ref (ad 29))] [(.ref (ad 15)), (.ref (ad 29))])) _
    refine acmp X4 hx rfl (x := (.ref (ad 29))) (y := (.ref (ad 15))) rfl rfl (pc0 := 25) (pc' := 32) (same := false) rfl (hb hby d1_25) rfl (decide_eq_false (fun h => (Fld.ne (ft_74 NF) (ft_64 NF) (by decide)) (Value.ref.inj h))) (by decide) (by decide) ?_
    show Steps p.tables e below (T4.setTop (mkF m 32 #[.val (.ref (ad 29))] [])) _
    refine XS.iconst X4.here hx rfl (hb hby d1_32) ?_
    show Steps p.tables e below (T4.setTop (mkF m 33 #[.val (.ref (ad 29))] [(.int (0 : Int32))])) _
    exact retN X4 hx (t := .boolean) Bd.returns (by simp) (hb hby d1_33) hr
  · exact ⟨rfl, N0, e4⟩
set_option maxRecDepth 65536 in
set_option maxHeartbeats 40000000 in
theorem rm0_29 (l : Launch) (Z : State) (a0 : Array Value) (hw : ∀ d ∈ tables_1, d.before a0 Z = true) (ws : List Jvm.Cond) (ad : Nat → Addr) (NF : Facts Z ad) (h0 : Heap) (n0 : Nat) (Ol : Old Z n0 h0) (p0 : Int32) (hi : (p0 &&& (2147483647 : Int32)) % (30 : Int32) = (29 : Int32)) :
    MetFree l x (head1 (Jvm.Cond.code x code maxLocals ret :: ws) room_1) (fun a U => a = #[(.int p0)] ∧ Z.Warmed39 U.vm ∧ U.heap = h0) (fun _ _ _ _ _ => True) (fun _ U o U' => ∃ v L, o = .returned v ∧ QL n0 v U'.heap L ∧ FrameEnd U o U' L room_1.cells room_1.slots) := by
  refine MetFree.of_bodySF (plainFor_of_name pn_0) hisR ?_
  intro p e s m args below meth c s₁ Bd hml0 hP hK
  obtain ⟨rfl, hZ, hh⟩ := hP
  have hx := Bd.exec
  have hby := Bd.bytes
  have hml : c.maxLocals = 5 := hml0
  have hown : s.vm.findClass "com/example/pivotlex/pivotlex/terminology/IssueCodeIsOfValueSetPinLaw" = some m.cls := findClass_of_methodNamed Bd.named
  have X0 : Stand p l e room_1 s m #[(.int p0)] below meth c s₁ [] 0 0 := Stand.of_body Bd
  have e0 : s₁.heap = h0 := by rw [← hh, Bd.state]; rfl
  have N0 := Fr.nil n0
  have pre0 : ∀ t, Steps p.tables e below (s₁.setTop (mkF m 0 #[.val (.int p0), .unset, .unset, .unset, .unset] [])) t → Steps p.tables e below (s₁.setTop (entryFrame m #[(.int p0)] maxLocals)) t := fun t k => castTop (ef_0_I m (p0)) k
  obtain ⟨T1, h1, Lc1, b1, k1, X1, e1, Ol1, K1, N1, V1, st1⟩ := fill hw ad NF h0 n0 Ol p0 X0 hx hZ hby hml hown e0
  obtain ⟨cl2, Ar2, q2, S2, M2, H2, G2⟩ := id V1
  have hin2 : ¬ ((29 : Int32) < 0 ∨ cl2.slots.size ≤ ((29 : Int32)).toNatClampNeg) := inb_of S2 ⟨by decide, by decide⟩
  have hat2 : cl2.slots[((29 : Int32)).toNatClampNeg]? = some (.ref (ad 29)) := Has.at H2 hin2 rfl
  obtain ⟨cq3, kq3, qa3, qb3, qc3⟩ := isOf hZ e1 ((ft_29 NF).ext Ol1.2)
  obtain ⟨_, _, ⟨T3, L3, k3, n3⟩, -, X3, ⟨Lc3, hQ3, l3, y3, z3⟩, st3⟩ := X1.virtualBack hx (y := (⟨"com/example/pivotlex/pivotlex/terminology/IssueCode", "isOfValueSet", "()Z"⟩ : MethodName)) (z := (⟨"com/example/pivotlex/pivotlex/terminology/IssueCode", "isOfValueSet", "()Z"⟩ : MethodName)) hown (mvT hZ (hw _ (List.mem_of_getElem? (i := 65) rfl))) (mvT hZ (hw _ (List.mem_of_getElem? (i := 66) rfl))) (notFace_of_selects (args := #[]) (mvT hZ (hw _ (List.mem_of_getElem? (i := 68) rfl)))) (mvT hZ (hw _ (List.mem_of_getElem? (i := 68) rfl))) (mvT hZ (hw _ (List.mem_of_getElem? (i := 67) rfl))) (by decide) (backOf (W := 0) (rm1_ad29 l Z a0 hw [] ad NF h1 n0 Ol1) hZ (hw _ (List.mem_of_getElem? (i := 69) rfl)) (hw _ (List.mem_of_getElem? (i := 3) rfl)) (by decide) (by decide)) qa3 qc3 (g := (mkF m 242 #[.val (.int p0), .val (.ref b1), .val (.int (29 : Int32)), .val (.ref (ad 29)), .val (.int (0 : Int32))] [(.ref (ad 29))])) rfl (by rw [hml]; rfl) (Steps.refl _) (argsL := []) (rest := []) (lenOf pd_1 rfl) rfl (by show 2 * 0 + _ ≤ _; exact Nat.le_of_eq rfl) (hb hby at_242) (fun _ _ => ⟨rfl, e1, (by decide : 1 + 0 ≤ _), (by decide : 30 + 0 ≤ _)⟩)
  dsimp only [Pt.U, Pt.locs, Pt.cells, Pt.slots] at X3 l3 y3 z3 st3 hQ3
  subst l3 y3 z3
  obtain ⟨rfl, Nq3, e3⟩ := hQ3
  have N3 := Fr.app N1 Nq3
  obtain ⟨fs, hr, hrun, hended, hW, hsame⟩ := X3.leave (v := some (.int (1 : Int32))) (fun h => by rw [Bd.returns] at h; cases h)
  refine ⟨_, _, pre0 _ ?_, hrun, hended, _, _, rfl, ?_, ⟨_, rfl⟩, hW, hsame.mono (by decide) (by decide)⟩
  · show Steps p.tables e below (s₁.setTop (mkF m 0 #[.val (.int p0), .unset, .unset, .unset, .unset] [])) _
    refine st1 _ ?_
    show Steps p.tables e below (T1.setTop (mkF m 210 #[.val (.int p0), .val (.ref b1), .unset, .unset, .unset] [])) _
    refine XS.iloadN X1.here hx rfl (hb hby at_210) rfl ?_
    show Steps p.tables e below (T1.setTop (mkF m 211 #[.val (.int p0), .val (.ref b1), .unset, .unset, .unset] [(.int p0)])) _
    refine X1.ldcInt hx hown (mvT hZ (hw _ (List.mem_of_getElem? (i := 64) rfl))) (g := (mkF m 211 #[.val (.int p0), .val (.ref b1), .unset, .unset, .unset] [(.int p0)])) rfl (hb hby at_211) _ ?_
    show Steps p.tables e below (T1.setTop (mkF m 213 #[.val (.int p0), .val (.ref b1), .unset, .unset, .unset] [(.int (2147483647 : Int32)), (.int p0)])) _
    refine XS.iand X1.here hx rfl (hb hby at_213) rfl ?_
    show Steps p.tables e below (T1.setTop (mkF m 214 #[.val (.int p0), .val (.ref b1), .unset, .unset, .unset] [(.int (p0 &&& (2147483647 : Int32)))])) _
    refine XS.bipush X1.here hx rfl (hb hby at_214) ?_
    show Steps p.tables e below (T1.setTop (mkF m 216 #[.val (.int p0), .val (.ref b1), .unset, .unset, .unset] [(.int (30 : Int32)), (.int (p0 &&& (2147483647 : Int32)))])) _
    refine iremM X1 hx rfl (hb hby at_216) rfl (by decide) ?_
    show Steps p.tables e below (T1.setTop (mkF m 217 #[.val (.int p0), .val (.ref b1), .unset, .unset, .unset] [(.int ((p0 &&& (2147483647 : Int32)) % (30 : Int32)))])) _
    rw [hi]
    show Steps p.tables e below (T1.setTop (mkF m 217 #[.val (.int p0), .val (.ref b1), .unset, .unset, .unset] [(.int (29 : Int32))])) _
    refine XS.istoreN X1.here hx rfl (hb hby at_217) rfl (l' := #[.val (.int p0), .val (.ref b1), .val (.int (29 : Int32)), .unset, .unset]) rfl ?_
    show Steps p.tables e below (T1.setTop (mkF m 218 #[.val (.int p0), .val (.ref b1), .val (.int (29 : Int32)), .unset, .unset] [])) _
    refine XS.aloadN X1.here hx rfl (hb hby at_218) rfl rfl ?_
    show Steps p.tables e below (T1.setTop (mkF m 219 #[.val (.int p0), .val (.ref b1), .val (.int (29 : Int32)), .unset, .unset] [(.ref b1)])) _
    refine XS.iloadN X1.here hx rfl (hb hby at_219) rfl ?_
    show Steps p.tables e below (T1.setTop (mkF m 220 #[.val (.int p0), .val (.ref b1), .val (.int (29 : Int32)), .unset, .unset] [(.int (29 : Int32)), (.ref b1)])) _
    refine X1.aaload hx (j := (29 : Int32)) (v := (.ref (ad 29))) (by rw [e1]; exact Ar2.1) (State.isArrayOf_alike hZ.alike Ar2.2.1) rfl Ar2.2.2 hin2 hat2 (g := (mkF m 220 #[.val (.int p0), .val (.ref b1), .val (.int (29 : Int32)), .unset, .unset] [(.int (29 : Int32)), (.ref b1)])) rfl rfl (hb hby at_220) _ ?_
    show Steps p.tables e below (T1.setTop (mkF m 221 #[.val (.int p0), .val (.ref b1), .val (.int (29 : Int32)), .unset, .unset] [(.ref (ad 29))])) _
    refine XS.astoreN X1.here hx rfl (hb hby at_221) rfl rfl (l' := #[.val (.int p0), .val (.ref b1), .val (.int (29 : Int32)), .val (.ref (ad 29)), .unset]) rfl ?_
    show Steps p.tables e below (T1.setTop (mkF m 222 #[.val (.int p0), .val (.ref b1), .val (.int (29 : Int32)), .val (.ref (ad 29)), .unset] [])) _
    refine XS.iloadN X1.here hx rfl (hb hby at_222) rfl ?_
    show Steps p.tables e below (T1.setTop (mkF m 223 #[.val (.int p0), .val (.ref b1), .val (.int (29 : Int32)), .val (.ref (ad 29)), .unset] [(.int (29 : Int32))])) _
    refine XS.bipush X1.here hx rfl (hb hby at_223) ?_
    show Steps p.tables e below (T1.setTop (mkF m 225 #[.val (.int p0), .val (.ref b1), .val (.int (29 : Int32)), .val (.ref (ad 29)), .unset] [(.int (12 : Int32)), (.int (29 : Int32))])) _
    refine XS.icmpNo X1.here hx rfl (hb hby at_225) rfl (flt (by decide)).1 ?_
    show Steps p.tables e below (T1.setTop (mkF m 228 #[.val (.int p0), .val (.ref b1), .val (.int (29 : Int32)), .val (.ref (ad 29)), .unset] [])) _
    refine XS.iloadN X1.here hx rfl (hb hby at_228) rfl ?_
    show Steps p.tables e below (T1.setTop (mkF m 229 #[.val (.int p0), .val (.ref b1), .val (.int (29 : Int32)), .val (.ref (ad 29)), .unset] [(.int (29 : Int32))])) _
    refine XS.bipush X1.here hx rfl (hb hby at_229) ?_
    show Steps p.tables e below (T1.setTop (mkF m 231 #[.val (.int p0), .val (.ref b1), .val (.int (29 : Int32)), .val (.ref (ad 29)), .unset] [(.int (15 : Int32)), (.int (29 : Int32))])) _
    refine XS.icmpYes X1.here hx rfl (pc0 := 231) (pc' := 238) rfl (hb hby at_231) rfl (tlt (by decide)).2.2.1 (by decide) (by decide) ?_
    show Steps p.tables e below (T1.setTop (mkF m 238 #[.val (.int p0), .val (.ref b1), .val (.int (29 : Int32)), .val (.ref (ad 29)), .unset] [])) _
    refine XS.iconst X1.here hx rfl (hb hby at_238) ?_
    show Steps p.tables e below (T1.setTop (mkF m 239 #[.val (.int p0), .val (.ref b1), .val (.int (29 : Int32)), .val (.ref (ad 29)), .unset] [(.int (0 : Int32))])) _
    refine XS.istore X1.here hx rfl (hb hby at_239) rfl (l' := #[.val (.int p0), .val (.ref b1), .val (.int (29 : Int32)), .val (.ref (ad 29)), .val (.int (0 : Int32))]) rfl ?_
    show Steps p.tables e below (T1.setTop (mkF m 241 #[.val (.int p0), .val (.ref b1), .val (.int (29 : Int32)), .val (.ref (ad 29)), .val (.int (0 : Int32))] [])) _
    refine XS.aloadN X1.here hx rfl (hb hby at_241) rfl rfl ?_
    show Steps p.tables e below (T1.setTop (mkF m 242 #[.val (.int p0), .val (.ref b1), .val (.int (29 : Int32)), .val (.ref (ad 29)), .val (.int (0 : Int32))] [(.ref (ad 29))])) _
    refine st3.trans ?_
    show Steps p.tables e below (T3.setTop (mkF m 245 #[.val (.int p0), .val (.ref b1), .val (.int (29 : Int32)), .val (.ref (ad 29)), .val (.int (0 : Int32))] [(.int (0 : Int32))])) _
    refine XS.iload X3.here hx rfl (hb hby at_245) rfl ?_
    show Steps p.tables e below (T3.setTop (mkF m 247 #[.val (.int p0), .val (.ref b1), .val (.int (29 : Int32)), .val (.ref (ad 29)), .val (.int (0 : Int32))] [(.int (0 : Int32)), (.int (0 : Int32))])) _
    refine XS.icmpNo X3.here hx rfl (hb hby at_247) rfl (teq (by decide)).2 ?_
    show Steps p.tables e below (T3.setTop (mkF m 250 #[.val (.int p0), .val (.ref b1), .val (.int (29 : Int32)), .val (.ref (ad 29)), .val (.int (0 : Int32))] [])) _
    refine XS.iconst X3.here hx rfl (hb hby at_250) ?_
    show Steps p.tables e below (T3.setTop (mkF m 251 #[.val (.int p0), .val (.ref b1), .val (.int (29 : Int32)), .val (.ref (ad 29)), .val (.int (0 : Int32))] [(.int (1 : Int32))])) _
    refine XS.goto X3.here hx rfl (pc0 := 251) (pc' := 255) rfl (hb hby at_251) (by decide) (by decide) ?_
    show Steps p.tables e below (T3.setTop (mkF m 255 #[.val (.int p0), .val (.ref b1), .val (.int (29 : Int32)), .val (.ref (ad 29)), .val (.int (0 : Int32))] [(.int (1 : Int32))])) _
    exact retN X3 hx (t := .boolean) Bd.returns (by simp) (hb hby at_255) hr
  · exact ⟨rfl, N3⟩
set_option maxRecDepth 65536 in
set_option maxHeartbeats 40000000 in
theorem comes_1 {Post : Tables → Env → Array Value → State → Outcome → State → Prop} (hpost : ∀ tb e args s v u, (limb_1_1.after args s (.returned v) u = true ∧ limb_1_2.after args s (.returned v) u = true ∧ True) → FrameEnd s (.returned v) u (Jvm.fieldLocs frame_1_writes args s ++ Jvm.arrayLocs frame_1_arrays args s ++ Jvm.staticLocs frame_1_statics s) 16 128 → Post tb e args s (.returned v) u) :
    ArmFor flags0 classFile x code maxLocals ret World_1 tables_1 room_1 Calls_1 rest_1 Pre_1 Post := by
  intro l hfl _ _ p e ha hc hk s m args below hf hA hF happ hP
  obtain ⟨hcalls, hrest, hpre⟩ := hP
  obtain ⟨-, -, -, hnamed, -, -, -, hat⟩ := (Spec.applies_iff hf).mp happ
  obtain ⟨hg, hn⟩ := and_e (Cond.before_iff.mp (show (Jvm.Cond.and given_1 narrow_1).before args s = true from hpre))
  obtain ⟨hcount, hg0⟩ := and_e hg
  obtain ⟨w0, rfl⟩ : ∃ w0 : Value, args = #[w0] := by
    have hs : args.size = 1 := by simpa [Cond.value, given_1] using hcount
    obtain ⟨L⟩ := args
    match L, hs with
    | [w0], _ => exact ⟨w0, rfl⟩
  have hw := fun d (hd : d ∈ tables_1) => atoms_spec (ws := Jvm.Cond.code x code maxLocals ret :: tables_1) hat d (List.mem_cons_of_mem _ hd)
  have hfit : Fit s := fun {y c} hc i hi => by
    obtain ⟨ha, rfl⟩ := Array.getElem?_eq_some_iff.mp hc
    have q := List.all_eq_true.mp ((Array.all_eq_true_iff_forall_mem.mp hF) _ (Array.getElem_mem ha)) i (List.mem_range.mpr hi)
    simpa [Array.getElem?_eq_getElem hi] using q
  obtain ⟨i0, ei0⟩ := is_v hg0
  obtain rfl : w0 = (.int i0) := Option.some.inj ei0
  obtain ⟨ad, NF⟩ := own_facts hw hfit hn
  have hrm : MetFree l x (head1 (Jvm.Cond.code x code maxLocals ret :: tables_1) room_1) (fun a U => a = #[(.int i0)] ∧ s.Warmed39 U.vm ∧ U.heap = s.heap) (fun _ _ _ _ _ => True) (fun _ U o U' => ∃ v L, o = .returned v ∧ QL s.heap.size v U'.heap L ∧ FrameEnd U o U' L room_1.cells room_1.slots) := by
    rcases own_mod i0 with hi | hi | hi | hi | hi | hi | hi | hi | hi | hi | hi | hi | hi | hi | hi | hi | hi | hi | hi | hi | hi | hi | hi | hi | hi | hi | hi | hi | hi | hi
    · exact rm0_0 l s _ hw tables_1 ad NF s.heap s.heap.size (Old.start s) i0 hi
    · exact rm0_1 l s _ hw tables_1 ad NF s.heap s.heap.size (Old.start s) i0 hi
    · exact rm0_2 l s _ hw tables_1 ad NF s.heap s.heap.size (Old.start s) i0 hi
    · exact rm0_3 l s _ hw tables_1 ad NF s.heap s.heap.size (Old.start s) i0 hi
    · exact rm0_4 l s _ hw tables_1 ad NF s.heap s.heap.size (Old.start s) i0 hi
    · exact rm0_5 l s _ hw tables_1 ad NF s.heap s.heap.size (Old.start s) i0 hi
    · exact rm0_6 l s _ hw tables_1 ad NF s.heap s.heap.size (Old.start s) i0 hi
    · exact rm0_7 l s _ hw tables_1 ad NF s.heap s.heap.size (Old.start s) i0 hi
    · exact rm0_8 l s _ hw tables_1 ad NF s.heap s.heap.size (Old.start s) i0 hi
    · exact rm0_9 l s _ hw tables_1 ad NF s.heap s.heap.size (Old.start s) i0 hi
    · exact rm0_10 l s _ hw tables_1 ad NF s.heap s.heap.size (Old.start s) i0 hi
    · exact rm0_11 l s _ hw tables_1 ad NF s.heap s.heap.size (Old.start s) i0 hi
    · exact rm0_12 l s _ hw tables_1 ad NF s.heap s.heap.size (Old.start s) i0 hi
    · exact rm0_13 l s _ hw tables_1 ad NF s.heap s.heap.size (Old.start s) i0 hi
    · exact rm0_14 l s _ hw tables_1 ad NF s.heap s.heap.size (Old.start s) i0 hi
    · exact rm0_15 l s _ hw tables_1 ad NF s.heap s.heap.size (Old.start s) i0 hi
    · exact rm0_16 l s _ hw tables_1 ad NF s.heap s.heap.size (Old.start s) i0 hi
    · exact rm0_17 l s _ hw tables_1 ad NF s.heap s.heap.size (Old.start s) i0 hi
    · exact rm0_18 l s _ hw tables_1 ad NF s.heap s.heap.size (Old.start s) i0 hi
    · exact rm0_19 l s _ hw tables_1 ad NF s.heap s.heap.size (Old.start s) i0 hi
    · exact rm0_20 l s _ hw tables_1 ad NF s.heap s.heap.size (Old.start s) i0 hi
    · exact rm0_21 l s _ hw tables_1 ad NF s.heap s.heap.size (Old.start s) i0 hi
    · exact rm0_22 l s _ hw tables_1 ad NF s.heap s.heap.size (Old.start s) i0 hi
    · exact rm0_23 l s _ hw tables_1 ad NF s.heap s.heap.size (Old.start s) i0 hi
    · exact rm0_24 l s _ hw tables_1 ad NF s.heap s.heap.size (Old.start s) i0 hi
    · exact rm0_25 l s _ hw tables_1 ad NF s.heap s.heap.size (Old.start s) i0 hi
    · exact rm0_26 l s _ hw tables_1 ad NF s.heap s.heap.size (Old.start s) i0 hi
    · exact rm0_27 l s _ hw tables_1 ad NF s.heap s.heap.size (Old.start s) i0 hi
    · exact rm0_28 l s _ hw tables_1 ad NF s.heap s.heap.size (Old.start s) i0 hi
    · exact rm0_29 l s _ hw tables_1 ad NF s.heap s.heap.size (Old.start s) i0 hi
  obtain ⟨n, o, h1, h2, h3, _, L, rfl, ⟨rfl, N⟩, hq⟩ := hrm p e ha hc hk s m _ below hf ((Spec.applies_iff_loose hf).mp happ).1 ⟨rfl, State.Warmed39.refl s, rfl⟩ trivial
  refine ⟨n, _, h1, h2, h3, hpost _ _ _ _ _ _ ⟨Cond.after_iff.mpr rfl, Cond.after_iff.mpr (eq_i res_at (Term.int_eval (1)) rfl), trivial⟩ ⟨hq.1, hq.2.1, (hq.2.2.sift fun y hy => Or.inr (N y hy)).mono (by decide) (by decide)⟩⟩
theorem main_1_1 : Claimed_1_1 := comes_1 fun _ _ _ _ _ _ h hF => ⟨h.1, hF⟩
theorem main_1_2 : Claimed_1_2 := comes_1 fun _ _ _ _ _ _ h hF => ⟨h.2.1, hF⟩
end Jvm.Pilot.@@N@@
namespace Jvm.Pilot.@@N@@
open Jvm Jvm.ClassFile Sem Op Lib Jvm.Free Jvm.Stand Jvm.Pilot.@@N@@.Jvm.D
/-! MADE BY PROGRAM (witnessworld.py) out of the Statement's table words and the real class files: 13 classes; the members and pool entries that the words name. The judged class is class 1, her method 1. -/
namespace start1
open Jvm.ClassFile
def u (s : String) : CpInfo := .utf8 (stringToUtf16 s)
/-- a pool by its gaps: so many unusable entries, then the entry; so many at the end -/
def gap : Nat → List CpInfo → List CpInfo
  | 0, r => r
  | n + 1, r => .unusable :: gap n r
def poolList (es : List (Nat × CpInfo)) (last : Nat) : List CpInfo := es.foldr (fun e r => gap e.1 (e.2 :: r)) (gap last [])
def pool (es : List (Nat × CpInfo)) (last : Nat) : Array CpInfo := ⟨poolList es last⟩
def fileOf (pool : Array CpInfo) (this : Nat) (attrs : Array Attribute := #[]) (ms : Array MethodInfo := #[]) (fl : Nat := 33) (sup : Nat := 0) (ifs : Array Nat := #[]) (fds : Array FieldInfo := #[]) : ClassFile where
  minorVersion := 0
  majorVersion := 65
  constantPool := pool
  accessFlags := fl
  thisClass := this
  superClass := sup
  interfaces := ifs
  fields := fds
  methods := ms
  attributes := attrs
def plain (name : String) (sup : Option ClassId) : Class where
  name := name
  kind := .ordinary
  loader := none
  accessFlags := 33
  super := sup
  interfaces := #[]
  cf := none
  fields := #[]
  methods := #[]
  instanceTypes := #[]
  staticTypes := #[]
  resolved := #[]
  callSites := []
  init := .initialized
  statics := none
  mirror := none

def pool0 : Array CpInfo := pool [(5, u "<init>"), (0, u "()V"), (1, .class_ 10), (1, u "java/lang/Object")] 113

def k0m0 : Method := { name := "<init>", desc := "()V", sig := { parameters := [], returnType := none }, accessFlags := 1, code := none }
/-- java/lang/Object -/
def k0 : Class := { plain "java/lang/Object" none with
  accessFlags := 33
  interfaces := #[]
  cf := some (fileOf pool0 8 #[] #[{ accessFlags := 1, nameIndex := 5, descriptorIndex := 6, attributes := #[] }] 33 0 #[] #[])
  fields := #[]
  methods := #[k0m0]
  instanceTypes := #[]
  staticTypes := #[]
  resolved := Array.replicate 124 none
  statics := none }

def pool1 : Array CpInfo := pool [(2, .class_ 4), (1, u "java/lang/Object"), (0, u "<init>"), (0, u "()V"), (0, .class_ 8), (0, u "com/example/pivotlex/pivotlex/terminology/IssueCode"), (0, .fieldref 7 10), (0, .nameAndType 11 12), (0, u "ERR_CODE_SYSTEM_NOT_FOUND"), (0, u "Lcom/example/pivotlex/pivotlex/terminology/IssueCode;"), (0, .fieldref 7 14), (0, .nameAndType 15 12), (0, u "ERR_CODE_SYSTEM_VERSION_NOT_FOUND"), (0, .fieldref 7 17), (0, .nameAndType 18 12), (0, u "ERR_CONCEPT_NOT_FOUND"), (0, .fieldref 7 20), (0, .nameAndType 21 12), (0, u "ERR_DESIGNATION_NOT_FOUND"), (0, .fieldref 7 23), (0, .nameAndType 24 12), (0, u "ERR_CODE_SYSTEM_NOT_INFERRED"), (0, .fieldref 7 26), (0, .nameAndType 27 12), (0, u "ERR_DISPLAY_INVALID"), (0, .fieldref 7 29), (0, .nameAndType 30 12), (0, u "ERR_NOT_IN_VALUE_SET"), (0, .fieldref 7 32), (0, .nameAndType 33 12), (0, u "ERR_MAPPING_INVALID"), (0, .fieldref 7 35), (0, .nameAndType 36 12), (0, u "ERR_MAPPING_AMBIGUOUS"), (0, .fieldref 7 38), (0, .nameAndType 39 12), (0, u "ERR_TARGET_NOT_FOUND"), (0, .fieldref 7 41), (0, .nameAndType 42 12), (0, u "ERR_CONCEPT_MAP_NOT_FOUND"), (0, .fieldref 7 44), (0, .nameAndType 45 12), (0, u "ERR_CONCEPT_MAP_VERSION_NOT_FOUND"), (0, .fieldref 7 47), (0, .nameAndType 48 12), (0, u "ERR_VALUE_SET_NOT_FOUND"), (0, .fieldref 7 50), (0, .nameAndType 51 12), (0, u "ERR_VALUE_SET_VERSION_NOT_FOUND"), (0, .fieldref 7 53), (0, .nameAndType 54 12), (0, u "ERR_VALUE_SET_INVALID"), (0, .fieldref 7 56), (0, .nameAndType 57 12), (0, u "ERR_VALUE_SET_TOO_COSTLY"), (0, .fieldref 7 59), (0, .nameAndType 60 12), (0, u "ERR_CODE_SYSTEM_VERSION_REFUSED"), (0, .fieldref 7 62), (0, .nameAndType 63 12), (0, u "ERR_SUPPLEMENT_NOT_FOUND"), (0, .fieldref 7 65), (0, .nameAndType 66 12), (0, u "ERR_DOCUMENT_TYPE_UNKNOWN"), (0, .fieldref 7 68), (0, .nameAndType 69 12), (0, u "ERR_REQUIRED_ELEMENT_MISSING"), (0, .fieldref 7 71), (0, .nameAndType 72 12), (0, u "ERR_REQUIRED_ELEMENT_NOT_TRANSFORMED"), (0, .fieldref 7 74), (0, .nameAndType 75 12), (0, u "ERR_DOCUMENT_NOT_TRANSFORMED"), (0, .fieldref 7 77), (0, .nameAndType 78 12), (0, u "WARN_CODE_SYSTEM_NAME_MISMATCH"), (0, .fieldref 7 80), (0, .nameAndType 81 12), (0, u "WARN_VALUE_SET_MISMATCH"), (0, .fieldref 7 83), (0, .nameAndType 84 12), (0, u "WARN_NO_PREFERRED_DESIGNATION"), (0, .fieldref 7 86), (0, .nameAndType 87 12), (0, u "WARN_CONCEPT_NOT_CURRENT"), (0, .fieldref 7 89), (0, .nameAndType 90 12), (0, u "WARN_ELEMENT_TYPE"), (0, .fieldref 7 92), (0, .nameAndType 93 12), (0, u "WARN_NOT_TRANSCODED"), (0, .fieldref 7 95), (0, .nameAndType 96 12), (0, u "WARN_NOT_TRANSLATED"), (0, .fieldref 7 98), (0, .nameAndType 99 12), (0, u "WARN_NOT_IN_LIST"), (0, .integer 2147483647), (0, .methodref 7 102), (0, .nameAndType 103 104), (0, u "isOfValueSet"), (0, u "()Z"), (0, .class_ 106), (0, u "com/example/pivotlex/pivotlex/terminology/IssueCodeIsOfValueSetPinLaw"), (2, u "law"), (0, u "(I)Z")] 5

def k1m0 : Method := { name := "<init>", desc := "()V", sig := { parameters := [], returnType := none }, accessFlags := 1, code := none }
def k1c1 : Code := { maxStack := 4, maxLocals := 5, code := code, exceptionTable := #[], attributes := #[] }
def k1m1 : Method := { name := "law", desc := "(I)Z", sig := { parameters := [.int], returnType := some .boolean }, accessFlags := 9, code := some k1c1 }
/-- com/example/pivotlex/pivotlex/terminology/IssueCodeIsOfValueSetPinLaw -/
def k1 : Class := { plain "com/example/pivotlex/pivotlex/terminology/IssueCodeIsOfValueSetPinLaw" (some 0) with
  accessFlags := 49
  interfaces := #[]
  cf := some (fileOf pool1 105 #[] #[{ accessFlags := 1, nameIndex := 5, descriptorIndex := 6, attributes := #[] }, { accessFlags := 9, nameIndex := 109, descriptorIndex := 110, attributes := #[] }] 49 2 #[] #[])
  fields := #[]
  methods := #[k1m0, k1m1]
  instanceTypes := #[]
  staticTypes := #[]
  resolved := Array.replicate 116 none
  statics := none }

def pool2 : Array CpInfo := pool [(1, .class_ 2), (0, u "java/lang/constant/Constable"), (0, .class_ 4), (0, u "java/lang/Object")] 6

/-- java/lang/constant/Constable -/
def k2 : Class := { plain "java/lang/constant/Constable" (some 0) with
  accessFlags := 1537
  interfaces := #[]
  cf := some (fileOf pool2 1 #[] #[] 1537 3 #[] #[])
  fields := #[]
  methods := #[]
  instanceTypes := #[]
  staticTypes := #[]
  resolved := Array.replicate 11 none
  statics := none }

def pool3 : Array CpInfo := pool [(1, .class_ 2), (0, u "java/lang/Comparable"), (0, .class_ 4), (0, u "java/lang/Object")] 7

/-- java/lang/Comparable -/
def k3 : Class := { plain "java/lang/Comparable" (some 0) with
  accessFlags := 1537
  interfaces := #[]
  cf := some (fileOf pool3 1 #[] #[] 1537 3 #[] #[])
  fields := #[]
  methods := #[]
  instanceTypes := #[]
  staticTypes := #[]
  resolved := Array.replicate 12 none
  statics := none }

def pool4 : Array CpInfo := pool [(1, .class_ 2), (0, u "java/io/Serializable"), (0, .class_ 4), (0, u "java/lang/Object")] 2

/-- java/io/Serializable -/
def k4 : Class := { plain "java/io/Serializable" (some 0) with
  accessFlags := 1537
  interfaces := #[]
  cf := some (fileOf pool4 1 #[] #[] 1537 3 #[] #[])
  fields := #[]
  methods := #[]
  instanceTypes := #[]
  staticTypes := #[]
  resolved := Array.replicate 7 none
  statics := none }

def pool5 : Array CpInfo := pool [(2, .class_ 4), (1, u "java/lang/Enum"), (0, u "name"), (0, u "Ljava/lang/String;"), (2, u "ordinal"), (0, u "I"), (1, .class_ 14), (1, u "java/lang/Object"), (4, u "hash"), (86, .class_ 108), (1, u "java/lang/Enum$EnumDesc"), (2, .class_ 112), (0, u "java/lang/constant/Constable"), (0, .class_ 114), (0, u "java/lang/Comparable"), (0, .class_ 116), (0, u "java/io/Serializable")] 87

/-- java/lang/Enum -/
def k5 : Class := { plain "java/lang/Enum" (some 0) with
  accessFlags := 1057
  interfaces := #[2, 3, 4]
  cf := some (fileOf pool5 2 #[.nestMembers #[106]] #[] 1057 12 #[111, 113, 115] #[{ accessFlags := 18, nameIndex := 5, descriptorIndex := 6, attributes := #[] }, { accessFlags := 18, nameIndex := 9, descriptorIndex := 10, attributes := #[] }, { accessFlags := 2, nameIndex := 19, descriptorIndex := 10, attributes := #[] }])
  fields := #[{ name := "name", type := (.object "java/lang/String"), accessFlags := 18, slot := 0, constantValue := 0 }, { name := "ordinal", type := .int, accessFlags := 18, slot := 1, constantValue := 0 }, { name := "hash", type := .int, accessFlags := 2, slot := 2, constantValue := 0 }]
  methods := #[]
  instanceTypes := #[(.object "java/lang/String"), .int, .int]
  staticTypes := #[]
  resolved := Array.replicate 204 none
  statics := none }

def pool6 : Array CpInfo := pool [(1, .class_ 2), (0, u "com/example/pivotlex/pivotlex/terminology/IssueCode"), (2, u "ERR_CODE_SYSTEM_NOT_FOUND"), (0, u "Lcom/example/pivotlex/pivotlex/terminology/IssueCode;"), (2, u "ERR_CODE_SYSTEM_VERSION_NOT_FOUND"), (2, u "ERR_CONCEPT_NOT_FOUND"), (2, u "ERR_DESIGNATION_NOT_FOUND"), (2, u "ERR_CODE_SYSTEM_NOT_INFERRED"), (2, u "ERR_DISPLAY_INVALID"), (2, u "ERR_NOT_IN_VALUE_SET"), (2, u "ERR_MAPPING_INVALID"), (2, u "ERR_MAPPING_AMBIGUOUS"), (2, u "ERR_TARGET_NOT_FOUND"), (2, u "ERR_CONCEPT_MAP_NOT_FOUND"), (2, u "ERR_CONCEPT_MAP_VERSION_NOT_FOUND"), (0, .fieldref 1 41), (0, .nameAndType 42 6), (0, u "ERR_VALUE_SET_NOT_FOUND"), (0, .fieldref 1 44), (0, .nameAndType 45 6), (0, u "ERR_VALUE_SET_VERSION_NOT_FOUND"), (0, .fieldref 1 47), (0, .nameAndType 48 6), (0, u "ERR_VALUE_SET_INVALID"), (0, .fieldref 1 50), (0, .nameAndType 51 6), (0, u "ERR_VALUE_SET_TOO_COSTLY"), (2, u "ERR_CODE_SYSTEM_VERSION_REFUSED"), (2, u "ERR_SUPPLEMENT_NOT_FOUND"), (2, u "ERR_DOCUMENT_TYPE_UNKNOWN"), (2, u "ERR_REQUIRED_ELEMENT_MISSING"), (2, u "ERR_REQUIRED_ELEMENT_NOT_TRANSFORMED"), (2, u "ERR_DOCUMENT_NOT_TRANSFORMED"), (2, u "WARN_CODE_SYSTEM_NAME_MISMATCH"), (2, u "WARN_VALUE_SET_MISMATCH"), (2, u "WARN_NO_PREFERRED_DESIGNATION"), (2, u "WARN_CONCEPT_NOT_CURRENT"), (2, u "WARN_ELEMENT_TYPE"), (2, u "WARN_NOT_TRANSCODED"), (2, u "WARN_NOT_TRANSLATED"), (2, u "WARN_NOT_IN_LIST"), (2, u "$VALUES"), (0, u "[Lcom/example/pivotlex/pivotlex/terminology/IssueCode;"), (6, .class_ 106), (1, u "java/lang/Enum"), (48, u "isOfValueSet"), (0, u "()Z")] 5

def k6c0 : Code := { maxStack := 2, maxLocals := 1, code := prog_80_method_4_code, exceptionTable := #[], attributes := #[] }
def k6m0 : Method := { name := "isOfValueSet", desc := "()Z", sig := { parameters := [], returnType := some .boolean }, accessFlags := 1, code := some k6c0 }
/-- com/example/pivotlex/pivotlex/terminology/IssueCode -/
def k6 : Class := { plain "com/example/pivotlex/pivotlex/terminology/IssueCode" (some 5) with
  accessFlags := 16433
  interfaces := #[]
  cf := some (fileOf pool6 1 #[] #[{ accessFlags := 1, nameIndex := 155, descriptorIndex := 156, attributes := #[] }] 16433 104 #[] #[{ accessFlags := 16409, nameIndex := 5, descriptorIndex := 6, attributes := #[] }, { accessFlags := 16409, nameIndex := 9, descriptorIndex := 6, attributes := #[] }, { accessFlags := 16409, nameIndex := 12, descriptorIndex := 6, attributes := #[] }, { accessFlags := 16409, nameIndex := 15, descriptorIndex := 6, attributes := #[] }, { accessFlags := 16409, nameIndex := 18, descriptorIndex := 6, attributes := #[] }, { accessFlags := 16409, nameIndex := 21, descriptorIndex := 6, attributes := #[] }, { accessFlags := 16409, nameIndex := 24, descriptorIndex := 6, attributes := #[] }, { accessFlags := 16409, nameIndex := 27, descriptorIndex := 6, attributes := #[] }, { accessFlags := 16409, nameIndex := 30, descriptorIndex := 6, attributes := #[] }, { accessFlags := 16409, nameIndex := 33, descriptorIndex := 6, attributes := #[] }, { accessFlags := 16409, nameIndex := 36, descriptorIndex := 6, attributes := #[] }, { accessFlags := 16409, nameIndex := 39, descriptorIndex := 6, attributes := #[] }, { accessFlags := 16409, nameIndex := 42, descriptorIndex := 6, attributes := #[] }, { accessFlags := 16409, nameIndex := 45, descriptorIndex := 6, attributes := #[] }, { accessFlags := 16409, nameIndex := 48, descriptorIndex := 6, attributes := #[] }, { accessFlags := 16409, nameIndex := 51, descriptorIndex := 6, attributes := #[] }, { accessFlags := 16409, nameIndex := 54, descriptorIndex := 6, attributes := #[] }, { accessFlags := 16409, nameIndex := 57, descriptorIndex := 6, attributes := #[] }, { accessFlags := 16409, nameIndex := 60, descriptorIndex := 6, attributes := #[] }, { accessFlags := 16409, nameIndex := 63, descriptorIndex := 6, attributes := #[] }, { accessFlags := 16409, nameIndex := 66, descriptorIndex := 6, attributes := #[] }, { accessFlags := 16409, nameIndex := 69, descriptorIndex := 6, attributes := #[] }, { accessFlags := 16409, nameIndex := 72, descriptorIndex := 6, attributes := #[] }, { accessFlags := 16409, nameIndex := 75, descriptorIndex := 6, attributes := #[] }, { accessFlags := 16409, nameIndex := 78, descriptorIndex := 6, attributes := #[] }, { accessFlags := 16409, nameIndex := 81, descriptorIndex := 6, attributes := #[] }, { accessFlags := 16409, nameIndex := 84, descriptorIndex := 6, attributes := #[] }, { accessFlags := 16409, nameIndex := 87, descriptorIndex := 6, attributes := #[] }, { accessFlags := 16409, nameIndex := 90, descriptorIndex := 6, attributes := #[] }, { accessFlags := 16409, nameIndex := 93, descriptorIndex := 6, attributes := #[] }, { accessFlags := 4122, nameIndex := 96, descriptorIndex := 97, attributes := #[] }])
  fields := #[{ name := "ERR_CODE_SYSTEM_NOT_FOUND", type := (.object "com/example/pivotlex/pivotlex/terminology/IssueCode"), accessFlags := 16409, slot := 0, constantValue := 0 }, { name := "ERR_CODE_SYSTEM_VERSION_NOT_FOUND", type := (.object "com/example/pivotlex/pivotlex/terminology/IssueCode"), accessFlags := 16409, slot := 1, constantValue := 0 }, { name := "ERR_CONCEPT_NOT_FOUND", type := (.object "com/example/pivotlex/pivotlex/terminology/IssueCode"), accessFlags := 16409, slot := 2, constantValue := 0 }, { name := "ERR_DESIGNATION_NOT_FOUND", type := (.object "com/example/pivotlex/pivotlex/terminology/IssueCode"), accessFlags := 16409, slot := 3, constantValue := 0 }, { name := "ERR_CODE_SYSTEM_NOT_INFERRED", type := (.object "com/example/pivotlex/pivotlex/terminology/IssueCode"), accessFlags := 16409, slot := 4, constantValue := 0 }, { name := "ERR_DISPLAY_INVALID", type := (.object "com/example/pivotlex/pivotlex/terminology/IssueCode"), accessFlags := 16409, slot := 5, constantValue := 0 }, { name := "ERR_NOT_IN_VALUE_SET", type := (.object "com/example/pivotlex/pivotlex/terminology/IssueCode"), accessFlags := 16409, slot := 6, constantValue := 0 }, { name := "ERR_MAPPING_INVALID", type := (.object "com/example/pivotlex/pivotlex/terminology/IssueCode"), accessFlags := 16409, slot := 7, constantValue := 0 }, { name := "ERR_MAPPING_AMBIGUOUS", type := (.object "com/example/pivotlex/pivotlex/terminology/IssueCode"), accessFlags := 16409, slot := 8, constantValue := 0 }, { name := "ERR_TARGET_NOT_FOUND", type := (.object "com/example/pivotlex/pivotlex/terminology/IssueCode"), accessFlags := 16409, slot := 9, constantValue := 0 }, { name := "ERR_CONCEPT_MAP_NOT_FOUND", type := (.object "com/example/pivotlex/pivotlex/terminology/IssueCode"), accessFlags := 16409, slot := 10, constantValue := 0 }, { name := "ERR_CONCEPT_MAP_VERSION_NOT_FOUND", type := (.object "com/example/pivotlex/pivotlex/terminology/IssueCode"), accessFlags := 16409, slot := 11, constantValue := 0 }, { name := "ERR_VALUE_SET_NOT_FOUND", type := (.object "com/example/pivotlex/pivotlex/terminology/IssueCode"), accessFlags := 16409, slot := 12, constantValue := 0 }, { name := "ERR_VALUE_SET_VERSION_NOT_FOUND", type := (.object "com/example/pivotlex/pivotlex/terminology/IssueCode"), accessFlags := 16409, slot := 13, constantValue := 0 }, { name := "ERR_VALUE_SET_INVALID", type := (.object "com/example/pivotlex/pivotlex/terminology/IssueCode"), accessFlags := 16409, slot := 14, constantValue := 0 }, { name := "ERR_VALUE_SET_TOO_COSTLY", type := (.object "com/example/pivotlex/pivotlex/terminology/IssueCode"), accessFlags := 16409, slot := 15, constantValue := 0 }, { name := "ERR_CODE_SYSTEM_VERSION_REFUSED", type := (.object "com/example/pivotlex/pivotlex/terminology/IssueCode"), accessFlags := 16409, slot := 16, constantValue := 0 }, { name := "ERR_SUPPLEMENT_NOT_FOUND", type := (.object "com/example/pivotlex/pivotlex/terminology/IssueCode"), accessFlags := 16409, slot := 17, constantValue := 0 }, { name := "ERR_DOCUMENT_TYPE_UNKNOWN", type := (.object "com/example/pivotlex/pivotlex/terminology/IssueCode"), accessFlags := 16409, slot := 18, constantValue := 0 }, { name := "ERR_REQUIRED_ELEMENT_MISSING", type := (.object "com/example/pivotlex/pivotlex/terminology/IssueCode"), accessFlags := 16409, slot := 19, constantValue := 0 }, { name := "ERR_REQUIRED_ELEMENT_NOT_TRANSFORMED", type := (.object "com/example/pivotlex/pivotlex/terminology/IssueCode"), accessFlags := 16409, slot := 20, constantValue := 0 }, { name := "ERR_DOCUMENT_NOT_TRANSFORMED", type := (.object "com/example/pivotlex/pivotlex/terminology/IssueCode"), accessFlags := 16409, slot := 21, constantValue := 0 }, { name := "WARN_CODE_SYSTEM_NAME_MISMATCH", type := (.object "com/example/pivotlex/pivotlex/terminology/IssueCode"), accessFlags := 16409, slot := 22, constantValue := 0 }, { name := "WARN_VALUE_SET_MISMATCH", type := (.object "com/example/pivotlex/pivotlex/terminology/IssueCode"), accessFlags := 16409, slot := 23, constantValue := 0 }, { name := "WARN_NO_PREFERRED_DESIGNATION", type := (.object "com/example/pivotlex/pivotlex/terminology/IssueCode"), accessFlags := 16409, slot := 24, constantValue := 0 }, { name := "WARN_CONCEPT_NOT_CURRENT", type := (.object "com/example/pivotlex/pivotlex/terminology/IssueCode"), accessFlags := 16409, slot := 25, constantValue := 0 }, { name := "WARN_ELEMENT_TYPE", type := (.object "com/example/pivotlex/pivotlex/terminology/IssueCode"), accessFlags := 16409, slot := 26, constantValue := 0 }, { name := "WARN_NOT_TRANSCODED", type := (.object "com/example/pivotlex/pivotlex/terminology/IssueCode"), accessFlags := 16409, slot := 27, constantValue := 0 }, { name := "WARN_NOT_TRANSLATED", type := (.object "com/example/pivotlex/pivotlex/terminology/IssueCode"), accessFlags := 16409, slot := 28, constantValue := 0 }, { name := "WARN_NOT_IN_LIST", type := (.object "com/example/pivotlex/pivotlex/terminology/IssueCode"), accessFlags := 16409, slot := 29, constantValue := 0 }, { name := "$VALUES", type := (.array (.object "com/example/pivotlex/pivotlex/terminology/IssueCode")), accessFlags := 4122, slot := 30, constantValue := 0 }]
  methods := #[k6m0]
  instanceTypes := #[(.object "java/lang/String"), .int, .int]
  staticTypes := #[(.object "com/example/pivotlex/pivotlex/terminology/IssueCode"), (.object "com/example/pivotlex/pivotlex/terminology/IssueCode"), (.object "com/example/pivotlex/pivotlex/terminology/IssueCode"), (.object "com/example/pivotlex/pivotlex/terminology/IssueCode"), (.object "com/example/pivotlex/pivotlex/terminology/IssueCode"), (.object "com/example/pivotlex/pivotlex/terminology/IssueCode"), (.object "com/example/pivotlex/pivotlex/terminology/IssueCode"), (.object "com/example/pivotlex/pivotlex/terminology/IssueCode"), (.object "com/example/pivotlex/pivotlex/terminology/IssueCode"), (.object "com/example/pivotlex/pivotlex/terminology/IssueCode"), (.object "com/example/pivotlex/pivotlex/terminology/IssueCode"), (.object "com/example/pivotlex/pivotlex/terminology/IssueCode"), (.object "com/example/pivotlex/pivotlex/terminology/IssueCode"), (.object "com/example/pivotlex/pivotlex/terminology/IssueCode"), (.object "com/example/pivotlex/pivotlex/terminology/IssueCode"), (.object "com/example/pivotlex/pivotlex/terminology/IssueCode"), (.object "com/example/pivotlex/pivotlex/terminology/IssueCode"), (.object "com/example/pivotlex/pivotlex/terminology/IssueCode"), (.object "com/example/pivotlex/pivotlex/terminology/IssueCode"), (.object "com/example/pivotlex/pivotlex/terminology/IssueCode"), (.object "com/example/pivotlex/pivotlex/terminology/IssueCode"), (.object "com/example/pivotlex/pivotlex/terminology/IssueCode"), (.object "com/example/pivotlex/pivotlex/terminology/IssueCode"), (.object "com/example/pivotlex/pivotlex/terminology/IssueCode"), (.object "com/example/pivotlex/pivotlex/terminology/IssueCode"), (.object "com/example/pivotlex/pivotlex/terminology/IssueCode"), (.object "com/example/pivotlex/pivotlex/terminology/IssueCode"), (.object "com/example/pivotlex/pivotlex/terminology/IssueCode"), (.object "com/example/pivotlex/pivotlex/terminology/IssueCode"), (.object "com/example/pivotlex/pivotlex/terminology/IssueCode"), (.array (.object "com/example/pivotlex/pivotlex/terminology/IssueCode"))]
  resolved := Array.replicate 162 none
  statics := some 0 }

def pool7 : Array CpInfo := pool [(1, u "java/lang/Cloneable"), (0, .class_ 1), (0, u "java/lang/Object"), (0, .class_ 3)] 3

/-- java/lang/Cloneable -/
def k7 : Class := { plain "java/lang/Cloneable" (some 0) with
  accessFlags := 1537
  interfaces := #[]
  cf := some (fileOf pool7 2 #[] #[] 1537 4 #[] #[])
  fields := #[]
  methods := #[]
  instanceTypes := #[]
  staticTypes := #[]
  resolved := Array.replicate 8 none
  statics := none }

/-- the primitive byte -/
def k8 : Class := { plain "byte" none with kind := .primitive 'B', accessFlags := 0x411 }
/-- [B -/
def k9 : Class := { plain "[B" (some 0) with kind := .array 8 .byte, interfaces := #[7, 4], accessFlags := 1041 }

/-- the primitive int -/
def k10 : Class := { plain "int" none with kind := .primitive 'I', accessFlags := 0x411 }
/-- [I -/
def k11 : Class := { plain "[I" (some 0) with kind := .array 10 .int, interfaces := #[7, 4], accessFlags := 1041 }

/-- [Lcom/example/pivotlex/pivotlex/terminology/IssueCode; -/
def k12 : Class := { plain "[Lcom/example/pivotlex/pivotlex/terminology/IssueCode;" (some 0) with kind := .array 6 (.object "com/example/pivotlex/pivotlex/terminology/IssueCode"), interfaces := #[7, 4], accessFlags := 1041 }

def heap : Heap := #[{ cls := 6, slots := #[.ref 1, .ref 2, .ref 3, .ref 4, .ref 5, .ref 6, .ref 7, .ref 8, .ref 9, .ref 10, .ref 11, .ref 12, .ref 13, .ref 14, .ref 15, .ref 16, .ref 17, .ref 18, .ref 19, .ref 20, .ref 21, .ref 22, .ref 23, .ref 24, .ref 25, .ref 26, .ref 27, .ref 28, .ref 29, .ref 30, .null], vm := .statics 6 },
  { cls := 6, slots := #[.null, .int 0, .int 0], vm := .none },
  { cls := 6, slots := #[.null, .int 1, .int 0], vm := .none },
  { cls := 6, slots := #[.null, .int 2, .int 0], vm := .none },
  { cls := 6, slots := #[.null, .int 3, .int 0], vm := .none },
  { cls := 6, slots := #[.null, .int 4, .int 0], vm := .none },
  { cls := 6, slots := #[.null, .int 5, .int 0], vm := .none },
  { cls := 6, slots := #[.null, .int 6, .int 0], vm := .none },
  { cls := 6, slots := #[.null, .int 7, .int 0], vm := .none },
  { cls := 6, slots := #[.null, .int 8, .int 0], vm := .none },
  { cls := 6, slots := #[.null, .int 9, .int 0], vm := .none },
  { cls := 6, slots := #[.null, .int 10, .int 0], vm := .none },
  { cls := 6, slots := #[.null, .int 11, .int 0], vm := .none },
  { cls := 6, slots := #[.null, .int 12, .int 0], vm := .none },
  { cls := 6, slots := #[.null, .int 13, .int 0], vm := .none },
  { cls := 6, slots := #[.null, .int 14, .int 0], vm := .none },
  { cls := 6, slots := #[.null, .int 15, .int 0], vm := .none },
  { cls := 6, slots := #[.null, .int 16, .int 0], vm := .none },
  { cls := 6, slots := #[.null, .int 17, .int 0], vm := .none },
  { cls := 6, slots := #[.null, .int 18, .int 0], vm := .none },
  { cls := 6, slots := #[.null, .int 19, .int 0], vm := .none },
  { cls := 6, slots := #[.null, .int 20, .int 0], vm := .none },
  { cls := 6, slots := #[.null, .int 21, .int 0], vm := .none },
  { cls := 6, slots := #[.null, .int 22, .int 0], vm := .none },
  { cls := 6, slots := #[.null, .int 23, .int 0], vm := .none },
  { cls := 6, slots := #[.null, .int 24, .int 0], vm := .none },
  { cls := 6, slots := #[.null, .int 25, .int 0], vm := .none },
  { cls := 6, slots := #[.null, .int 26, .int 0], vm := .none },
  { cls := 6, slots := #[.null, .int 27, .int 0], vm := .none },
  { cls := 6, slots := #[.null, .int 28, .int 0], vm := .none },
  { cls := 6, slots := #[.null, .int 29, .int 0], vm := .none }]
def classes : Array Class := #[k0, k1, k2, k3, k4, k5, k6, k7, k8, k9, k10, k11, k12]
def interned : List (Array UInt16 × Addr) := []
def slotsUsed : Nat := 121
def theMethod : MethodId := ⟨1, 1⟩
def args0 : Array Value := #[.int 5]
def aboutOver (below : List Frame) : State where
  vm := { classes := classes, interned := interned.toArray }
  heap := heap
  slotsUsed := slotsUsed
  threads := #[{ frames := .invoking theMethod args0 :: below }]
def below0 : List Frame := [.native { method := ⟨0, 0⟩, args := #[] }]
def about1 : State := aboutOver below0
def p0 : Program := .bare "" "" ""
def e0 : Env := launch0.env 0 0 0
theorem w_frames : about1.frames = Frame.invoking theMethod args0 :: below0 := rfl
set_option maxRecDepth 65536 in
theorem w_args : argsFit about1.vm theMethod args0 = true := by decide +kernel
set_option maxRecDepth 65536 in
theorem w_heap : heapFits about1 = true := by decide +kernel
set_option maxRecDepth 65536 in
theorem w_runnable : about1.curStatus? = some .runnable := by decide +kernel
set_option maxRecDepth 65536 in
theorem w_alone : about1.alone = true := by decide +kernel
set_option maxRecDepth 65536 in
theorem w_named : about1.methodNamed? x = some theMethod := by decide +kernel
set_option maxRecDepth 65536 in
theorem w_hears : about1.hears theMethod below0 = true := by decide +kernel
set_option maxRecDepth 65536 in
theorem w_ripe : about1.ripe theMethod args0 below0 = true := by decide +kernel
theorem w_running : about1.status = .running := rfl
set_option maxRecDepth 65536 in
theorem w_room : about1.hasRoom e0.platform room_1 = true :=
  launch0.hasRoom_least _ room_1 (by decide +kernel) (by decide +kernel) (by decide +kernel) (by decide +kernel) (by decide +kernel) (by decide +kernel)
theorem allAtoms_all (ts : List Jvm.Cond) (a : Array Jvm.Value) (st : Jvm.State) : (allAtoms ts).before a st = ts.all (fun c => c.before a st) := by
  induction ts with
  | nil => rfl
  | cons c t ih =>
    show (Jvm.Cond.and c (allAtoms t)).before a st = _
    rw [Jvm.Cond.before_and, ih, List.all_cons]
def words1 : List Jvm.Cond := Jvm.Cond.code x code maxLocals ret :: tables_1
/-- a 'code' word, met by the world's own term for the bytes: nothing is compared byte by byte -/
theorem code_word {y : MethodName} {bytes : ByteArray} {mx : Nat} {rt : Option FieldType} {a : Array Value} {s : State} {m : MethodId} {meth : Method} {c : Code} (h1 : s.methodNamed? y = some m) (h2 : s.vm.method? m = some meth) (h3 : meth.code = some c) (h4 : c.code = bytes)
    (h5 : (c.maxLocals == mx && c.exceptionTable.isEmpty && decide (c.maxStack ≤ mostOperands) && decide (meth.sig.returnType = rt) && !meth.locks && decide (parseMethodDescriptor y.desc = some meth.sig)) = true) : (Jvm.Cond.code y bytes mx rt).before a s = true := by
  simp only [Bool.and_eq_true, beq_iff_eq, Bool.not_eq_true', decide_eq_true_eq] at h5
  obtain ⟨⟨⟨⟨⟨g1, g2⟩, g3⟩, g4⟩, g5⟩, g6⟩ := h5
  simp [Cond.before, Cond.holds, Cond.value, h1, h2, h3, h4, g1, g2, g3, g4, g5, g6]
def isCode : Jvm.Cond → Bool
  | .code _ _ _ _ => true
  | _ => false
theorem all_split {L : List Jvm.Cond} {P : Jvm.Cond → Bool} (h1 : L.all (fun c => isCode c || P c) = true) (h2 : ∀ c ∈ L.filter isCode, P c = true) : L.all P = true := by
  refine List.all_eq_true.mpr fun c hc => ?_
  have h := List.all_eq_true.mp h1 c hc
  rcases Bool.eq_false_or_eq_true (isCode c) with hi | hi
  · exact h2 c (List.mem_filter.mpr ⟨hc, hi⟩)
  · simpa [hi] using h
set_option maxRecDepth 65536 in
theorem w_c0 : (Jvm.Cond.code x code maxLocals ret).before args0 about1 = true := code_word (m := ⟨1, 1⟩) (meth := k1m1) (c := k1c1) (by decide +kernel) rfl rfl rfl (by decide +kernel)
set_option maxRecDepth 65536 in
theorem w_c1 : (Jvm.Cond.code ({ cls := "com/example/pivotlex/pivotlex/terminology/IssueCode", name := "isOfValueSet", desc := "()Z" } : Jvm.MethodName) prog_80_method_4_code (1 : Nat) (Option.some Jvm.ClassFile.FieldType.boolean)).before args0 about1 = true := code_word (m := ⟨6, 0⟩) (meth := k6m0) (c := k6c0) (by decide +kernel) rfl rfl rfl (by decide +kernel)
def codes1 : List Jvm.Cond := [Jvm.Cond.code x code maxLocals ret, Jvm.Cond.code ({ cls := "com/example/pivotlex/pivotlex/terminology/IssueCode", name := "isOfValueSet", desc := "()Z" } : Jvm.MethodName) prog_80_method_4_code (1 : Nat) (Option.some Jvm.ClassFile.FieldType.boolean)]
set_option maxRecDepth 65536 in
theorem codes_eq : words1.filter isCode = codes1 := rfl
theorem w_codes : ∀ c ∈ words1.filter isCode, c.before args0 about1 = true := by
  rw [codes_eq]
  intro c hc
  simp only [codes1, List.mem_cons, List.not_mem_nil, or_false] at hc
  rcases hc with rfl | rfl
  · exact w_c0
  · exact w_c1
set_option maxRecDepth 65536 in
theorem w_t1 : (words1.take 24).all (fun c => isCode c || c.before args0 about1) = true := by decide +kernel
set_option maxRecDepth 65536 in
theorem w_t2 : ((words1.drop 24).take 24).all (fun c => isCode c || c.before args0 about1) = true := by decide +kernel
set_option maxRecDepth 65536 in
theorem w_t3 : (((words1.drop 24).drop 24).take 24).all (fun c => isCode c || c.before args0 about1) = true := by decide +kernel
set_option maxRecDepth 65536 in
theorem w_t4 : (((words1.drop 24).drop 24).drop 24).all (fun c => isCode c || c.before args0 about1) = true := by decide +kernel
theorem w_tables : (allAtoms (Jvm.Cond.code x code maxLocals ret :: tables_1)).before args0 about1 = true := by
  rw [allAtoms_all]
  show words1.all (fun c => c.before args0 about1) = true
  refine all_split ?_ w_codes
  rw [← List.take_append_drop 24 words1, List.all_append, w_t1, ← List.take_append_drop 24 (words1.drop 24), List.all_append, w_t2, ← List.take_append_drop 24 ((words1.drop 24).drop 24), List.all_append, w_t3, w_t4]
  rfl
set_option maxRecDepth 65536 in
theorem w_case : (Jvm.Cond.and given_1 narrow_1).before args0 about1 = true := by decide +kernel
theorem w_applies : (headSpec (Jvm.Cond.code x code maxLocals ret :: tables_1) room_1).applies x e0.platform about1 = true :=
  (Spec.applies_iff w_frames).mpr ⟨w_running, w_runnable, w_alone, w_named, w_hears, w_ripe, w_room, w_tables⟩
theorem atStart : AtStart classFile x code maxLocals ret World_1 tables_1 room_1 Calls_1 rest_1 Pre_1 launch0 p0 e0 about1 theMethod args0 below0 :=
  ⟨lists_1, trivial, launch0.admits_env _ _ _, launch0.least_env, fairChoices_fair.cas, fairChoices_fair.clock, w_frames, w_args, w_heap, w_applies, trivial, trivial, w_case⟩
end start1
theorem witness_1 : WitnessClaimed_1 := ⟨start1.p0, start1.e0, start1.about1, start1.theMethod, start1.args0, start1.below0, start1.atStart⟩
end Jvm.Pilot.@@N@@
