import JvmDerived
import JvmDerived.Pilot.@@N@@Statement
import JvmDerived.Pilot.@@N@@Code
set_option linter.unusedVariables false
set_option linter.unusedSimpArgs false
@@BLOCK:NumsL.lean.txt@@
namespace Jvm.RoadKit
open Sem ClassFile Op Lib Jvm.Stand Jvm.Free Jvm.LawKit
section New
variable {p : Program} {l : Launch} {e : Env} {R : Room} {s : State} {m : MethodId} {args : Array Value} {below : List Frame} {meth : Method} {c : Code} {T : State} {locs : List Loc} {cells slots : Nat}
theorem retI (X : Stand p l e R s m args below meth c T locs cells slots) (hx : p.tables.exec = Jvm.exec) {pc : Nat} {Ls : Array Slot} {z : Int32} {rest : List Value} (hret : meth.sig.returnType = some .int) (hd : decode c.code pc = .ok (.ireturn, 1)) {fs : List Frame}
    (hl : ∀ (f : JFrame) (acts : List Action), f.method = m → f.locked = none → f.entered = [] → (doReturn e (T.setTop f) acts (some (.int z))).1 = T.setFrames fs) : Steps p.tables e below (T.setTop (mkF m pc Ls (.int z :: rest))) (T.setFrames fs) := by
  have hm' : T.vm.method? m = some meth := X.method'
  have hn : narrow .int (.int z) = .int z := rfl
  show Steps p.tables e below (T.setTop { method := m, pc := pc, locals := Ls, stack := _ :: rest, locked := none }) _
  jvm_step X.here [X.here.top, hx, hd, hm', hret, hn]
  first | (intro acts; rw [hl _ acts rfl rfl rfl]) | rw [hl _ _ rfl rfl rfl]
  exact Steps.refl _
end New
end Jvm.RoadKit
namespace Jvm.Pilot.@@N@@
open Jvm Jvm.ClassFile Sem Op Lib Jvm.Free Jvm.Stand Jvm.LawKit Jvm.RoadKit Bundle Jvm.Pilot.@@N@@.Jvm.D
section Own
variable {args : Array Value} {first s : State} {o : Option Outcome} {idx : List Nat} {t u : Term} {n : Int32} {b : Addr}
theorem own_eqI (h : (Jvm.Cond.eq t (.int n)).value args first o s idx = some true) : t.eval args first o idx s = some (.int n) := by
  simp only [Cond.value, Term.eval] at h
  cases ht : t.eval args first o idx s with
  | none => simp [ht] at h
  | some x => cases x <;> simp [ht] at h ⊢; exact h
theorem own_eqR (h : (Jvm.Cond.eq t u).value args first o s idx = some true) (hu : u.eval args first o idx s = some (.ref b)) : t.eval args first o idx s = some (.ref b) := by
  simp only [Cond.value, hu] at h
  cases ht : t.eval args first o idx s with
  | none => simp [ht] at h
  | some x => cases x <;> simp [ht] at h ⊢; exact h
theorem own_len {Z : State} {args : Array Value} {t : Term} {z : Int32} {a : Addr} {ty : FieldType} (ev : t.eval args Z none [] Z = some (.ref a)) (hA : (Jvm.Cond.arrayOf t ty).value args Z none Z [] = some true) (hl : (Jvm.Cond.eq (.length t) (.int z)).value args Z none Z [] = some true) :
    ∃ c : Cell, Arr Z Z.heap a c ty ∧ c.slots.size.toInt32 = z ∧ c.slots.size < 2 ^ 31 := by
  obtain ⟨c, A⟩ := Arr.start ev hA
  have e := own_eqI hl
  have ha : Z.arrayAt? a = some c := A.fin (Vm.Alike.refl _)
  by_cases q : c.slots.size < 2 ^ 31
  · rw [len_f ev ha q] at e
    exact ⟨c, A, by injection e with e; injection e, q⟩
  · simp [Term.eval, ev, ha, q] at e
end Own
def QS (V : Value) (h0 : Heap) (n0 : Nat) (v : Option Value) (h : Heap) (L : List Loc) : Prop := v = some V ∧ Fr n0 L ∧ h = h0
def QE (V : Value) (h0 : Heap) (n0 : Nat) (v : Option Value) (h : Heap) (L : List Loc) : Prop := v = some V ∧ Fr n0 L ∧ Ext h0 h
def QL (n0 : Nat) (v : Option Value) (h : Heap) (L : List Loc) : Prop := v = some (.int (1 : Int32)) ∧ Fr n0 L
def Facts (Z : State) (ad : Nat → Addr) : Prop :=
  Exa Z Z.heap (ad 0) "com/example/vestwright/vestwright/model/VestingBasis" ∧
  Exa Z Z.heap (ad 1) "com/example/vestwright/vestwright/model/VestingBasis$Role" ∧
  Exa Z Z.heap (ad 2) "com/example/vestwright/vestwright/model/VestingBasis$Role" ∧
  Exa Z Z.heap (ad 3) "com/example/vestwright/vestwright/model/VestingBasis" ∧
  Exa Z Z.heap (ad 4) "com/example/vestwright/vestwright/model/VestingBasis" ∧
  Exa Z Z.heap (ad 5) "com/example/vestwright/vestwright/model/VestingBasis" ∧
  Exa Z Z.heap (ad 6) "com/example/vestwright/vestwright/model/VestingBasis" ∧
  Exa Z Z.heap (ad 7) "com/example/vestwright/vestwright/model/VestingBasis" ∧
  Exa Z Z.heap (ad 8) "com/example/vestwright/vestwright/model/VestingBasis" ∧
  Exa Z Z.heap (ad 9) "com/example/vestwright/vestwright/model/VestingBasis$Role" ∧
  Exa Z Z.heap (ad 10) "com/example/vestwright/vestwright/model/VestingBasis" ∧
  Exa Z Z.heap (ad 11) "com/example/vestwright/vestwright/model/VestingBasis" ∧
  Sta Z Z.heap "com/example/vestwright/vestwright/model/VestingBasis" "SERVICE" "Lcom/example/vestwright/vestwright/model/VestingBasis;" (.ref (ad 0)) ∧
  Sta Z Z.heap "com/example/vestwright/vestwright/model/VestingBasis$Role" "SCHEDULE" "Lcom/example/vestwright/vestwright/model/VestingBasis$Role;" (.ref (ad 1)) ∧
  Sta Z Z.heap "com/example/vestwright/vestwright/model/VestingBasis$Role" "EVENT" "Lcom/example/vestwright/vestwright/model/VestingBasis$Role;" (.ref (ad 2)) ∧
  Sta Z Z.heap "com/example/vestwright/vestwright/model/VestingBasis" "DEATH" "Lcom/example/vestwright/vestwright/model/VestingBasis;" (.ref (ad 3)) ∧
  Sta Z Z.heap "com/example/vestwright/vestwright/model/VestingBasis" "AGE_65" "Lcom/example/vestwright/vestwright/model/VestingBasis;" (.ref (ad 4)) ∧
  Sta Z Z.heap "com/example/vestwright/vestwright/model/VestingBasis" "TWO_YEARS_HALF" "Lcom/example/vestwright/vestwright/model/VestingBasis;" (.ref (ad 5)) ∧
  Sta Z Z.heap "com/example/vestwright/vestwright/model/VestingBasis" "PARTICIPATION" "Lcom/example/vestwright/vestwright/model/VestingBasis;" (.ref (ad 6)) ∧
  Sta Z Z.heap "com/example/vestwright/vestwright/model/VestingBasis" "DISABILITY" "Lcom/example/vestwright/vestwright/model/VestingBasis;" (.ref (ad 7)) ∧
  Sta Z Z.heap "com/example/vestwright/vestwright/model/VestingBasis" "NO_PROVISION" "Lcom/example/vestwright/vestwright/model/VestingBasis;" (.ref (ad 8)) ∧
  Sta Z Z.heap "com/example/vestwright/vestwright/model/VestingBasis$Role" "NONE" "Lcom/example/vestwright/vestwright/model/VestingBasis$Role;" (.ref (ad 9)) ∧
  Sta Z Z.heap "com/example/vestwright/vestwright/model/VestingBasis" "FACILITY_CLOSURE" "Lcom/example/vestwright/vestwright/model/VestingBasis;" (.ref (ad 10)) ∧
  Sta Z Z.heap "com/example/vestwright/vestwright/model/VestingBasis" "SALE_OF_LOCATION" "Lcom/example/vestwright/vestwright/model/VestingBasis;" (.ref (ad 11)) ∧
  Fld Z Z.heap (ad 0) "com/example/vestwright/vestwright/model/VestingBasis" "role" "Lcom/example/vestwright/vestwright/model/VestingBasis$Role;" (.ref (ad 1)) ∧
  Fld Z Z.heap (ad 1) "java/lang/Enum" "ordinal" "I" (.int (0 : Int32)) ∧
  Fld Z Z.heap (ad 2) "java/lang/Enum" "ordinal" "I" (.int (1 : Int32)) ∧
  Fld Z Z.heap (ad 3) "com/example/vestwright/vestwright/model/VestingBasis" "role" "Lcom/example/vestwright/vestwright/model/VestingBasis$Role;" (.ref (ad 2)) ∧
  Fld Z Z.heap (ad 4) "com/example/vestwright/vestwright/model/VestingBasis" "role" "Lcom/example/vestwright/vestwright/model/VestingBasis$Role;" (.ref (ad 2)) ∧
  Fld Z Z.heap (ad 5) "com/example/vestwright/vestwright/model/VestingBasis" "role" "Lcom/example/vestwright/vestwright/model/VestingBasis$Role;" (.ref (ad 1)) ∧
  Fld Z Z.heap (ad 6) "com/example/vestwright/vestwright/model/VestingBasis" "role" "Lcom/example/vestwright/vestwright/model/VestingBasis$Role;" (.ref (ad 2)) ∧
  Fld Z Z.heap (ad 7) "com/example/vestwright/vestwright/model/VestingBasis" "role" "Lcom/example/vestwright/vestwright/model/VestingBasis$Role;" (.ref (ad 2)) ∧
  Fld Z Z.heap (ad 8) "com/example/vestwright/vestwright/model/VestingBasis" "role" "Lcom/example/vestwright/vestwright/model/VestingBasis$Role;" (.ref (ad 9)) ∧
  Fld Z Z.heap (ad 9) "java/lang/Enum" "ordinal" "I" (.int (2 : Int32)) ∧
  Fld Z Z.heap (ad 10) "com/example/vestwright/vestwright/model/VestingBasis" "role" "Lcom/example/vestwright/vestwright/model/VestingBasis$Role;" (.ref (ad 2)) ∧
  Fld Z Z.heap (ad 11) "com/example/vestwright/vestwright/model/VestingBasis" "role" "Lcom/example/vestwright/vestwright/model/VestingBasis$Role;" (.ref (ad 2)) ∧ True
theorem ft_0 {Z : State} {ad : Nat → Addr} (h : Facts Z ad) : Exa Z Z.heap (ad 0) "com/example/vestwright/vestwright/model/VestingBasis" := h.1
theorem ft_1 {Z : State} {ad : Nat → Addr} (h : Facts Z ad) : Exa Z Z.heap (ad 1) "com/example/vestwright/vestwright/model/VestingBasis$Role" := h.2.1
theorem ft_2 {Z : State} {ad : Nat → Addr} (h : Facts Z ad) : Exa Z Z.heap (ad 2) "com/example/vestwright/vestwright/model/VestingBasis$Role" := h.2.2.1
theorem ft_3 {Z : State} {ad : Nat → Addr} (h : Facts Z ad) : Exa Z Z.heap (ad 3) "com/example/vestwright/vestwright/model/VestingBasis" := h.2.2.2.1
theorem ft_4 {Z : State} {ad : Nat → Addr} (h : Facts Z ad) : Exa Z Z.heap (ad 4) "com/example/vestwright/vestwright/model/VestingBasis" := h.2.2.2.2.1
theorem ft_5 {Z : State} {ad : Nat → Addr} (h : Facts Z ad) : Exa Z Z.heap (ad 5) "com/example/vestwright/vestwright/model/VestingBasis" := h.2.2.2.2.2.1
theorem ft_6 {Z : State} {ad : Nat → Addr} (h : Facts Z ad) : Exa Z Z.heap (ad 6) "com/example/vestwright/vestwright/model/VestingBasis" := h.2.2.2.2.2.2.1
theorem ft_7 {Z : State} {ad : Nat → Addr} (h : Facts Z ad) : Exa Z Z.heap (ad 7) "com/example/vestwright/vestwright/model/VestingBasis" := h.2.2.2.2.2.2.2.1
theorem ft_8 {Z : State} {ad : Nat → Addr} (h : Facts Z ad) : Exa Z Z.heap (ad 8) "com/example/vestwright/vestwright/model/VestingBasis" := h.2.2.2.2.2.2.2.2.1
theorem ft_9 {Z : State} {ad : Nat → Addr} (h : Facts Z ad) : Exa Z Z.heap (ad 9) "com/example/vestwright/vestwright/model/VestingBasis$Role" := h.2.2.2.2.2.2.2.2.2.1
theorem ft_10 {Z : State} {ad : Nat → Addr} (h : Facts Z ad) : Exa Z Z.heap (ad 10) "com/example/vestwright/vestwright/model/VestingBasis" := h.2.2.2.2.2.2.2.2.2.2.1
theorem ft_11 {Z : State} {ad : Nat → Addr} (h : Facts Z ad) : Exa Z Z.heap (ad 11) "com/example/vestwright/vestwright/model/VestingBasis" := h.2.2.2.2.2.2.2.2.2.2.2.1
theorem ft_12 {Z : State} {ad : Nat → Addr} (h : Facts Z ad) : Sta Z Z.heap "com/example/vestwright/vestwright/model/VestingBasis" "SERVICE" "Lcom/example/vestwright/vestwright/model/VestingBasis;" (.ref (ad 0)) := h.2.2.2.2.2.2.2.2.2.2.2.2.1
theorem ft_13 {Z : State} {ad : Nat → Addr} (h : Facts Z ad) : Sta Z Z.heap "com/example/vestwright/vestwright/model/VestingBasis$Role" "SCHEDULE" "Lcom/example/vestwright/vestwright/model/VestingBasis$Role;" (.ref (ad 1)) := h.2.2.2.2.2.2.2.2.2.2.2.2.2.1
theorem ft_14 {Z : State} {ad : Nat → Addr} (h : Facts Z ad) : Sta Z Z.heap "com/example/vestwright/vestwright/model/VestingBasis$Role" "EVENT" "Lcom/example/vestwright/vestwright/model/VestingBasis$Role;" (.ref (ad 2)) := h.2.2.2.2.2.2.2.2.2.2.2.2.2.2.1
theorem ft_15 {Z : State} {ad : Nat → Addr} (h : Facts Z ad) : Sta Z Z.heap "com/example/vestwright/vestwright/model/VestingBasis" "DEATH" "Lcom/example/vestwright/vestwright/model/VestingBasis;" (.ref (ad 3)) := h.2.2.2.2.2.2.2.2.2.2.2.2.2.2.2.1
theorem ft_16 {Z : State} {ad : Nat → Addr} (h : Facts Z ad) : Sta Z Z.heap "com/example/vestwright/vestwright/model/VestingBasis" "AGE_65" "Lcom/example/vestwright/vestwright/model/VestingBasis;" (.ref (ad 4)) := h.2.2.2.2.2.2.2.2.2.2.2.2.2.2.2.2.1
theorem ft_17 {Z : State} {ad : Nat → Addr} (h : Facts Z ad) : Sta Z Z.heap "com/example/vestwright/vestwright/model/VestingBasis" "TWO_YEARS_HALF" "Lcom/example/vestwright/vestwright/model/VestingBasis;" (.ref (ad 5)) := h.2.2.2.2.2.2.2.2.2.2.2.2.2.2.2.2.2.1
theorem ft_18 {Z : State} {ad : Nat → Addr} (h : Facts Z ad) : Sta Z Z.heap "com/example/vestwright/vestwright/model/VestingBasis" "PARTICIPATION" "Lcom/example/vestwright/vestwright/model/VestingBasis;" (.ref (ad 6)) := h.2.2.2.2.2.2.2.2.2.2.2.2.2.2.2.2.2.2.1
theorem ft_19 {Z : State} {ad : Nat → Addr} (h : Facts Z ad) : Sta Z Z.heap "com/example/vestwright/vestwright/model/VestingBasis" "DISABILITY" "Lcom/example/vestwright/vestwright/model/VestingBasis;" (.ref (ad 7)) := h.2.2.2.2.2.2.2.2.2.2.2.2.2.2.2.2.2.2.2.1
theorem ft_20 {Z : State} {ad : Nat → Addr} (h : Facts Z ad) : Sta Z Z.heap "com/example/vestwright/vestwright/model/VestingBasis" "NO_PROVISION" "Lcom/example/vestwright/vestwright/model/VestingBasis;" (.ref (ad 8)) := h.2.2.2.2.2.2.2.2.2.2.2.2.2.2.2.2.2.2.2.2.1
theorem ft_21 {Z : State} {ad : Nat → Addr} (h : Facts Z ad) : Sta Z Z.heap "com/example/vestwright/vestwright/model/VestingBasis$Role" "NONE" "Lcom/example/vestwright/vestwright/model/VestingBasis$Role;" (.ref (ad 9)) := h.2.2.2.2.2.2.2.2.2.2.2.2.2.2.2.2.2.2.2.2.2.1
theorem ft_22 {Z : State} {ad : Nat → Addr} (h : Facts Z ad) : Sta Z Z.heap "com/example/vestwright/vestwright/model/VestingBasis" "FACILITY_CLOSURE" "Lcom/example/vestwright/vestwright/model/VestingBasis;" (.ref (ad 10)) := h.2.2.2.2.2.2.2.2.2.2.2.2.2.2.2.2.2.2.2.2.2.2.1
theorem ft_23 {Z : State} {ad : Nat → Addr} (h : Facts Z ad) : Sta Z Z.heap "com/example/vestwright/vestwright/model/VestingBasis" "SALE_OF_LOCATION" "Lcom/example/vestwright/vestwright/model/VestingBasis;" (.ref (ad 11)) := h.2.2.2.2.2.2.2.2.2.2.2.2.2.2.2.2.2.2.2.2.2.2.2.1
theorem ft_24 {Z : State} {ad : Nat → Addr} (h : Facts Z ad) : Fld Z Z.heap (ad 0) "com/example/vestwright/vestwright/model/VestingBasis" "role" "Lcom/example/vestwright/vestwright/model/VestingBasis$Role;" (.ref (ad 1)) := h.2.2.2.2.2.2.2.2.2.2.2.2.2.2.2.2.2.2.2.2.2.2.2.2.1
theorem ft_25 {Z : State} {ad : Nat → Addr} (h : Facts Z ad) : Fld Z Z.heap (ad 1) "java/lang/Enum" "ordinal" "I" (.int (0 : Int32)) := h.2.2.2.2.2.2.2.2.2.2.2.2.2.2.2.2.2.2.2.2.2.2.2.2.2.1
theorem ft_26 {Z : State} {ad : Nat → Addr} (h : Facts Z ad) : Fld Z Z.heap (ad 2) "java/lang/Enum" "ordinal" "I" (.int (1 : Int32)) := h.2.2.2.2.2.2.2.2.2.2.2.2.2.2.2.2.2.2.2.2.2.2.2.2.2.2.1
theorem ft_27 {Z : State} {ad : Nat → Addr} (h : Facts Z ad) : Fld Z Z.heap (ad 3) "com/example/vestwright/vestwright/model/VestingBasis" "role" "Lcom/example/vestwright/vestwright/model/VestingBasis$Role;" (.ref (ad 2)) := h.2.2.2.2.2.2.2.2.2.2.2.2.2.2.2.2.2.2.2.2.2.2.2.2.2.2.2.1
theorem ft_28 {Z : State} {ad : Nat → Addr} (h : Facts Z ad) : Fld Z Z.heap (ad 4) "com/example/vestwright/vestwright/model/VestingBasis" "role" "Lcom/example/vestwright/vestwright/model/VestingBasis$Role;" (.ref (ad 2)) := h.2.2.2.2.2.2.2.2.2.2.2.2.2.2.2.2.2.2.2.2.2.2.2.2.2.2.2.2.1
theorem ft_29 {Z : State} {ad : Nat → Addr} (h : Facts Z ad) : Fld Z Z.heap (ad 5) "com/example/vestwright/vestwright/model/VestingBasis" "role" "Lcom/example/vestwright/vestwright/model/VestingBasis$Role;" (.ref (ad 1)) := h.2.2.2.2.2.2.2.2.2.2.2.2.2.2.2.2.2.2.2.2.2.2.2.2.2.2.2.2.2.1
theorem ft_30 {Z : State} {ad : Nat → Addr} (h : Facts Z ad) : Fld Z Z.heap (ad 6) "com/example/vestwright/vestwright/model/VestingBasis" "role" "Lcom/example/vestwright/vestwright/model/VestingBasis$Role;" (.ref (ad 2)) := h.2.2.2.2.2.2.2.2.2.2.2.2.2.2.2.2.2.2.2.2.2.2.2.2.2.2.2.2.2.2.1
theorem ft_31 {Z : State} {ad : Nat → Addr} (h : Facts Z ad) : Fld Z Z.heap (ad 7) "com/example/vestwright/vestwright/model/VestingBasis" "role" "Lcom/example/vestwright/vestwright/model/VestingBasis$Role;" (.ref (ad 2)) := h.2.2.2.2.2.2.2.2.2.2.2.2.2.2.2.2.2.2.2.2.2.2.2.2.2.2.2.2.2.2.2.1
theorem ft_32 {Z : State} {ad : Nat → Addr} (h : Facts Z ad) : Fld Z Z.heap (ad 8) "com/example/vestwright/vestwright/model/VestingBasis" "role" "Lcom/example/vestwright/vestwright/model/VestingBasis$Role;" (.ref (ad 9)) := h.2.2.2.2.2.2.2.2.2.2.2.2.2.2.2.2.2.2.2.2.2.2.2.2.2.2.2.2.2.2.2.2.1
theorem ft_33 {Z : State} {ad : Nat → Addr} (h : Facts Z ad) : Fld Z Z.heap (ad 9) "java/lang/Enum" "ordinal" "I" (.int (2 : Int32)) := h.2.2.2.2.2.2.2.2.2.2.2.2.2.2.2.2.2.2.2.2.2.2.2.2.2.2.2.2.2.2.2.2.2.1
theorem ft_34 {Z : State} {ad : Nat → Addr} (h : Facts Z ad) : Fld Z Z.heap (ad 10) "com/example/vestwright/vestwright/model/VestingBasis" "role" "Lcom/example/vestwright/vestwright/model/VestingBasis$Role;" (.ref (ad 2)) := h.2.2.2.2.2.2.2.2.2.2.2.2.2.2.2.2.2.2.2.2.2.2.2.2.2.2.2.2.2.2.2.2.2.2.1
theorem ft_35 {Z : State} {ad : Nat → Addr} (h : Facts Z ad) : Fld Z Z.heap (ad 11) "com/example/vestwright/vestwright/model/VestingBasis" "role" "Lcom/example/vestwright/vestwright/model/VestingBasis$Role;" (.ref (ad 2)) := h.2.2.2.2.2.2.2.2.2.2.2.2.2.2.2.2.2.2.2.2.2.2.2.2.2.2.2.2.2.2.2.2.2.2.2.1
set_option maxRecDepth 65536 in
set_option maxHeartbeats 40000000 in
theorem own_facts {s : State} {args : Array Value} (hw : ∀ d ∈ tables_1, d.before args s = true) (hfit : Fit s) (hn : narrow_1.value args s none s [] = some true) : ∃ ad, Facts s ad := by
  obtain ⟨q0, r0⟩ := and_e hn
  obtain ⟨q1, r1⟩ := and_e r0
  obtain ⟨q2, r2⟩ := and_e r1
  obtain ⟨q3, r3⟩ := and_e r2
  obtain ⟨q4, r4⟩ := and_e r3
  obtain ⟨q5, r5⟩ := and_e r4
  obtain ⟨q6, r6⟩ := and_e r5
  obtain ⟨q7, r7⟩ := and_e r6
  obtain ⟨q8, r8⟩ := and_e r7
  obtain ⟨q9, r9⟩ := and_e r8
  obtain ⟨q10, r10⟩ := and_e r9
  obtain ⟨q11, r11⟩ := and_e r10
  obtain ⟨q12, r12⟩ := and_e r11
  obtain ⟨q13, r13⟩ := and_e r12
  obtain ⟨q14, r14⟩ := and_e r13
  obtain ⟨q15, r15⟩ := and_e r14
  obtain ⟨q16, r16⟩ := and_e r15
  obtain ⟨q17, r17⟩ := and_e r16
  obtain ⟨q18, r18⟩ := and_e r17
  obtain ⟨q19, r19⟩ := and_e r18
  obtain ⟨q20, r20⟩ := and_e r19
  obtain ⟨q21, r21⟩ := and_e r20
  obtain ⟨q22, r22⟩ := and_e r21
  have q23 := r22
  obtain ⟨a0, ev0⟩ := exa_v q0
  obtain ⟨a1, ev1⟩ := exa_v q1
  obtain ⟨a2, ev2⟩ := exa_v q3
  obtain ⟨a3, ev3⟩ := exa_v q6
  obtain ⟨a4, ev4⟩ := exa_v q8
  obtain ⟨a5, ev5⟩ := exa_v q10
  obtain ⟨a6, ev6⟩ := exa_v q12
  obtain ⟨a7, ev7⟩ := exa_v q14
  obtain ⟨a8, ev8⟩ := exa_v q16
  obtain ⟨a9, ev9⟩ := exa_v q17
  obtain ⟨a10, ev10⟩ := exa_v q20
  obtain ⟨a11, ev11⟩ := exa_v q22
  refine ⟨fun | 0 => a0 | 1 => a1 | 2 => a2 | 3 => a3 | 4 => a4 | 5 => a5 | 6 => a6 | 7 => a7 | 8 => a8 | 9 => a9 | 10 => a10 | 11 => a11 | _ => 0, ?_⟩
  refine ⟨?_, ?_, ?_, ?_, ?_, ?_, ?_, ?_, ?_, ?_, ?_, ?_, ?_, ?_, ?_, ?_, ?_, ?_, ?_, ?_, ?_, ?_, ?_, ?_, ?_, ?_, ?_, ?_, ?_, ?_, ?_, ?_, ?_, ?_, ?_, ?_, trivial⟩
  · exact Exa.start ev0 q0
  · exact Exa.start ev1 q1
  · exact Exa.start ev2 q3
  · exact Exa.start ev3 q6
  · exact Exa.start ev4 q8
  · exact Exa.start ev5 q10
  · exact Exa.start ev6 q12
  · exact Exa.start ev7 q14
  · exact Exa.start ev8 q16
  · exact Exa.start ev9 q17
  · exact Exa.start ev10 q20
  · exact Exa.start ev11 q22
  · exact Sta.start ev0 (Or.inr ⟨(hw _ (List.mem_of_getElem? (i := 6) rfl)), (hw _ (List.mem_of_getElem? (i := 7) rfl))⟩)
  · exact Sta.start ev1 (Or.inr ⟨(hw _ (List.mem_of_getElem? (i := 15) rfl)), (hw _ (List.mem_of_getElem? (i := 16) rfl))⟩)
  · exact Sta.start ev2 (Or.inr ⟨(hw _ (List.mem_of_getElem? (i := 15) rfl)), (hw _ (List.mem_of_getElem? (i := 24) rfl))⟩)
  · exact Sta.start ev3 (Or.inr ⟨(hw _ (List.mem_of_getElem? (i := 6) rfl)), (hw _ (List.mem_of_getElem? (i := 26) rfl))⟩)
  · exact Sta.start ev4 (Or.inr ⟨(hw _ (List.mem_of_getElem? (i := 6) rfl)), (hw _ (List.mem_of_getElem? (i := 28) rfl))⟩)
  · exact Sta.start ev5 (Or.inr ⟨(hw _ (List.mem_of_getElem? (i := 6) rfl)), (hw _ (List.mem_of_getElem? (i := 30) rfl))⟩)
  · exact Sta.start ev6 (Or.inr ⟨(hw _ (List.mem_of_getElem? (i := 6) rfl)), (hw _ (List.mem_of_getElem? (i := 32) rfl))⟩)
  · exact Sta.start ev7 (Or.inr ⟨(hw _ (List.mem_of_getElem? (i := 6) rfl)), (hw _ (List.mem_of_getElem? (i := 34) rfl))⟩)
  · exact Sta.start ev8 (Or.inr ⟨(hw _ (List.mem_of_getElem? (i := 6) rfl)), (hw _ (List.mem_of_getElem? (i := 36) rfl))⟩)
  · exact Sta.start ev9 (Or.inr ⟨(hw _ (List.mem_of_getElem? (i := 15) rfl)), (hw _ (List.mem_of_getElem? (i := 37) rfl))⟩)
  · exact Sta.start ev10 (Or.inr ⟨(hw _ (List.mem_of_getElem? (i := 6) rfl)), (hw _ (List.mem_of_getElem? (i := 39) rfl))⟩)
  · exact Sta.start ev11 (Or.inr ⟨(hw _ (List.mem_of_getElem? (i := 6) rfl)), (hw _ (List.mem_of_getElem? (i := 41) rfl))⟩)
  · exact Fld.start ((fld_at ev0).symm.trans (own_eqR q2 ev1))
  · exact Fld.start ((fld_at ev1).symm.trans (own_eqI q4))
  · exact Fld.start ((fld_at ev2).symm.trans (own_eqI q5))
  · exact Fld.start ((fld_at ev3).symm.trans (own_eqR q7 ev2))
  · exact Fld.start ((fld_at ev4).symm.trans (own_eqR q9 ev2))
  · exact Fld.start ((fld_at ev5).symm.trans (own_eqR q11 ev1))
  · exact Fld.start ((fld_at ev6).symm.trans (own_eqR q13 ev2))
  · exact Fld.start ((fld_at ev7).symm.trans (own_eqR q15 ev2))
  · exact Fld.start ((fld_at ev8).symm.trans (own_eqR q18 ev9))
  · exact Fld.start ((fld_at ev9).symm.trans (own_eqI q19))
  · exact Fld.start ((fld_at ev10).symm.trans (own_eqR q21 ev2))
  · exact Fld.start ((fld_at ev11).symm.trans (own_eqR q23 ev2))
theorem own_mod (x : Int32) : (x &&& (2147483647 : Int32)) % (9 : Int32) = (0 : Int32) ∨ (x &&& (2147483647 : Int32)) % (9 : Int32) = (1 : Int32) ∨ (x &&& (2147483647 : Int32)) % (9 : Int32) = (2 : Int32) ∨ (x &&& (2147483647 : Int32)) % (9 : Int32) = (3 : Int32) ∨ (x &&& (2147483647 : Int32)) % (9 : Int32) = (4 : Int32) ∨ (x &&& (2147483647 : Int32)) % (9 : Int32) = (5 : Int32) ∨ (x &&& (2147483647 : Int32)) % (9 : Int32) = (6 : Int32) ∨ (x &&& (2147483647 : Int32)) % (9 : Int32) = (7 : Int32) ∨ (x &&& (2147483647 : Int32)) % (9 : Int32) = (8 : Int32) := by
  have h0 : (x &&& (2147483647 : Int32)).toInt = x.toInt % 2 ^ 31 := Jvm.Kit.i32_mask x (2147483647 : Int32) (k := 31) (by decide) (by decide)
  have h1 : ((x &&& (2147483647 : Int32)) % (9 : Int32)).toInt = (x &&& (2147483647 : Int32)).toInt % (9 : Int32).toInt := Jvm.Kit.i32_rem_nonneg (by rw [h0]; omega)
  rw [h0, show (9 : Int32).toInt = 9 from rfl] at h1
  simp only [← Int32.toInt_inj, h1, Int32.reduceToInt]
  omega
theorem d1_0 : decode method_2_code 0 = .ok (.iload_n 0, 1) := by decide +kernel
theorem d1_1 : decode method_2_code 1 = .ok (.ifCond .ne 7, 3) := by decide +kernel
theorem d1_4 : decode method_2_code 4 = .ok (.getstatic 7, 3) := by decide +kernel
theorem d1_7 : decode method_2_code 7 = .ok (.areturn, 1) := by decide +kernel
theorem pn_1 : plainName "com/example/vestwright/vestwright/model/VestingBasisIsScheduleBasisPinLaw" = true := by first | (simp [plainName, overriddenIn]; done) | decide +kernel
theorem ef_1_I (m : MethodId) (x0 : Int32) : entryFrame m #[(.int x0)] 1 = mkF m 0 #[.val (.int x0)] [] := by first | (simp [entryFrame, mkF, argsToLocals, Value.category]; done) | rfl
set_option maxRecDepth 65536 in
set_option maxHeartbeats 40000000 in
theorem rm1_0 (l : Launch) (Z : State) (a0 : Array Value) (hw : ∀ d ∈ tables_1, d.before a0 Z = true) (ws : List Jvm.Cond) (ad : Nat → Addr) (NF : Facts Z ad) (h0 : Heap) (n0 : Nat) (Ol : Old Z n0 h0) :
    MetFree l (⟨"com/example/vestwright/vestwright/model/VestingBasisIsScheduleBasisPinLaw", "pick", "(I)Lcom/example/vestwright/vestwright/model/VestingBasis;"⟩ : MethodName) (head1 (Jvm.Cond.code (⟨"com/example/vestwright/vestwright/model/VestingBasisIsScheduleBasisPinLaw", "pick", "(I)Lcom/example/vestwright/vestwright/model/VestingBasis;"⟩ : MethodName) method_2_code 1 (some (.object "com/example/vestwright/vestwright/model/VestingBasis")) :: ws) ({ frames := 0, cells := 0, slots := 0, locals := 0 } : Room)) (fun a U => a = #[(.int (0 : Int32))] ∧ Z.Warmed39 U.vm ∧ U.heap = h0) (fun _ _ _ _ _ => True) (fun _ U o U' => ∃ v L, o = .returned v ∧ QS (.ref (ad 0)) h0 n0 v U'.heap L ∧ FrameEnd U o U' L ({ frames := 0, cells := 0, slots := 0, locals := 0 } : Room).cells ({ frames := 0, cells := 0, slots := 0, locals := 0 } : Room).slots) := by
  refine MetFree.of_bodySF (plainFor_of_name pn_1) hisR ?_
  intro p e s m args below meth c s₁ Bd hml0 hP hK
  obtain ⟨rfl, hZ, hh⟩ := hP
  have hx := Bd.exec
  have hby := Bd.bytes
  have hml : c.maxLocals = 1 := hml0
  have hown : s.vm.findClass "com/example/vestwright/vestwright/model/VestingBasisIsScheduleBasisPinLaw" = some m.cls := findClass_of_methodNamed Bd.named
  have X0 : Stand p l e ({ frames := 0, cells := 0, slots := 0, locals := 0 } : Room) s m #[(.int (0 : Int32))] below meth c s₁ [] 0 0 := Stand.of_body Bd
  have e0 : s₁.heap = h0 := by rw [← hh, Bd.state]; rfl
  have N0 := Fr.nil n0
  have pre0 : ∀ t, Steps p.tables e below (s₁.setTop (mkF m 0 #[.val (.int (0 : Int32))] [])) t → Steps p.tables e below (s₁.setTop (entryFrame m #[(.int (0 : Int32))] 1)) t := fun t k => castTop (ef_1_I m (0 : Int32)) k
  obtain ⟨T1, X1, e1, st1⟩ := getS2 X0 hx hZ hown (host := "") (Or.inl (hw _ (List.mem_of_getElem? (i := 5) rfl))) Via.refl e0 ((ft_12 NF).ext Ol.2) (g := (mkF m 4 #[.val (.int (0 : Int32))] [])) rfl (hb hby d1_4)
  obtain ⟨fs, hr, hrun, hended, hW, hsame⟩ := X1.leave (v := some (.ref (ad 0))) (fun h => by rw [Bd.returns] at h; cases h)
  refine ⟨_, _, pre0 _ ?_, hrun, hended, _, _, rfl, ?_, ⟨_, rfl⟩, hW, hsame.mono (by decide) (by decide)⟩
  · show Steps p.tables e below (s₁.setTop (mkF m 0 #[.val (.int (0 : Int32))] [])) _
    refine XS.iloadN X0.here hx rfl (hb hby d1_0) rfl ?_
    show Steps p.tables e below (s₁.setTop (mkF m 1 #[.val (.int (0 : Int32))] [(.int (0 : Int32))])) _
    refine XS.ifNo X0.here hx rfl (hb hby d1_1) rfl ((if0 _ _).trans (teq (by decide)).2) ?_
    show Steps p.tables e below (s₁.setTop (mkF m 4 #[.val (.int (0 : Int32))] [])) _
    refine st1 _ ?_
    show Steps p.tables e below (T1.setTop (mkF m 7 #[.val (.int (0 : Int32))] [(.ref (ad 0))])) _
    exact retOut X1 hx Bd.returns (by rfl) (Or.inr (Or.inr (Or.inr (Or.inr ⟨rfl, rfl, rfl⟩)))) (hb hby d1_7) hr
  · exact ⟨rfl, N0, e1⟩
theorem pd_1 : parseMethodDescriptor "(I)Lcom/example/vestwright/vestwright/model/VestingBasis;" = some ⟨[.int], some (.object "com/example/vestwright/vestwright/model/VestingBasis")⟩ := by decide +kernel
theorem d2_0 : decode prog_81_method_4_code 0 = .ok (.aload_n 0, 1) := by decide +kernel
theorem d2_1 : decode prog_81_method_4_code 1 = .ok (.getfield 50, 3) := by decide +kernel
theorem d2_4 : decode prog_81_method_4_code 4 = .ok (.getstatic 58, 3) := by decide +kernel
theorem d2_7 : decode prog_81_method_4_code 7 = .ok (.if_acmp .ne 7, 3) := by decide +kernel
theorem d2_10 : decode prog_81_method_4_code 10 = .ok (.iconst 1, 1) := by decide +kernel
theorem d2_11 : decode prog_81_method_4_code 11 = .ok (.goto 4, 3) := by decide +kernel
theorem d2_15 : decode prog_81_method_4_code 15 = .ok (.ireturn, 1) := by decide +kernel
theorem pn_2 : plainName "com/example/vestwright/vestwright/model/VestingBasis" = true := by first | (simp [plainName, overriddenIn]; done) | decide +kernel
theorem ef_2_R (m : MethodId) (x0 : Addr) : entryFrame m #[(.ref x0)] 1 = mkF m 0 #[.val (.ref x0)] [] := by first | (simp [entryFrame, mkF, argsToLocals, Value.category]; done) | rfl
set_option maxRecDepth 65536 in
set_option maxHeartbeats 40000000 in
theorem rm2_ad0 (l : Launch) (Z : State) (a0 : Array Value) (hw : ∀ d ∈ tables_1, d.before a0 Z = true) (ws : List Jvm.Cond) (ad : Nat → Addr) (NF : Facts Z ad) (h0 : Heap) (n0 : Nat) (Ol : Old Z n0 h0) :
    MetFree l (⟨"com/example/vestwright/vestwright/model/VestingBasis", "isScheduleBasis", "()Z"⟩ : MethodName) (head1 (Jvm.Cond.code (⟨"com/example/vestwright/vestwright/model/VestingBasis", "isScheduleBasis", "()Z"⟩ : MethodName) prog_81_method_4_code 1 (some .boolean) :: ws) ({ frames := 0, cells := 0, slots := 0, locals := 0 } : Room)) (fun a U => a = #[(.ref (ad 0))] ∧ Z.Warmed39 U.vm ∧ U.heap = h0) (fun _ _ _ _ _ => True) (fun _ U o U' => ∃ v L, o = .returned v ∧ QS (.int (1 : Int32)) h0 n0 v U'.heap L ∧ FrameEnd U o U' L ({ frames := 0, cells := 0, slots := 0, locals := 0 } : Room).cells ({ frames := 0, cells := 0, slots := 0, locals := 0 } : Room).slots) := by
  refine MetFree.of_bodySF (plainFor_of_name pn_2) hisR ?_
  intro p e s m args below meth c s₁ Bd hml0 hP hK
  obtain ⟨rfl, hZ, hh⟩ := hP
  have hx := Bd.exec
  have hby := Bd.bytes
  have hml : c.maxLocals = 1 := hml0
  have hown : s.vm.findClass "com/example/vestwright/vestwright/model/VestingBasis" = some m.cls := findClass_of_methodNamed Bd.named
  have X0 : Stand p l e ({ frames := 0, cells := 0, slots := 0, locals := 0 } : Room) s m #[(.ref (ad 0))] below meth c s₁ [] 0 0 := Stand.of_body Bd
  have e0 : s₁.heap = h0 := by rw [← hh, Bd.state]; rfl
  have N0 := Fr.nil n0
  have pre0 : ∀ t, Steps p.tables e below (s₁.setTop (mkF m 0 #[.val (.ref (ad 0))] [])) t → Steps p.tables e below (s₁.setTop (entryFrame m #[(.ref (ad 0))] 1)) t := fun t k => castTop (ef_2_R m (ad 0)) k
  obtain ⟨T1, X1, e1, st1⟩ := getF X0 hx hZ hown (host := "") (Or.inl (hw _ (List.mem_of_getElem? (i := 13) rfl))) Via.refl e0 ((ft_24 NF).ext Ol.2) (g := (mkF m 1 #[.val (.ref (ad 0))] [(.ref (ad 0))])) rfl rfl (hb hby d2_1)
  obtain ⟨T2, X2, e2, st2⟩ := getS2 X1 hx hZ hown (host := "") (Or.inl (hw _ (List.mem_of_getElem? (i := 17) rfl))) Via.refl e1 ((ft_13 NF).ext Ol.2) (g := (mkF m 4 #[.val (.ref (ad 0))] [(.ref (ad 1))])) rfl (hb hby d2_4)
  obtain ⟨fs, hr, hrun, hended, hW, hsame⟩ := X2.leave (v := some (.int (1 : Int32))) (fun h => by rw [Bd.returns] at h; cases h)
  refine ⟨_, _, pre0 _ ?_, hrun, hended, _, _, rfl, ?_, ⟨_, rfl⟩, hW, hsame.mono (by decide) (by decide)⟩
  · show Steps p.tables e below (s₁.setTop (mkF m 0 #[.val (.ref (ad 0))] [])) _
    refine XS.aloadN X0.here hx rfl (hb hby d2_0) rfl rfl ?_
    show Steps p.tables e below (s₁.setTop (mkF m 1 #[.val (.ref (ad 0))] [(.ref (ad 0))])) _
    refine st1 _ ?_
    show Steps p.tables e below (T1.setTop (mkF m 4 #[.val (.ref (ad 0))] [(.ref (ad 1))])) _
    refine st2 _ ?_
    show Steps p.tables e below (T2.setTop (mkF m 7 #[.val (.ref (ad 0))] [(.ref (ad 1)), (.ref (ad 1))])) _
    refine acmp X2 hx rfl (x := (.ref (ad 1))) (y := (.ref (ad 1))) rfl rfl (pc0 := 7) (pc' := 10) (same := true) rfl (hb hby d2_7) rfl (decide_eq_true rfl) (by decide) (by decide) ?_
    show Steps p.tables e below (T2.setTop (mkF m 10 #[.val (.ref (ad 0))] [])) _
    refine XS.iconst X2.here hx rfl (hb hby d2_10) ?_
    show Steps p.tables e below (T2.setTop (mkF m 11 #[.val (.ref (ad 0))] [(.int (1 : Int32))])) _
    refine XS.goto X2.here hx rfl (pc0 := 11) (pc' := 15) rfl (hb hby d2_11) (by decide) (by decide) ?_
    show Steps p.tables e below (T2.setTop (mkF m 15 #[.val (.ref (ad 0))] [(.int (1 : Int32))])) _
    exact retN X2 hx (t := .boolean) Bd.returns (by simp) (hb hby d2_15) hr
  · exact ⟨rfl, N0, e2⟩
theorem pd_2 : parseMethodDescriptor "()Z" = some ⟨[], some .boolean⟩ := by decide +kernel
theorem d3_0 : decode prog_81_method_5_code 0 = .ok (.aload_n 0, 1) := by decide +kernel
theorem d3_1 : decode prog_81_method_5_code 1 = .ok (.getfield 50, 3) := by decide +kernel
theorem d3_4 : decode prog_81_method_5_code 4 = .ok (.getstatic 63, 3) := by decide +kernel
theorem d3_7 : decode prog_81_method_5_code 7 = .ok (.if_acmp .ne 7, 3) := by decide +kernel
theorem d3_14 : decode prog_81_method_5_code 14 = .ok (.iconst 0, 1) := by decide +kernel
theorem d3_15 : decode prog_81_method_5_code 15 = .ok (.ireturn, 1) := by decide +kernel
theorem ef_3_R (m : MethodId) (x0 : Addr) : entryFrame m #[(.ref x0)] 1 = mkF m 0 #[.val (.ref x0)] [] := by first | (simp [entryFrame, mkF, argsToLocals, Value.category]; done) | rfl
set_option maxRecDepth 65536 in
set_option maxHeartbeats 40000000 in
theorem rm3_ad0 (l : Launch) (Z : State) (a0 : Array Value) (hw : ∀ d ∈ tables_1, d.before a0 Z = true) (ws : List Jvm.Cond) (ad : Nat → Addr) (NF : Facts Z ad) (h0 : Heap) (n0 : Nat) (Ol : Old Z n0 h0) :
    MetFree l (⟨"com/example/vestwright/vestwright/model/VestingBasis", "isEvent", "()Z"⟩ : MethodName) (head1 (Jvm.Cond.code (⟨"com/example/vestwright/vestwright/model/VestingBasis", "isEvent", "()Z"⟩ : MethodName) prog_81_method_5_code 1 (some .boolean) :: ws) ({ frames := 0, cells := 0, slots := 0, locals := 0 } : Room)) (fun a U => a = #[(.ref (ad 0))] ∧ Z.Warmed39 U.vm ∧ U.heap = h0) (fun _ _ _ _ _ => True) (fun _ U o U' => ∃ v L, o = .returned v ∧ QS (.int (0 : Int32)) h0 n0 v U'.heap L ∧ FrameEnd U o U' L ({ frames := 0, cells := 0, slots := 0, locals := 0 } : Room).cells ({ frames := 0, cells := 0, slots := 0, locals := 0 } : Room).slots) := by
  refine MetFree.of_bodySF (plainFor_of_name pn_2) hisR ?_
  intro p e s m args below meth c s₁ Bd hml0 hP hK
  obtain ⟨rfl, hZ, hh⟩ := hP
  have hx := Bd.exec
  have hby := Bd.bytes
  have hml : c.maxLocals = 1 := hml0
  have hown : s.vm.findClass "com/example/vestwright/vestwright/model/VestingBasis" = some m.cls := findClass_of_methodNamed Bd.named
  have X0 : Stand p l e ({ frames := 0, cells := 0, slots := 0, locals := 0 } : Room) s m #[(.ref (ad 0))] below meth c s₁ [] 0 0 := Stand.of_body Bd
  have e0 : s₁.heap = h0 := by rw [← hh, Bd.state]; rfl
  have N0 := Fr.nil n0
  have pre0 : ∀ t, Steps p.tables e below (s₁.setTop (mkF m 0 #[.val (.ref (ad 0))] [])) t → Steps p.tables e below (s₁.setTop (entryFrame m #[(.ref (ad 0))] 1)) t := fun t k => castTop (ef_3_R m (ad 0)) k
  obtain ⟨T1, X1, e1, st1⟩ := getF X0 hx hZ hown (host := "") (Or.inl (hw _ (List.mem_of_getElem? (i := 13) rfl))) Via.refl e0 ((ft_24 NF).ext Ol.2) (g := (mkF m 1 #[.val (.ref (ad 0))] [(.ref (ad 0))])) rfl rfl (hb hby d3_1)
  obtain ⟨T2, X2, e2, st2⟩ := getS2 X1 hx hZ hown (host := "") (Or.inl (hw _ (List.mem_of_getElem? (i := 23) rfl))) Via.refl e1 ((ft_14 NF).ext Ol.2) (g := (mkF m 4 #[.val (.ref (ad 0))] [(.ref (ad 1))])) rfl (hb hby d3_4)
  obtain ⟨fs, hr, hrun, hended, hW, hsame⟩ := X2.leave (v := some (.int (0 : Int32))) (fun h => by rw [Bd.returns] at h; cases h)
  refine ⟨_, _, pre0 _ ?_, hrun, hended, _, _, rfl, ?_, ⟨_, rfl⟩, hW, hsame.mono (by decide) (by decide)⟩
  · show Steps p.tables e below (s₁.setTop (mkF m 0 #[.val (.ref (ad 0))] [])) _
    refine XS.aloadN X0.here hx rfl (hb hby d3_0) rfl rfl ?_
    show Steps p.tables e below (s₁.setTop (mkF m 1 #[.val (.ref (ad 0))] [(.ref (ad 0))])) _
    refine st1 _ ?_
    show Steps p.tables e below (T1.setTop (mkF m 4 #[.val (.ref (ad 0))] [(.ref (ad 1))])) _
    refine st2 _ ?_
    show Steps p.tables e below (T2.setTop (mkF m 7 #[.val (.ref (ad 0))] [(.ref (ad 2)), (.ref (ad 1))])) _
    refine acmp X2 hx rfl (x := (.ref (ad 1))) (y := (.ref (ad 2))) rfl rfl (pc0 := 7) (pc' := 14) (same := false) rfl (hb hby d3_7) rfl (decide_eq_false (fun h => (Fld.ne (ft_25 NF) (ft_26 NF) (by decide)) (Value.ref.inj h))) (by decide) (by decide) ?_
    show Steps p.tables e below (T2.setTop (mkF m 14 #[.val (.ref (ad 0))] [])) _
    refine XS.iconst X2.here hx rfl (hb hby d3_14) ?_
    show Steps p.tables e below (T2.setTop (mkF m 15 #[.val (.ref (ad 0))] [(.int (0 : Int32))])) _
    exact retN X2 hx (t := .boolean) Bd.returns (by simp) (hb hby d3_15) hr
  · exact ⟨rfl, N0, e2⟩
theorem ef_0_I (m : MethodId) (x0 : Int32) : entryFrame m #[(.int x0)] maxLocals = mkF m 0 #[.val (.int x0), .unset, .unset, .unset, .unset] [] := by first | (simp [entryFrame, mkF, argsToLocals, Value.category, maxLocals]; done) | rfl
set_option maxRecDepth 65536 in
set_option maxHeartbeats 40000000 in
theorem rm0_0 (l : Launch) (Z : State) (a0 : Array Value) (hw : ∀ d ∈ tables_1, d.before a0 Z = true) (ws : List Jvm.Cond) (ad : Nat → Addr) (NF : Facts Z ad) (h0 : Heap) (n0 : Nat) (Ol : Old Z n0 h0) (p0 : Int32) (hi : (p0 &&& (2147483647 : Int32)) % (9 : Int32) = (0 : Int32)) :
    MetFree l x (head1 (Jvm.Cond.code x code maxLocals ret :: ws) room_1) (fun a U => a = #[(.int p0)] ∧ Z.Warmed39 U.vm ∧ U.heap = h0) (fun _ _ _ _ _ => True) (fun _ U o U' => ∃ v L, o = .returned v ∧ QL n0 v U'.heap L ∧ FrameEnd U o U' L room_1.cells room_1.slots) := by
  refine MetFree.of_bodySF (plainFor_of_name pn_1) hisR ?_
  intro p e s m args below meth c s₁ Bd hml0 hP hK
  obtain ⟨rfl, hZ, hh⟩ := hP
  have hx := Bd.exec
  have hby := Bd.bytes
  have hml : c.maxLocals = 5 := hml0
  have hown : s.vm.findClass "com/example/vestwright/vestwright/model/VestingBasisIsScheduleBasisPinLaw" = some m.cls := findClass_of_methodNamed Bd.named
  have X0 : Stand p l e room_1 s m #[(.int p0)] below meth c s₁ [] 0 0 := Stand.of_body Bd
  have e0 : s₁.heap = h0 := by rw [← hh, Bd.state]; rfl
  have N0 := Fr.nil n0
  have pre0 : ∀ t, Steps p.tables e below (s₁.setTop (mkF m 0 #[.val (.int p0), .unset, .unset, .unset, .unset] [])) t → Steps p.tables e below (s₁.setTop (entryFrame m #[(.int p0)] maxLocals)) t := fun t k => castTop (ef_0_I m (p0)) k
  obtain ⟨_, _, ⟨T1, L1, k1, n1⟩, -, X1, ⟨Lc1, hQ1, l1, y1, z1⟩, st1⟩ := Jvm.LawKit.callS X0 hx (y := (⟨"com/example/vestwright/vestwright/model/VestingBasisIsScheduleBasisPinLaw", "pick", "(I)Lcom/example/vestwright/vestwright/model/VestingBasis;"⟩ : MethodName)) hown (mvT hZ (hw _ (List.mem_of_getElem? (i := 1) rfl))) (mvT hZ (hw _ (List.mem_of_getElem? (i := 2) rfl))) (mvT hZ (hw _ (List.mem_of_getElem? (i := 3) rfl))) (mvT hZ (hw _ (List.mem_of_getElem? (i := 4) rfl))) (by decide) (backOf (W := 0) (rm1_0 l Z a0 hw [] ad NF h0 n0 Ol) hZ (hw _ (List.mem_of_getElem? (i := 4) rfl)) (hw _ (List.mem_of_getElem? (i := 3) rfl)) (by decide) (by decide)) (g := (mkF m 9 #[.val (.int p0), .val (.int (0 : Int32)), .unset, .unset, .unset] [(.int (0 : Int32))])) rfl (by rw [hml]; rfl) (argsL := [(.int (0 : Int32))]) (rest := []) (lenOf pd_1 rfl) rfl (by show 2 * 0 + _ ≤ _; exact Nat.le_of_eq rfl) (hb hby at_9) (fun _ _ => ⟨rfl, e0, (by decide : 0 + 0 ≤ _), (by decide : 0 + 0 ≤ _)⟩)
  dsimp only [Pt.U, Pt.locs, Pt.cells, Pt.slots] at X1 l1 y1 z1 st1 hQ1
  subst l1 y1 z1
  obtain ⟨rfl, Nq1, e1⟩ := hQ1
  have N1 := Fr.app N0 Nq1
  obtain ⟨cq2, kq2, qa2, qb2, qc2⟩ := isOf hZ e1 ((ft_0 NF).ext Ol.2)
  obtain ⟨_, _, ⟨T2, L2, k2, n2⟩, -, X2, ⟨Lc2, hQ2, l2, y2, z2⟩, st2⟩ := X1.virtualBack hx (y := (⟨"com/example/vestwright/vestwright/model/VestingBasis", "isScheduleBasis", "()Z"⟩ : MethodName)) (z := (⟨"com/example/vestwright/vestwright/model/VestingBasis", "isScheduleBasis", "()Z"⟩ : MethodName)) hown (mvT hZ (hw _ (List.mem_of_getElem? (i := 8) rfl))) (mvT hZ (hw _ (List.mem_of_getElem? (i := 9) rfl))) (notFace_of_selects (args := #[]) (mvT hZ (hw _ (List.mem_of_getElem? (i := 11) rfl)))) (mvT hZ (hw _ (List.mem_of_getElem? (i := 11) rfl))) (mvT hZ (hw _ (List.mem_of_getElem? (i := 10) rfl))) (by decide) (backOf (W := 0) (rm2_ad0 l Z a0 hw [] ad NF h0 n0 Ol) hZ (hw _ (List.mem_of_getElem? (i := 12) rfl)) (hw _ (List.mem_of_getElem? (i := 6) rfl)) (by decide) (by decide)) qa2 qc2 (g := (mkF m 29 #[.val (.int p0), .val (.int (0 : Int32)), .val (.ref (ad 0)), .val (.int (1 : Int32)), .unset] [(.ref (ad 0))])) rfl (by rw [hml]; rfl) (Steps.refl _) (argsL := []) (rest := []) (lenOf pd_2 rfl) rfl (by show 2 * 0 + _ ≤ _; exact Nat.le_of_eq rfl) (hb hby at_29) (fun _ _ => ⟨rfl, e1, (by decide : 0 + 0 ≤ _), (by decide : 0 + 0 ≤ _)⟩)
  dsimp only [Pt.U, Pt.locs, Pt.cells, Pt.slots] at X2 l2 y2 z2 st2 hQ2
  subst l2 y2 z2
  obtain ⟨rfl, Nq2, e2⟩ := hQ2
  have N2 := Fr.app N1 Nq2
  obtain ⟨cq3, kq3, qa3, qb3, qc3⟩ := isOf hZ e2 ((ft_0 NF).ext Ol.2)
  obtain ⟨_, _, ⟨T3, L3, k3, n3⟩, -, X3, ⟨Lc3, hQ3, l3, y3, z3⟩, st3⟩ := X2.virtualBack hx (y := (⟨"com/example/vestwright/vestwright/model/VestingBasis", "isEvent", "()Z"⟩ : MethodName)) (z := (⟨"com/example/vestwright/vestwright/model/VestingBasis", "isEvent", "()Z"⟩ : MethodName)) hown (mvT hZ (hw _ (List.mem_of_getElem? (i := 18) rfl))) (mvT hZ (hw _ (List.mem_of_getElem? (i := 19) rfl))) (notFace_of_selects (args := #[]) (mvT hZ (hw _ (List.mem_of_getElem? (i := 21) rfl)))) (mvT hZ (hw _ (List.mem_of_getElem? (i := 21) rfl))) (mvT hZ (hw _ (List.mem_of_getElem? (i := 20) rfl))) (by decide) (backOf (W := 0) (rm3_ad0 l Z a0 hw [] ad NF h0 n0 Ol) hZ (hw _ (List.mem_of_getElem? (i := 22) rfl)) (hw _ (List.mem_of_getElem? (i := 6) rfl)) (by decide) (by decide)) qa3 qc3 (g := (mkF m 48 #[.val (.int p0), .val (.int (0 : Int32)), .val (.ref (ad 0)), .val (.int (1 : Int32)), .val (.int (1 : Int32))] [(.ref (ad 0))])) rfl (by rw [hml]; rfl) (Steps.refl _) (argsL := []) (rest := []) (lenOf pd_2 rfl) rfl (by show 2 * 0 + _ ≤ _; exact Nat.le_of_eq rfl) (hb hby at_48) (fun _ _ => ⟨rfl, e2, (by decide : 0 + 0 ≤ _), (by decide : 0 + 0 ≤ _)⟩)
  dsimp only [Pt.U, Pt.locs, Pt.cells, Pt.slots] at X3 l3 y3 z3 st3 hQ3
  subst l3 y3 z3
  obtain ⟨rfl, Nq3, e3⟩ := hQ3
  have N3 := Fr.app N2 Nq3
  obtain ⟨fs, hr, hrun, hended, hW, hsame⟩ := X3.leave (v := some (.int (1 : Int32))) (fun h => by rw [Bd.returns] at h; cases h)
  refine ⟨_, _, pre0 _ ?_, hrun, hended, _, _, rfl, ?_, ⟨_, rfl⟩, hW, hsame.mono (by decide) (by decide)⟩
  · show Steps p.tables e below (s₁.setTop (mkF m 0 #[.val (.int p0), .unset, .unset, .unset, .unset] [])) _
    refine XS.iloadN X0.here hx rfl (hb hby at_0) rfl ?_
    show Steps p.tables e below (s₁.setTop (mkF m 1 #[.val (.int p0), .unset, .unset, .unset, .unset] [(.int p0)])) _
    refine X0.ldcInt hx hown (mvT hZ (hw _ (List.mem_of_getElem? (i := 0) rfl))) (g := (mkF m 1 #[.val (.int p0), .unset, .unset, .unset, .unset] [(.int p0)])) rfl (hb hby at_1) _ ?_
    show Steps p.tables e below (s₁.setTop (mkF m 3 #[.val (.int p0), .unset, .unset, .unset, .unset] [(.int (2147483647 : Int32)), (.int p0)])) _
    refine XS.iand X0.here hx rfl (hb hby at_3) rfl ?_
    show Steps p.tables e below (s₁.setTop (mkF m 4 #[.val (.int p0), .unset, .unset, .unset, .unset] [(.int (p0 &&& (2147483647 : Int32)))])) _
    refine XS.bipush X0.here hx rfl (hb hby at_4) ?_
    show Steps p.tables e below (s₁.setTop (mkF m 6 #[.val (.int p0), .unset, .unset, .unset, .unset] [(.int (9 : Int32)), (.int (p0 &&& (2147483647 : Int32)))])) _
    refine iremM X0 hx rfl (hb hby at_6) rfl (by decide) ?_
    show Steps p.tables e below (s₁.setTop (mkF m 7 #[.val (.int p0), .unset, .unset, .unset, .unset] [(.int ((p0 &&& (2147483647 : Int32)) % (9 : Int32)))])) _
    rw [hi]
    show Steps p.tables e below (s₁.setTop (mkF m 7 #[.val (.int p0), .unset, .unset, .unset, .unset] [(.int (0 : Int32))])) _
    refine XS.istoreN X0.here hx rfl (hb hby at_7) rfl (l' := #[.val (.int p0), .val (.int (0 : Int32)), .unset, .unset, .unset]) rfl ?_
    show Steps p.tables e below (s₁.setTop (mkF m 8 #[.val (.int p0), .val (.int (0 : Int32)), .unset, .unset, .unset] [])) _
    refine XS.iloadN X0.here hx rfl (hb hby at_8) rfl ?_
    show Steps p.tables e below (s₁.setTop (mkF m 9 #[.val (.int p0), .val (.int (0 : Int32)), .unset, .unset, .unset] [(.int (0 : Int32))])) _
    refine st1 _ ?_
    show Steps p.tables e below (T1.setTop (mkF m 12 #[.val (.int p0), .val (.int (0 : Int32)), .unset, .unset, .unset] [(.ref (ad 0))])) _
    refine XS.astoreN X1.here hx rfl (hb hby at_12) rfl rfl (l' := #[.val (.int p0), .val (.int (0 : Int32)), .val (.ref (ad 0)), .unset, .unset]) rfl ?_
    show Steps p.tables e below (T1.setTop (mkF m 13 #[.val (.int p0), .val (.int (0 : Int32)), .val (.ref (ad 0)), .unset, .unset] [])) _
    refine XS.iloadN X1.here hx rfl (hb hby at_13) rfl ?_
    show Steps p.tables e below (T1.setTop (mkF m 14 #[.val (.int p0), .val (.int (0 : Int32)), .val (.ref (ad 0)), .unset, .unset] [(.int (0 : Int32))])) _
    refine XS.ifYes X1.here hx rfl (pc0 := 14) (pc' := 22) rfl (hb hby at_14) rfl ((if0 _ _).trans (teq (by decide)).1) (by decide) (by decide) ?_
    show Steps p.tables e below (T1.setTop (mkF m 22 #[.val (.int p0), .val (.int (0 : Int32)), .val (.ref (ad 0)), .unset, .unset] [])) _
    refine XS.iconst X1.here hx rfl (hb hby at_22) ?_
    show Steps p.tables e below (T1.setTop (mkF m 23 #[.val (.int p0), .val (.int (0 : Int32)), .val (.ref (ad 0)), .unset, .unset] [(.int (1 : Int32))])) _
    refine XS.goto X1.here hx rfl (pc0 := 23) (pc' := 27) rfl (hb hby at_23) (by decide) (by decide) ?_
    show Steps p.tables e below (T1.setTop (mkF m 27 #[.val (.int p0), .val (.int (0 : Int32)), .val (.ref (ad 0)), .unset, .unset] [(.int (1 : Int32))])) _
    refine XS.istoreN X1.here hx rfl (hb hby at_27) rfl (l' := #[.val (.int p0), .val (.int (0 : Int32)), .val (.ref (ad 0)), .val (.int (1 : Int32)), .unset]) rfl ?_
    show Steps p.tables e below (T1.setTop (mkF m 28 #[.val (.int p0), .val (.int (0 : Int32)), .val (.ref (ad 0)), .val (.int (1 : Int32)), .unset] [])) _
    refine XS.aloadN X1.here hx rfl (hb hby at_28) rfl rfl ?_
    show Steps p.tables e below (T1.setTop (mkF m 29 #[.val (.int p0), .val (.int (0 : Int32)), .val (.ref (ad 0)), .val (.int (1 : Int32)), .unset] [(.ref (ad 0))])) _
    refine st2.trans ?_
    show Steps p.tables e below (T2.setTop (mkF m 32 #[.val (.int p0), .val (.int (0 : Int32)), .val (.ref (ad 0)), .val (.int (1 : Int32)), .unset] [(.int (1 : Int32))])) _
    refine XS.istore X2.here hx rfl (hb hby at_32) rfl (l' := #[.val (.int p0), .val (.int (0 : Int32)), .val (.ref (ad 0)), .val (.int (1 : Int32)), .val (.int (1 : Int32))]) rfl ?_
    show Steps p.tables e below (T2.setTop (mkF m 34 #[.val (.int p0), .val (.int (0 : Int32)), .val (.ref (ad 0)), .val (.int (1 : Int32)), .val (.int (1 : Int32))] [])) _
    refine XS.iload X2.here hx rfl (hb hby at_34) rfl ?_
    show Steps p.tables e below (T2.setTop (mkF m 36 #[.val (.int p0), .val (.int (0 : Int32)), .val (.ref (ad 0)), .val (.int (1 : Int32)), .val (.int (1 : Int32))] [(.int (1 : Int32))])) _
    refine XS.iloadN X2.here hx rfl (hb hby at_36) rfl ?_
    show Steps p.tables e below (T2.setTop (mkF m 37 #[.val (.int p0), .val (.int (0 : Int32)), .val (.ref (ad 0)), .val (.int (1 : Int32)), .val (.int (1 : Int32))] [(.int (1 : Int32)), (.int (1 : Int32))])) _
    refine XS.icmpYes X2.here hx rfl (pc0 := 37) (pc' := 42) rfl (hb hby at_37) rfl (teq (by decide)).1 (by decide) (by decide) ?_
    show Steps p.tables e below (T2.setTop (mkF m 42 #[.val (.int p0), .val (.int (0 : Int32)), .val (.ref (ad 0)), .val (.int (1 : Int32)), .val (.int (1 : Int32))] [])) _
    refine XS.iload X2.here hx rfl (hb hby at_42) rfl ?_
    show Steps p.tables e below (T2.setTop (mkF m 44 #[.val (.int p0), .val (.int (0 : Int32)), .val (.ref (ad 0)), .val (.int (1 : Int32)), .val (.int (1 : Int32))] [(.int (1 : Int32))])) _
    refine XS.ifNo X2.here hx rfl (hb hby at_44) rfl ((if0 _ _).trans (feq (by decide)).1) ?_
    show Steps p.tables e below (T2.setTop (mkF m 47 #[.val (.int p0), .val (.int (0 : Int32)), .val (.ref (ad 0)), .val (.int (1 : Int32)), .val (.int (1 : Int32))] [])) _
    refine XS.aloadN X2.here hx rfl (hb hby at_47) rfl rfl ?_
    show Steps p.tables e below (T2.setTop (mkF m 48 #[.val (.int p0), .val (.int (0 : Int32)), .val (.ref (ad 0)), .val (.int (1 : Int32)), .val (.int (1 : Int32))] [(.ref (ad 0))])) _
    refine st3.trans ?_
    show Steps p.tables e below (T3.setTop (mkF m 51 #[.val (.int p0), .val (.int (0 : Int32)), .val (.ref (ad 0)), .val (.int (1 : Int32)), .val (.int (1 : Int32))] [(.int (0 : Int32))])) _
    refine XS.ifYes X3.here hx rfl (pc0 := 51) (pc' := 56) rfl (hb hby at_51) rfl ((if0 _ _).trans (teq (by decide)).1) (by decide) (by decide) ?_
    show Steps p.tables e below (T3.setTop (mkF m 56 #[.val (.int p0), .val (.int (0 : Int32)), .val (.ref (ad 0)), .val (.int (1 : Int32)), .val (.int (1 : Int32))] [])) _
    refine XS.iconst X3.here hx rfl (hb hby at_56) ?_
    show Steps p.tables e below (T3.setTop (mkF m 57 #[.val (.int p0), .val (.int (0 : Int32)), .val (.ref (ad 0)), .val (.int (1 : Int32)), .val (.int (1 : Int32))] [(.int (1 : Int32))])) _
    exact retN X3 hx (t := .boolean) Bd.returns (by simp) (hb hby at_57) hr
  · exact ⟨rfl, N3⟩
theorem d1_8 : decode method_2_code 8 = .ok (.iload_n 0, 1) := by decide +kernel
theorem d1_9 : decode method_2_code 9 = .ok (.iconst 1, 1) := by decide +kernel
theorem d1_10 : decode method_2_code 10 = .ok (.if_icmp .ne 7, 3) := by decide +kernel
theorem d1_13 : decode method_2_code 13 = .ok (.getstatic 13, 3) := by decide +kernel
theorem d1_16 : decode method_2_code 16 = .ok (.areturn, 1) := by decide +kernel
set_option maxRecDepth 65536 in
set_option maxHeartbeats 40000000 in
theorem rm1_1 (l : Launch) (Z : State) (a0 : Array Value) (hw : ∀ d ∈ tables_1, d.before a0 Z = true) (ws : List Jvm.Cond) (ad : Nat → Addr) (NF : Facts Z ad) (h0 : Heap) (n0 : Nat) (Ol : Old Z n0 h0) :
    MetFree l (⟨"com/example/vestwright/vestwright/model/VestingBasisIsScheduleBasisPinLaw", "pick", "(I)Lcom/example/vestwright/vestwright/model/VestingBasis;"⟩ : MethodName) (head1 (Jvm.Cond.code (⟨"com/example/vestwright/vestwright/model/VestingBasisIsScheduleBasisPinLaw", "pick", "(I)Lcom/example/vestwright/vestwright/model/VestingBasis;"⟩ : MethodName) method_2_code 1 (some (.object "com/example/vestwright/vestwright/model/VestingBasis")) :: ws) ({ frames := 0, cells := 0, slots := 0, locals := 0 } : Room)) (fun a U => a = #[(.int (1 : Int32))] ∧ Z.Warmed39 U.vm ∧ U.heap = h0) (fun _ _ _ _ _ => True) (fun _ U o U' => ∃ v L, o = .returned v ∧ QS (.ref (ad 5)) h0 n0 v U'.heap L ∧ FrameEnd U o U' L ({ frames := 0, cells := 0, slots := 0, locals := 0 } : Room).cells ({ frames := 0, cells := 0, slots := 0, locals := 0 } : Room).slots) := by
  refine MetFree.of_bodySF (plainFor_of_name pn_1) hisR ?_
  intro p e s m args below meth c s₁ Bd hml0 hP hK
  obtain ⟨rfl, hZ, hh⟩ := hP
  have hx := Bd.exec
  have hby := Bd.bytes
  have hml : c.maxLocals = 1 := hml0
  have hown : s.vm.findClass "com/example/vestwright/vestwright/model/VestingBasisIsScheduleBasisPinLaw" = some m.cls := findClass_of_methodNamed Bd.named
  have X0 : Stand p l e ({ frames := 0, cells := 0, slots := 0, locals := 0 } : Room) s m #[(.int (1 : Int32))] below meth c s₁ [] 0 0 := Stand.of_body Bd
  have e0 : s₁.heap = h0 := by rw [← hh, Bd.state]; rfl
  have N0 := Fr.nil n0
  have pre0 : ∀ t, Steps p.tables e below (s₁.setTop (mkF m 0 #[.val (.int (1 : Int32))] [])) t → Steps p.tables e below (s₁.setTop (entryFrame m #[(.int (1 : Int32))] 1)) t := fun t k => castTop (ef_1_I m (1 : Int32)) k
  obtain ⟨T1, X1, e1, st1⟩ := getS2 X0 hx hZ hown (host := "") (Or.inl (hw _ (List.mem_of_getElem? (i := 29) rfl))) Via.refl e0 ((ft_17 NF).ext Ol.2) (g := (mkF m 13 #[.val (.int (1 : Int32))] [])) rfl (hb hby d1_13)
  obtain ⟨fs, hr, hrun, hended, hW, hsame⟩ := X1.leave (v := some (.ref (ad 5))) (fun h => by rw [Bd.returns] at h; cases h)
  refine ⟨_, _, pre0 _ ?_, hrun, hended, _, _, rfl, ?_, ⟨_, rfl⟩, hW, hsame.mono (by decide) (by decide)⟩
  · show Steps p.tables e below (s₁.setTop (mkF m 0 #[.val (.int (1 : Int32))] [])) _
    refine XS.iloadN X0.here hx rfl (hb hby d1_0) rfl ?_
    show Steps p.tables e below (s₁.setTop (mkF m 1 #[.val (.int (1 : Int32))] [(.int (1 : Int32))])) _
    refine XS.ifYes X0.here hx rfl (pc0 := 1) (pc' := 8) rfl (hb hby d1_1) rfl ((if0 _ _).trans (feq (by decide)).2) (by decide) (by decide) ?_
    show Steps p.tables e below (s₁.setTop (mkF m 8 #[.val (.int (1 : Int32))] [])) _
    refine XS.iloadN X0.here hx rfl (hb hby d1_8) rfl ?_
    show Steps p.tables e below (s₁.setTop (mkF m 9 #[.val (.int (1 : Int32))] [(.int (1 : Int32))])) _
    refine XS.iconst X0.here hx rfl (hb hby d1_9) ?_
    show Steps p.tables e below (s₁.setTop (mkF m 10 #[.val (.int (1 : Int32))] [(.int (1 : Int32)), (.int (1 : Int32))])) _
    refine XS.icmpNo X0.here hx rfl (hb hby d1_10) rfl (teq (by decide)).2 ?_
    show Steps p.tables e below (s₁.setTop (mkF m 13 #[.val (.int (1 : Int32))] [])) _
    refine st1 _ ?_
    show Steps p.tables e below (T1.setTop (mkF m 16 #[.val (.int (1 : Int32))] [(.ref (ad 5))])) _
    exact retOut X1 hx Bd.returns (by rfl) (Or.inr (Or.inr (Or.inr (Or.inr ⟨rfl, rfl, rfl⟩)))) (hb hby d1_16) hr
  · exact ⟨rfl, N0, e1⟩
set_option maxRecDepth 65536 in
set_option maxHeartbeats 40000000 in
theorem rm2_ad5 (l : Launch) (Z : State) (a0 : Array Value) (hw : ∀ d ∈ tables_1, d.before a0 Z = true) (ws : List Jvm.Cond) (ad : Nat → Addr) (NF : Facts Z ad) (h0 : Heap) (n0 : Nat) (Ol : Old Z n0 h0) :
    MetFree l (⟨"com/example/vestwright/vestwright/model/VestingBasis", "isScheduleBasis", "()Z"⟩ : MethodName) (head1 (Jvm.Cond.code (⟨"com/example/vestwright/vestwright/model/VestingBasis", "isScheduleBasis", "()Z"⟩ : MethodName) prog_81_method_4_code 1 (some .boolean) :: ws) ({ frames := 0, cells := 0, slots := 0, locals := 0 } : Room)) (fun a U => a = #[(.ref (ad 5))] ∧ Z.Warmed39 U.vm ∧ U.heap = h0) (fun _ _ _ _ _ => True) (fun _ U o U' => ∃ v L, o = .returned v ∧ QS (.int (1 : Int32)) h0 n0 v U'.heap L ∧ FrameEnd U o U' L ({ frames := 0, cells := 0, slots := 0, locals := 0 } : Room).cells ({ frames := 0, cells := 0, slots := 0, locals := 0 } : Room).slots) := by
  refine MetFree.of_bodySF (plainFor_of_name pn_2) hisR ?_
  intro p e s m args below meth c s₁ Bd hml0 hP hK
  obtain ⟨rfl, hZ, hh⟩ := hP
  have hx := Bd.exec
  have hby := Bd.bytes
  have hml : c.maxLocals = 1 := hml0
  have hown : s.vm.findClass "com/example/vestwright/vestwright/model/VestingBasis" = some m.cls := findClass_of_methodNamed Bd.named
  have X0 : Stand p l e ({ frames := 0, cells := 0, slots := 0, locals := 0 } : Room) s m #[(.ref (ad 5))] below meth c s₁ [] 0 0 := Stand.of_body Bd
  have e0 : s₁.heap = h0 := by rw [← hh, Bd.state]; rfl
  have N0 := Fr.nil n0
  have pre0 : ∀ t, Steps p.tables e below (s₁.setTop (mkF m 0 #[.val (.ref (ad 5))] [])) t → Steps p.tables e below (s₁.setTop (entryFrame m #[(.ref (ad 5))] 1)) t := fun t k => castTop (ef_2_R m (ad 5)) k
  obtain ⟨T1, X1, e1, st1⟩ := getF X0 hx hZ hown (host := "") (Or.inl (hw _ (List.mem_of_getElem? (i := 13) rfl))) Via.refl e0 ((ft_29 NF).ext Ol.2) (g := (mkF m 1 #[.val (.ref (ad 5))] [(.ref (ad 5))])) rfl rfl (hb hby d2_1)
  obtain ⟨T2, X2, e2, st2⟩ := getS2 X1 hx hZ hown (host := "") (Or.inl (hw _ (List.mem_of_getElem? (i := 17) rfl))) Via.refl e1 ((ft_13 NF).ext Ol.2) (g := (mkF m 4 #[.val (.ref (ad 5))] [(.ref (ad 1))])) rfl (hb hby d2_4)
  obtain ⟨fs, hr, hrun, hended, hW, hsame⟩ := X2.leave (v := some (.int (1 : Int32))) (fun h => by rw [Bd.returns] at h; cases h)
  refine ⟨_, _, pre0 _ ?_, hrun, hended, _, _, rfl, ?_, ⟨_, rfl⟩, hW, hsame.mono (by decide) (by decide)⟩
  · show Steps p.tables e below (s₁.setTop (mkF m 0 #[.val (.ref (ad 5))] [])) _
    refine XS.aloadN X0.here hx rfl (hb hby d2_0) rfl rfl ?_
    show Steps p.tables e below (s₁.setTop (mkF m 1 #[.val (.ref (ad 5))] [(.ref (ad 5))])) _
    refine st1 _ ?_
    show Steps p.tables e below (T1.setTop (mkF m 4 #[.val (.ref (ad 5))] [(.ref (ad 1))])) _
    refine st2 _ ?_
    show Steps p.tables e below (T2.setTop (mkF m 7 #[.val (.ref (ad 5))] [(.ref (ad 1)), (.ref (ad 1))])) _
    refine acmp X2 hx rfl (x := (.ref (ad 1))) (y := (.ref (ad 1))) rfl rfl (pc0 := 7) (pc' := 10) (same := true) rfl (hb hby d2_7) rfl (decide_eq_true rfl) (by decide) (by decide) ?_
    show Steps p.tables e below (T2.setTop (mkF m 10 #[.val (.ref (ad 5))] [])) _
    refine XS.iconst X2.here hx rfl (hb hby d2_10) ?_
    show Steps p.tables e below (T2.setTop (mkF m 11 #[.val (.ref (ad 5))] [(.int (1 : Int32))])) _
    refine XS.goto X2.here hx rfl (pc0 := 11) (pc' := 15) rfl (hb hby d2_11) (by decide) (by decide) ?_
    show Steps p.tables e below (T2.setTop (mkF m 15 #[.val (.ref (ad 5))] [(.int (1 : Int32))])) _
    exact retN X2 hx (t := .boolean) Bd.returns (by simp) (hb hby d2_15) hr
  · exact ⟨rfl, N0, e2⟩
set_option maxRecDepth 65536 in
set_option maxHeartbeats 40000000 in
theorem rm3_ad5 (l : Launch) (Z : State) (a0 : Array Value) (hw : ∀ d ∈ tables_1, d.before a0 Z = true) (ws : List Jvm.Cond) (ad : Nat → Addr) (NF : Facts Z ad) (h0 : Heap) (n0 : Nat) (Ol : Old Z n0 h0) :
    MetFree l (⟨"com/example/vestwright/vestwright/model/VestingBasis", "isEvent", "()Z"⟩ : MethodName) (head1 (Jvm.Cond.code (⟨"com/example/vestwright/vestwright/model/VestingBasis", "isEvent", "()Z"⟩ : MethodName) prog_81_method_5_code 1 (some .boolean) :: ws) ({ frames := 0, cells := 0, slots := 0, locals := 0 } : Room)) (fun a U => a = #[(.ref (ad 5))] ∧ Z.Warmed39 U.vm ∧ U.heap = h0) (fun _ _ _ _ _ => True) (fun _ U o U' => ∃ v L, o = .returned v ∧ QS (.int (0 : Int32)) h0 n0 v U'.heap L ∧ FrameEnd U o U' L ({ frames := 0, cells := 0, slots := 0, locals := 0 } : Room).cells ({ frames := 0, cells := 0, slots := 0, locals := 0 } : Room).slots) := by
  refine MetFree.of_bodySF (plainFor_of_name pn_2) hisR ?_
  intro p e s m args below meth c s₁ Bd hml0 hP hK
  obtain ⟨rfl, hZ, hh⟩ := hP
  have hx := Bd.exec
  have hby := Bd.bytes
  have hml : c.maxLocals = 1 := hml0
  have hown : s.vm.findClass "com/example/vestwright/vestwright/model/VestingBasis" = some m.cls := findClass_of_methodNamed Bd.named
  have X0 : Stand p l e ({ frames := 0, cells := 0, slots := 0, locals := 0 } : Room) s m #[(.ref (ad 5))] below meth c s₁ [] 0 0 := Stand.of_body Bd
  have e0 : s₁.heap = h0 := by rw [← hh, Bd.state]; rfl
  have N0 := Fr.nil n0
  have pre0 : ∀ t, Steps p.tables e below (s₁.setTop (mkF m 0 #[.val (.ref (ad 5))] [])) t → Steps p.tables e below (s₁.setTop (entryFrame m #[(.ref (ad 5))] 1)) t := fun t k => castTop (ef_3_R m (ad 5)) k
  obtain ⟨T1, X1, e1, st1⟩ := getF X0 hx hZ hown (host := "") (Or.inl (hw _ (List.mem_of_getElem? (i := 13) rfl))) Via.refl e0 ((ft_29 NF).ext Ol.2) (g := (mkF m 1 #[.val (.ref (ad 5))] [(.ref (ad 5))])) rfl rfl (hb hby d3_1)
  obtain ⟨T2, X2, e2, st2⟩ := getS2 X1 hx hZ hown (host := "") (Or.inl (hw _ (List.mem_of_getElem? (i := 23) rfl))) Via.refl e1 ((ft_14 NF).ext Ol.2) (g := (mkF m 4 #[.val (.ref (ad 5))] [(.ref (ad 1))])) rfl (hb hby d3_4)
  obtain ⟨fs, hr, hrun, hended, hW, hsame⟩ := X2.leave (v := some (.int (0 : Int32))) (fun h => by rw [Bd.returns] at h; cases h)
  refine ⟨_, _, pre0 _ ?_, hrun, hended, _, _, rfl, ?_, ⟨_, rfl⟩, hW, hsame.mono (by decide) (by decide)⟩
  · show Steps p.tables e below (s₁.setTop (mkF m 0 #[.val (.ref (ad 5))] [])) _
    refine XS.aloadN X0.here hx rfl (hb hby d3_0) rfl rfl ?_
    show Steps p.tables e below (s₁.setTop (mkF m 1 #[.val (.ref (ad 5))] [(.ref (ad 5))])) _
    refine st1 _ ?_
    show Steps p.tables e below (T1.setTop (mkF m 4 #[.val (.ref (ad 5))] [(.ref (ad 1))])) _
    refine st2 _ ?_
    show Steps p.tables e below (T2.setTop (mkF m 7 #[.val (.ref (ad 5))] [(.ref (ad 2)), (.ref (ad 1))])) _
    refine acmp X2 hx rfl (x := (.ref (ad 1))) (y := (.ref (ad 2))) rfl rfl (pc0 := 7) (pc' := 14) (same := false) rfl (hb hby d3_7) rfl (decide_eq_false (fun h => (Fld.ne (ft_25 NF) (ft_26 NF) (by decide)) (Value.ref.inj h))) (by decide) (by decide) ?_
    show Steps p.tables e below (T2.setTop (mkF m 14 #[.val (.ref (ad 5))] [])) _
    refine XS.iconst X2.here hx rfl (hb hby d3_14) ?_
    show Steps p.tables e below (T2.setTop (mkF m 15 #[.val (.ref (ad 5))] [(.int (0 : Int32))])) _
    exact retN X2 hx (t := .boolean) Bd.returns (by simp) (hb hby d3_15) hr
  · exact ⟨rfl, N0, e2⟩
set_option maxRecDepth 65536 in
set_option maxHeartbeats 40000000 in
theorem rm0_1 (l : Launch) (Z : State) (a0 : Array Value) (hw : ∀ d ∈ tables_1, d.before a0 Z = true) (ws : List Jvm.Cond) (ad : Nat → Addr) (NF : Facts Z ad) (h0 : Heap) (n0 : Nat) (Ol : Old Z n0 h0) (p0 : Int32) (hi : (p0 &&& (2147483647 : Int32)) % (9 : Int32) = (1 : Int32)) :
    MetFree l x (head1 (Jvm.Cond.code x code maxLocals ret :: ws) room_1) (fun a U => a = #[(.int p0)] ∧ Z.Warmed39 U.vm ∧ U.heap = h0) (fun _ _ _ _ _ => True) (fun _ U o U' => ∃ v L, o = .returned v ∧ QL n0 v U'.heap L ∧ FrameEnd U o U' L room_1.cells room_1.slots) := by
  refine MetFree.of_bodySF (plainFor_of_name pn_1) hisR ?_
  intro p e s m args below meth c s₁ Bd hml0 hP hK
  obtain ⟨rfl, hZ, hh⟩ := hP
  have hx := Bd.exec
  have hby := Bd.bytes
  have hml : c.maxLocals = 5 := hml0
  have hown : s.vm.findClass "com/example/vestwright/vestwright/model/VestingBasisIsScheduleBasisPinLaw" = some m.cls := findClass_of_methodNamed Bd.named
  have X0 : Stand p l e room_1 s m #[(.int p0)] below meth c s₁ [] 0 0 := Stand.of_body Bd
  have e0 : s₁.heap = h0 := by rw [← hh, Bd.state]; rfl
  have N0 := Fr.nil n0
  have pre0 : ∀ t, Steps p.tables e below (s₁.setTop (mkF m 0 #[.val (.int p0), .unset, .unset, .unset, .unset] [])) t → Steps p.tables e below (s₁.setTop (entryFrame m #[(.int p0)] maxLocals)) t := fun t k => castTop (ef_0_I m (p0)) k
  obtain ⟨_, _, ⟨T1, L1, k1, n1⟩, -, X1, ⟨Lc1, hQ1, l1, y1, z1⟩, st1⟩ := Jvm.LawKit.callS X0 hx (y := (⟨"com/example/vestwright/vestwright/model/VestingBasisIsScheduleBasisPinLaw", "pick", "(I)Lcom/example/vestwright/vestwright/model/VestingBasis;"⟩ : MethodName)) hown (mvT hZ (hw _ (List.mem_of_getElem? (i := 1) rfl))) (mvT hZ (hw _ (List.mem_of_getElem? (i := 2) rfl))) (mvT hZ (hw _ (List.mem_of_getElem? (i := 3) rfl))) (mvT hZ (hw _ (List.mem_of_getElem? (i := 4) rfl))) (by decide) (backOf (W := 0) (rm1_1 l Z a0 hw [] ad NF h0 n0 Ol) hZ (hw _ (List.mem_of_getElem? (i := 4) rfl)) (hw _ (List.mem_of_getElem? (i := 3) rfl)) (by decide) (by decide)) (g := (mkF m 9 #[.val (.int p0), .val (.int (1 : Int32)), .unset, .unset, .unset] [(.int (1 : Int32))])) rfl (by rw [hml]; rfl) (argsL := [(.int (1 : Int32))]) (rest := []) (lenOf pd_1 rfl) rfl (by show 2 * 0 + _ ≤ _; exact Nat.le_of_eq rfl) (hb hby at_9) (fun _ _ => ⟨rfl, e0, (by decide : 0 + 0 ≤ _), (by decide : 0 + 0 ≤ _)⟩)
  dsimp only [Pt.U, Pt.locs, Pt.cells, Pt.slots] at X1 l1 y1 z1 st1 hQ1
  subst l1 y1 z1
  obtain ⟨rfl, Nq1, e1⟩ := hQ1
  have N1 := Fr.app N0 Nq1
  obtain ⟨cq2, kq2, qa2, qb2, qc2⟩ := isOf hZ e1 ((ft_5 NF).ext Ol.2)
  obtain ⟨_, _, ⟨T2, L2, k2, n2⟩, -, X2, ⟨Lc2, hQ2, l2, y2, z2⟩, st2⟩ := X1.virtualBack hx (y := (⟨"com/example/vestwright/vestwright/model/VestingBasis", "isScheduleBasis", "()Z"⟩ : MethodName)) (z := (⟨"com/example/vestwright/vestwright/model/VestingBasis", "isScheduleBasis", "()Z"⟩ : MethodName)) hown (mvT hZ (hw _ (List.mem_of_getElem? (i := 8) rfl))) (mvT hZ (hw _ (List.mem_of_getElem? (i := 9) rfl))) (notFace_of_selects (args := #[]) (mvT hZ (hw _ (List.mem_of_getElem? (i := 11) rfl)))) (mvT hZ (hw _ (List.mem_of_getElem? (i := 11) rfl))) (mvT hZ (hw _ (List.mem_of_getElem? (i := 10) rfl))) (by decide) (backOf (W := 0) (rm2_ad5 l Z a0 hw [] ad NF h0 n0 Ol) hZ (hw _ (List.mem_of_getElem? (i := 12) rfl)) (hw _ (List.mem_of_getElem? (i := 6) rfl)) (by decide) (by decide)) qa2 qc2 (g := (mkF m 29 #[.val (.int p0), .val (.int (1 : Int32)), .val (.ref (ad 5)), .val (.int (1 : Int32)), .unset] [(.ref (ad 5))])) rfl (by rw [hml]; rfl) (Steps.refl _) (argsL := []) (rest := []) (lenOf pd_2 rfl) rfl (by show 2 * 0 + _ ≤ _; exact Nat.le_of_eq rfl) (hb hby at_29) (fun _ _ => ⟨rfl, e1, (by decide : 0 + 0 ≤ _), (by decide : 0 + 0 ≤ _)⟩)
  dsimp only [Pt.U, Pt.locs, Pt.cells, Pt.slots] at X2 l2 y2 z2 st2 hQ2
  subst l2 y2 z2
  obtain ⟨rfl, Nq2, e2⟩ := hQ2
  have N2 := Fr.app N1 Nq2
  obtain ⟨cq3, kq3, qa3, qb3, qc3⟩ := isOf hZ e2 ((ft_5 NF).ext Ol.2)
  obtain ⟨_, _, ⟨T3, L3, k3, n3⟩, -, X3, ⟨Lc3, hQ3, l3, y3, z3⟩, st3⟩ := X2.virtualBack hx (y := (⟨"com/example/vestwright/vestwright/model/VestingBasis", "isEvent", "()Z"⟩ : MethodName)) (z := (⟨"com/example/vestwright/vestwright/model/VestingBasis", "isEvent", "()Z"⟩ : MethodName)) hown (mvT hZ (hw _ (List.mem_of_getElem? (i := 18) rfl))) (mvT hZ (hw _ (List.mem_of_getElem? (i := 19) rfl))) (notFace_of_selects (args := #[]) (mvT hZ (hw _ (List.mem_of_getElem? (i := 21) rfl)))) (mvT hZ (hw _ (List.mem_of_getElem? (i := 21) rfl))) (mvT hZ (hw _ (List.mem_of_getElem? (i := 20) rfl))) (by decide) (backOf (W := 0) (rm3_ad5 l Z a0 hw [] ad NF h0 n0 Ol) hZ (hw _ (List.mem_of_getElem? (i := 22) rfl)) (hw _ (List.mem_of_getElem? (i := 6) rfl)) (by decide) (by decide)) qa3 qc3 (g := (mkF m 48 #[.val (.int p0), .val (.int (1 : Int32)), .val (.ref (ad 5)), .val (.int (1 : Int32)), .val (.int (1 : Int32))] [(.ref (ad 5))])) rfl (by rw [hml]; rfl) (Steps.refl _) (argsL := []) (rest := []) (lenOf pd_2 rfl) rfl (by show 2 * 0 + _ ≤ _; exact Nat.le_of_eq rfl) (hb hby at_48) (fun _ _ => ⟨rfl, e2, (by decide : 0 + 0 ≤ _), (by decide : 0 + 0 ≤ _)⟩)
  dsimp only [Pt.U, Pt.locs, Pt.cells, Pt.slots] at X3 l3 y3 z3 st3 hQ3
  subst l3 y3 z3
  obtain ⟨rfl, Nq3, e3⟩ := hQ3
  have N3 := Fr.app N2 Nq3
  obtain ⟨fs, hr, hrun, hended, hW, hsame⟩ := X3.leave (v := some (.int (1 : Int32))) (fun h => by rw [Bd.returns] at h; cases h)
  refine ⟨_, _, pre0 _ ?_, hrun, hended, _, _, rfl, ?_, ⟨_, rfl⟩, hW, hsame.mono (by decide) (by decide)⟩
  · show Steps p.tables e below (s₁.setTop (mkF m 0 #[.val (.int p0), .unset, .unset, .unset, .unset] [])) _
    refine XS.iloadN X0.here hx rfl (hb hby at_0) rfl ?_
    show Steps p.tables e below (s₁.setTop (mkF m 1 #[.val (.int p0), .unset, .unset, .unset, .unset] [(.int p0)])) _
    refine X0.ldcInt hx hown (mvT hZ (hw _ (List.mem_of_getElem? (i := 0) rfl))) (g := (mkF m 1 #[.val (.int p0), .unset, .unset, .unset, .unset] [(.int p0)])) rfl (hb hby at_1) _ ?_
    show Steps p.tables e below (s₁.setTop (mkF m 3 #[.val (.int p0), .unset, .unset, .unset, .unset] [(.int (2147483647 : Int32)), (.int p0)])) _
    refine XS.iand X0.here hx rfl (hb hby at_3) rfl ?_
    show Steps p.tables e below (s₁.setTop (mkF m 4 #[.val (.int p0), .unset, .unset, .unset, .unset] [(.int (p0 &&& (2147483647 : Int32)))])) _
    refine XS.bipush X0.here hx rfl (hb hby at_4) ?_
    show Steps p.tables e below (s₁.setTop (mkF m 6 #[.val (.int p0), .unset, .unset, .unset, .unset] [(.int (9 : Int32)), (.int (p0 &&& (2147483647 : Int32)))])) _
    refine iremM X0 hx rfl (hb hby at_6) rfl (by decide) ?_
    show Steps p.tables e below (s₁.setTop (mkF m 7 #[.val (.int p0), .unset, .unset, .unset, .unset] [(.int ((p0 &&& (2147483647 : Int32)) % (9 : Int32)))])) _
    rw [hi]
    show Steps p.tables e below (s₁.setTop (mkF m 7 #[.val (.int p0), .unset, .unset, .unset, .unset] [(.int (1 : Int32))])) _
    refine XS.istoreN X0.here hx rfl (hb hby at_7) rfl (l' := #[.val (.int p0), .val (.int (1 : Int32)), .unset, .unset, .unset]) rfl ?_
    show Steps p.tables e below (s₁.setTop (mkF m 8 #[.val (.int p0), .val (.int (1 : Int32)), .unset, .unset, .unset] [])) _
    refine XS.iloadN X0.here hx rfl (hb hby at_8) rfl ?_
    show Steps p.tables e below (s₁.setTop (mkF m 9 #[.val (.int p0), .val (.int (1 : Int32)), .unset, .unset, .unset] [(.int (1 : Int32))])) _
    refine st1 _ ?_
    show Steps p.tables e below (T1.setTop (mkF m 12 #[.val (.int p0), .val (.int (1 : Int32)), .unset, .unset, .unset] [(.ref (ad 5))])) _
    refine XS.astoreN X1.here hx rfl (hb hby at_12) rfl rfl (l' := #[.val (.int p0), .val (.int (1 : Int32)), .val (.ref (ad 5)), .unset, .unset]) rfl ?_
    show Steps p.tables e below (T1.setTop (mkF m 13 #[.val (.int p0), .val (.int (1 : Int32)), .val (.ref (ad 5)), .unset, .unset] [])) _
    refine XS.iloadN X1.here hx rfl (hb hby at_13) rfl ?_
    show Steps p.tables e below (T1.setTop (mkF m 14 #[.val (.int p0), .val (.int (1 : Int32)), .val (.ref (ad 5)), .unset, .unset] [(.int (1 : Int32))])) _
    refine XS.ifNo X1.here hx rfl (hb hby at_14) rfl ((if0 _ _).trans (feq (by decide)).1) ?_
    show Steps p.tables e below (T1.setTop (mkF m 17 #[.val (.int p0), .val (.int (1 : Int32)), .val (.ref (ad 5)), .unset, .unset] [])) _
    refine XS.iloadN X1.here hx rfl (hb hby at_17) rfl ?_
    show Steps p.tables e below (T1.setTop (mkF m 18 #[.val (.int p0), .val (.int (1 : Int32)), .val (.ref (ad 5)), .unset, .unset] [(.int (1 : Int32))])) _
    refine XS.iconst X1.here hx rfl (hb hby at_18) ?_
    show Steps p.tables e below (T1.setTop (mkF m 19 #[.val (.int p0), .val (.int (1 : Int32)), .val (.ref (ad 5)), .unset, .unset] [(.int (1 : Int32)), (.int (1 : Int32))])) _
    refine XS.icmpNo X1.here hx rfl (hb hby at_19) rfl (teq (by decide)).2 ?_
    show Steps p.tables e below (T1.setTop (mkF m 22 #[.val (.int p0), .val (.int (1 : Int32)), .val (.ref (ad 5)), .unset, .unset] [])) _
    refine XS.iconst X1.here hx rfl (hb hby at_22) ?_
    show Steps p.tables e below (T1.setTop (mkF m 23 #[.val (.int p0), .val (.int (1 : Int32)), .val (.ref (ad 5)), .unset, .unset] [(.int (1 : Int32))])) _
    refine XS.goto X1.here hx rfl (pc0 := 23) (pc' := 27) rfl (hb hby at_23) (by decide) (by decide) ?_
    show Steps p.tables e below (T1.setTop (mkF m 27 #[.val (.int p0), .val (.int (1 : Int32)), .val (.ref (ad 5)), .unset, .unset] [(.int (1 : Int32))])) _
    refine XS.istoreN X1.here hx rfl (hb hby at_27) rfl (l' := #[.val (.int p0), .val (.int (1 : Int32)), .val (.ref (ad 5)), .val (.int (1 : Int32)), .unset]) rfl ?_
    show Steps p.tables e below (T1.setTop (mkF m 28 #[.val (.int p0), .val (.int (1 : Int32)), .val (.ref (ad 5)), .val (.int (1 : Int32)), .unset] [])) _
    refine XS.aloadN X1.here hx rfl (hb hby at_28) rfl rfl ?_
    show Steps p.tables e below (T1.setTop (mkF m 29 #[.val (.int p0), .val (.int (1 : Int32)), .val (.ref (ad 5)), .val (.int (1 : Int32)), .unset] [(.ref (ad 5))])) _
    refine st2.trans ?_
    show Steps p.tables e below (T2.setTop (mkF m 32 #[.val (.int p0), .val (.int (1 : Int32)), .val (.ref (ad 5)), .val (.int (1 : Int32)), .unset] [(.int (1 : Int32))])) _
    refine XS.istore X2.here hx rfl (hb hby at_32) rfl (l' := #[.val (.int p0), .val (.int (1 : Int32)), .val (.ref (ad 5)), .val (.int (1 : Int32)), .val (.int (1 : Int32))]) rfl ?_
    show Steps p.tables e below (T2.setTop (mkF m 34 #[.val (.int p0), .val (.int (1 : Int32)), .val (.ref (ad 5)), .val (.int (1 : Int32)), .val (.int (1 : Int32))] [])) _
    refine XS.iload X2.here hx rfl (hb hby at_34) rfl ?_
    show Steps p.tables e below (T2.setTop (mkF m 36 #[.val (.int p0), .val (.int (1 : Int32)), .val (.ref (ad 5)), .val (.int (1 : Int32)), .val (.int (1 : Int32))] [(.int (1 : Int32))])) _
    refine XS.iloadN X2.here hx rfl (hb hby at_36) rfl ?_
    show Steps p.tables e below (T2.setTop (mkF m 37 #[.val (.int p0), .val (.int (1 : Int32)), .val (.ref (ad 5)), .val (.int (1 : Int32)), .val (.int (1 : Int32))] [(.int (1 : Int32)), (.int (1 : Int32))])) _
    refine XS.icmpYes X2.here hx rfl (pc0 := 37) (pc' := 42) rfl (hb hby at_37) rfl (teq (by decide)).1 (by decide) (by decide) ?_
    show Steps p.tables e below (T2.setTop (mkF m 42 #[.val (.int p0), .val (.int (1 : Int32)), .val (.ref (ad 5)), .val (.int (1 : Int32)), .val (.int (1 : Int32))] [])) _
    refine XS.iload X2.here hx rfl (hb hby at_42) rfl ?_
    show Steps p.tables e below (T2.setTop (mkF m 44 #[.val (.int p0), .val (.int (1 : Int32)), .val (.ref (ad 5)), .val (.int (1 : Int32)), .val (.int (1 : Int32))] [(.int (1 : Int32))])) _
    refine XS.ifNo X2.here hx rfl (hb hby at_44) rfl ((if0 _ _).trans (feq (by decide)).1) ?_
    show Steps p.tables e below (T2.setTop (mkF m 47 #[.val (.int p0), .val (.int (1 : Int32)), .val (.ref (ad 5)), .val (.int (1 : Int32)), .val (.int (1 : Int32))] [])) _
    refine XS.aloadN X2.here hx rfl (hb hby at_47) rfl rfl ?_
    show Steps p.tables e below (T2.setTop (mkF m 48 #[.val (.int p0), .val (.int (1 : Int32)), .val (.ref (ad 5)), .val (.int (1 : Int32)), .val (.int (1 : Int32))] [(.ref (ad 5))])) _
    refine st3.trans ?_
    show Steps p.tables e below (T3.setTop (mkF m 51 #[.val (.int p0), .val (.int (1 : Int32)), .val (.ref (ad 5)), .val (.int (1 : Int32)), .val (.int (1 : Int32))] [(.int (0 : Int32))])) _
    refine XS.ifYes X3.here hx rfl (pc0 := 51) (pc' := 56) rfl (hb hby at_51) rfl ((if0 _ _).trans (teq (by decide)).1) (by decide) (by decide) ?_
    show Steps p.tables e below (T3.setTop (mkF m 56 #[.val (.int p0), .val (.int (1 : Int32)), .val (.ref (ad 5)), .val (.int (1 : Int32)), .val (.int (1 : Int32))] [])) _
    refine XS.iconst X3.here hx rfl (hb hby at_56) ?_
    show Steps p.tables e below (T3.setTop (mkF m 57 #[.val (.int p0), .val (.int (1 : Int32)), .val (.ref (ad 5)), .val (.int (1 : Int32)), .val (.int (1 : Int32))] [(.int (1 : Int32))])) _
    exact retN X3 hx (t := .boolean) Bd.returns (by simp) (hb hby at_57) hr
  · exact ⟨rfl, N3⟩
theorem d1_17 : decode method_2_code 17 = .ok (.iload_n 0, 1) := by decide +kernel
theorem d1_18 : decode method_2_code 18 = .ok (.iconst 2, 1) := by decide +kernel
theorem d1_19 : decode method_2_code 19 = .ok (.if_icmp .ne 7, 3) := by decide +kernel
theorem d1_22 : decode method_2_code 22 = .ok (.getstatic 16, 3) := by decide +kernel
theorem d1_25 : decode method_2_code 25 = .ok (.areturn, 1) := by decide +kernel
set_option maxRecDepth 65536 in
set_option maxHeartbeats 40000000 in
theorem rm1_2 (l : Launch) (Z : State) (a0 : Array Value) (hw : ∀ d ∈ tables_1, d.before a0 Z = true) (ws : List Jvm.Cond) (ad : Nat → Addr) (NF : Facts Z ad) (h0 : Heap) (n0 : Nat) (Ol : Old Z n0 h0) :
    MetFree l (⟨"com/example/vestwright/vestwright/model/VestingBasisIsScheduleBasisPinLaw", "pick", "(I)Lcom/example/vestwright/vestwright/model/VestingBasis;"⟩ : MethodName) (head1 (Jvm.Cond.code (⟨"com/example/vestwright/vestwright/model/VestingBasisIsScheduleBasisPinLaw", "pick", "(I)Lcom/example/vestwright/vestwright/model/VestingBasis;"⟩ : MethodName) method_2_code 1 (some (.object "com/example/vestwright/vestwright/model/VestingBasis")) :: ws) ({ frames := 0, cells := 0, slots := 0, locals := 0 } : Room)) (fun a U => a = #[(.int (2 : Int32))] ∧ Z.Warmed39 U.vm ∧ U.heap = h0) (fun _ _ _ _ _ => True) (fun _ U o U' => ∃ v L, o = .returned v ∧ QS (.ref (ad 4)) h0 n0 v U'.heap L ∧ FrameEnd U o U' L ({ frames := 0, cells := 0, slots := 0, locals := 0 } : Room).cells ({ frames := 0, cells := 0, slots := 0, locals := 0 } : Room).slots) := by
  refine MetFree.of_bodySF (plainFor_of_name pn_1) hisR ?_
  intro p e s m args below meth c s₁ Bd hml0 hP hK
  obtain ⟨rfl, hZ, hh⟩ := hP
  have hx := Bd.exec
  have hby := Bd.bytes
  have hml : c.maxLocals = 1 := hml0
  have hown : s.vm.findClass "com/example/vestwright/vestwright/model/VestingBasisIsScheduleBasisPinLaw" = some m.cls := findClass_of_methodNamed Bd.named
  have X0 : Stand p l e ({ frames := 0, cells := 0, slots := 0, locals := 0 } : Room) s m #[(.int (2 : Int32))] below meth c s₁ [] 0 0 := Stand.of_body Bd
  have e0 : s₁.heap = h0 := by rw [← hh, Bd.state]; rfl
  have N0 := Fr.nil n0
  have pre0 : ∀ t, Steps p.tables e below (s₁.setTop (mkF m 0 #[.val (.int (2 : Int32))] [])) t → Steps p.tables e below (s₁.setTop (entryFrame m #[(.int (2 : Int32))] 1)) t := fun t k => castTop (ef_1_I m (2 : Int32)) k
  obtain ⟨T1, X1, e1, st1⟩ := getS2 X0 hx hZ hown (host := "") (Or.inl (hw _ (List.mem_of_getElem? (i := 27) rfl))) Via.refl e0 ((ft_16 NF).ext Ol.2) (g := (mkF m 22 #[.val (.int (2 : Int32))] [])) rfl (hb hby d1_22)
  obtain ⟨fs, hr, hrun, hended, hW, hsame⟩ := X1.leave (v := some (.ref (ad 4))) (fun h => by rw [Bd.returns] at h; cases h)
  refine ⟨_, _, pre0 _ ?_, hrun, hended, _, _, rfl, ?_, ⟨_, rfl⟩, hW, hsame.mono (by decide) (by decide)⟩
  · show Steps p.tables e below (s₁.setTop (mkF m 0 #[.val (.int (2 : Int32))] [])) _
    refine XS.iloadN X0.here hx rfl (hb hby d1_0) rfl ?_
    show Steps p.tables e below (s₁.setTop (mkF m 1 #[.val (.int (2 : Int32))] [(.int (2 : Int32))])) _
    refine XS.ifYes X0.here hx rfl (pc0 := 1) (pc' := 8) rfl (hb hby d1_1) rfl ((if0 _ _).trans (feq (by decide)).2) (by decide) (by decide) ?_
    show Steps p.tables e below (s₁.setTop (mkF m 8 #[.val (.int (2 : Int32))] [])) _
    refine XS.iloadN X0.here hx rfl (hb hby d1_8) rfl ?_
    show Steps p.tables e below (s₁.setTop (mkF m 9 #[.val (.int (2 : Int32))] [(.int (2 : Int32))])) _
    refine XS.iconst X0.here hx rfl (hb hby d1_9) ?_
    show Steps p.tables e below (s₁.setTop (mkF m 10 #[.val (.int (2 : Int32))] [(.int (1 : Int32)), (.int (2 : Int32))])) _
    refine XS.icmpYes X0.here hx rfl (pc0 := 10) (pc' := 17) rfl (hb hby d1_10) rfl (feq (by decide)).2 (by decide) (by decide) ?_
    show Steps p.tables e below (s₁.setTop (mkF m 17 #[.val (.int (2 : Int32))] [])) _
    refine XS.iloadN X0.here hx rfl (hb hby d1_17) rfl ?_
    show Steps p.tables e below (s₁.setTop (mkF m 18 #[.val (.int (2 : Int32))] [(.int (2 : Int32))])) _
    refine XS.iconst X0.here hx rfl (hb hby d1_18) ?_
    show Steps p.tables e below (s₁.setTop (mkF m 19 #[.val (.int (2 : Int32))] [(.int (2 : Int32)), (.int (2 : Int32))])) _
    refine XS.icmpNo X0.here hx rfl (hb hby d1_19) rfl (teq (by decide)).2 ?_
    show Steps p.tables e below (s₁.setTop (mkF m 22 #[.val (.int (2 : Int32))] [])) _
    refine st1 _ ?_
    show Steps p.tables e below (T1.setTop (mkF m 25 #[.val (.int (2 : Int32))] [(.ref (ad 4))])) _
    exact retOut X1 hx Bd.returns (by rfl) (Or.inr (Or.inr (Or.inr (Or.inr ⟨rfl, rfl, rfl⟩)))) (hb hby d1_25) hr
  · exact ⟨rfl, N0, e1⟩
theorem d2_14 : decode prog_81_method_4_code 14 = .ok (.iconst 0, 1) := by decide +kernel
set_option maxRecDepth 65536 in
set_option maxHeartbeats 40000000 in
theorem rm2_ad4 (l : Launch) (Z : State) (a0 : Array Value) (hw : ∀ d ∈ tables_1, d.before a0 Z = true) (ws : List Jvm.Cond) (ad : Nat → Addr) (NF : Facts Z ad) (h0 : Heap) (n0 : Nat) (Ol : Old Z n0 h0) :
    MetFree l (⟨"com/example/vestwright/vestwright/model/VestingBasis", "isScheduleBasis", "()Z"⟩ : MethodName) (head1 (Jvm.Cond.code (⟨"com/example/vestwright/vestwright/model/VestingBasis", "isScheduleBasis", "()Z"⟩ : MethodName) prog_81_method_4_code 1 (some .boolean) :: ws) ({ frames := 0, cells := 0, slots := 0, locals := 0 } : Room)) (fun a U => a = #[(.ref (ad 4))] ∧ Z.Warmed39 U.vm ∧ U.heap = h0) (fun _ _ _ _ _ => True) (fun _ U o U' => ∃ v L, o = .returned v ∧ QS (.int (0 : Int32)) h0 n0 v U'.heap L ∧ FrameEnd U o U' L ({ frames := 0, cells := 0, slots := 0, locals := 0 } : Room).cells ({ frames := 0, cells := 0, slots := 0, locals := 0 } : Room).slots) := by
  refine MetFree.of_bodySF (plainFor_of_name pn_2) hisR ?_
  intro p e s m args below meth c s₁ Bd hml0 hP hK
  obtain ⟨rfl, hZ, hh⟩ := hP
  have hx := Bd.exec
  have hby := Bd.bytes
  have hml : c.maxLocals = 1 := hml0
  have hown : s.vm.findClass "com/example/vestwright/vestwright/model/VestingBasis" = some m.cls := findClass_of_methodNamed Bd.named
  have X0 : Stand p l e ({ frames := 0, cells := 0, slots := 0, locals := 0 } : Room) s m #[(.ref (ad 4))] below meth c s₁ [] 0 0 := Stand.of_body Bd
  have e0 : s₁.heap = h0 := by rw [← hh, Bd.state]; rfl
  have N0 := Fr.nil n0
  have pre0 : ∀ t, Steps p.tables e below (s₁.setTop (mkF m 0 #[.val (.ref (ad 4))] [])) t → Steps p.tables e below (s₁.setTop (entryFrame m #[(.ref (ad 4))] 1)) t := fun t k => castTop (ef_2_R m (ad 4)) k
  obtain ⟨T1, X1, e1, st1⟩ := getF X0 hx hZ hown (host := "") (Or.inl (hw _ (List.mem_of_getElem? (i := 13) rfl))) Via.refl e0 ((ft_28 NF).ext Ol.2) (g := (mkF m 1 #[.val (.ref (ad 4))] [(.ref (ad 4))])) rfl rfl (hb hby d2_1)
  obtain ⟨T2, X2, e2, st2⟩ := getS2 X1 hx hZ hown (host := "") (Or.inl (hw _ (List.mem_of_getElem? (i := 17) rfl))) Via.refl e1 ((ft_13 NF).ext Ol.2) (g := (mkF m 4 #[.val (.ref (ad 4))] [(.ref (ad 2))])) rfl (hb hby d2_4)
  obtain ⟨fs, hr, hrun, hended, hW, hsame⟩ := X2.leave (v := some (.int (0 : Int32))) (fun h => by rw [Bd.returns] at h; cases h)
  refine ⟨_, _, pre0 _ ?_, hrun, hended, _, _, rfl, ?_, ⟨_, rfl⟩, hW, hsame.mono (by decide) (by decide)⟩
  · show Steps p.tables e below (s₁.setTop (mkF m 0 #[.val (.ref (ad 4))] [])) _
    refine XS.aloadN X0.here hx rfl (hb hby d2_0) rfl rfl ?_
    show Steps p.tables e below (s₁.setTop (mkF m 1 #[.val (.ref (ad 4))] [(.ref (ad 4))])) _
    refine st1 _ ?_
    show Steps p.tables e below (T1.setTop (mkF m 4 #[.val (.ref (ad 4))] [(.ref (ad 2))])) _
    refine st2 _ ?_
    show Steps p.tables e below (T2.setTop (mkF m 7 #[.val (.ref (ad 4))] [(.ref (ad 1)), (.ref (ad 2))])) _
    refine acmp X2 hx rfl (x := (.ref (ad 2))) (y := (.ref (ad 1))) rfl rfl (pc0 := 7) (pc' := 14) (same := false) rfl (hb hby d2_7) rfl (decide_eq_false (fun h => (Fld.ne (ft_26 NF) (ft_25 NF) (by decide)) (Value.ref.inj h))) (by decide) (by decide) ?_
    show Steps p.tables e below (T2.setTop (mkF m 14 #[.val (.ref (ad 4))] [])) _
    refine XS.iconst X2.here hx rfl (hb hby d2_14) ?_
    show Steps p.tables e below (T2.setTop (mkF m 15 #[.val (.ref (ad 4))] [(.int (0 : Int32))])) _
    exact retN X2 hx (t := .boolean) Bd.returns (by simp) (hb hby d2_15) hr
  · exact ⟨rfl, N0, e2⟩
set_option maxRecDepth 65536 in
set_option maxHeartbeats 40000000 in
theorem rm0_2 (l : Launch) (Z : State) (a0 : Array Value) (hw : ∀ d ∈ tables_1, d.before a0 Z = true) (ws : List Jvm.Cond) (ad : Nat → Addr) (NF : Facts Z ad) (h0 : Heap) (n0 : Nat) (Ol : Old Z n0 h0) (p0 : Int32) (hi : (p0 &&& (2147483647 : Int32)) % (9 : Int32) = (2 : Int32)) :
    MetFree l x (head1 (Jvm.Cond.code x code maxLocals ret :: ws) room_1) (fun a U => a = #[(.int p0)] ∧ Z.Warmed39 U.vm ∧ U.heap = h0) (fun _ _ _ _ _ => True) (fun _ U o U' => ∃ v L, o = .returned v ∧ QL n0 v U'.heap L ∧ FrameEnd U o U' L room_1.cells room_1.slots) := by
  refine MetFree.of_bodySF (plainFor_of_name pn_1) hisR ?_
  intro p e s m args below meth c s₁ Bd hml0 hP hK
  obtain ⟨rfl, hZ, hh⟩ := hP
  have hx := Bd.exec
  have hby := Bd.bytes
  have hml : c.maxLocals = 5 := hml0
  have hown : s.vm.findClass "com/example/vestwright/vestwright/model/VestingBasisIsScheduleBasisPinLaw" = some m.cls := findClass_of_methodNamed Bd.named
  have X0 : Stand p l e room_1 s m #[(.int p0)] below meth c s₁ [] 0 0 := Stand.of_body Bd
  have e0 : s₁.heap = h0 := by rw [← hh, Bd.state]; rfl
  have N0 := Fr.nil n0
  have pre0 : ∀ t, Steps p.tables e below (s₁.setTop (mkF m 0 #[.val (.int p0), .unset, .unset, .unset, .unset] [])) t → Steps p.tables e below (s₁.setTop (entryFrame m #[(.int p0)] maxLocals)) t := fun t k => castTop (ef_0_I m (p0)) k
  obtain ⟨_, _, ⟨T1, L1, k1, n1⟩, -, X1, ⟨Lc1, hQ1, l1, y1, z1⟩, st1⟩ := Jvm.LawKit.callS X0 hx (y := (⟨"com/example/vestwright/vestwright/model/VestingBasisIsScheduleBasisPinLaw", "pick", "(I)Lcom/example/vestwright/vestwright/model/VestingBasis;"⟩ : MethodName)) hown (mvT hZ (hw _ (List.mem_of_getElem? (i := 1) rfl))) (mvT hZ (hw _ (List.mem_of_getElem? (i := 2) rfl))) (mvT hZ (hw _ (List.mem_of_getElem? (i := 3) rfl))) (mvT hZ (hw _ (List.mem_of_getElem? (i := 4) rfl))) (by decide) (backOf (W := 0) (rm1_2 l Z a0 hw [] ad NF h0 n0 Ol) hZ (hw _ (List.mem_of_getElem? (i := 4) rfl)) (hw _ (List.mem_of_getElem? (i := 3) rfl)) (by decide) (by decide)) (g := (mkF m 9 #[.val (.int p0), .val (.int (2 : Int32)), .unset, .unset, .unset] [(.int (2 : Int32))])) rfl (by rw [hml]; rfl) (argsL := [(.int (2 : Int32))]) (rest := []) (lenOf pd_1 rfl) rfl (by show 2 * 0 + _ ≤ _; exact Nat.le_of_eq rfl) (hb hby at_9) (fun _ _ => ⟨rfl, e0, (by decide : 0 + 0 ≤ _), (by decide : 0 + 0 ≤ _)⟩)
  dsimp only [Pt.U, Pt.locs, Pt.cells, Pt.slots] at X1 l1 y1 z1 st1 hQ1
  subst l1 y1 z1
  obtain ⟨rfl, Nq1, e1⟩ := hQ1
  have N1 := Fr.app N0 Nq1
  obtain ⟨cq2, kq2, qa2, qb2, qc2⟩ := isOf hZ e1 ((ft_4 NF).ext Ol.2)
  obtain ⟨_, _, ⟨T2, L2, k2, n2⟩, -, X2, ⟨Lc2, hQ2, l2, y2, z2⟩, st2⟩ := X1.virtualBack hx (y := (⟨"com/example/vestwright/vestwright/model/VestingBasis", "isScheduleBasis", "()Z"⟩ : MethodName)) (z := (⟨"com/example/vestwright/vestwright/model/VestingBasis", "isScheduleBasis", "()Z"⟩ : MethodName)) hown (mvT hZ (hw _ (List.mem_of_getElem? (i := 8) rfl))) (mvT hZ (hw _ (List.mem_of_getElem? (i := 9) rfl))) (notFace_of_selects (args := #[]) (mvT hZ (hw _ (List.mem_of_getElem? (i := 11) rfl)))) (mvT hZ (hw _ (List.mem_of_getElem? (i := 11) rfl))) (mvT hZ (hw _ (List.mem_of_getElem? (i := 10) rfl))) (by decide) (backOf (W := 0) (rm2_ad4 l Z a0 hw [] ad NF h0 n0 Ol) hZ (hw _ (List.mem_of_getElem? (i := 12) rfl)) (hw _ (List.mem_of_getElem? (i := 6) rfl)) (by decide) (by decide)) qa2 qc2 (g := (mkF m 29 #[.val (.int p0), .val (.int (2 : Int32)), .val (.ref (ad 4)), .val (.int (0 : Int32)), .unset] [(.ref (ad 4))])) rfl (by rw [hml]; rfl) (Steps.refl _) (argsL := []) (rest := []) (lenOf pd_2 rfl) rfl (by show 2 * 0 + _ ≤ _; exact Nat.le_of_eq rfl) (hb hby at_29) (fun _ _ => ⟨rfl, e1, (by decide : 0 + 0 ≤ _), (by decide : 0 + 0 ≤ _)⟩)
  dsimp only [Pt.U, Pt.locs, Pt.cells, Pt.slots] at X2 l2 y2 z2 st2 hQ2
  subst l2 y2 z2
  obtain ⟨rfl, Nq2, e2⟩ := hQ2
  have N2 := Fr.app N1 Nq2
  obtain ⟨fs, hr, hrun, hended, hW, hsame⟩ := X2.leave (v := some (.int (1 : Int32))) (fun h => by rw [Bd.returns] at h; cases h)
  refine ⟨_, _, pre0 _ ?_, hrun, hended, _, _, rfl, ?_, ⟨_, rfl⟩, hW, hsame.mono (by decide) (by decide)⟩
  · show Steps p.tables e below (s₁.setTop (mkF m 0 #[.val (.int p0), .unset, .unset, .unset, .unset] [])) _
    refine XS.iloadN X0.here hx rfl (hb hby at_0) rfl ?_
    show Steps p.tables e below (s₁.setTop (mkF m 1 #[.val (.int p0), .unset, .unset, .unset, .unset] [(.int p0)])) _
    refine X0.ldcInt hx hown (mvT hZ (hw _ (List.mem_of_getElem? (i := 0) rfl))) (g := (mkF m 1 #[.val (.int p0), .unset, .unset, .unset, .unset] [(.int p0)])) rfl (hb hby at_1) _ ?_
    show Steps p.tables e below (s₁.setTop (mkF m 3 #[.val (.int p0), .unset, .unset, .unset, .unset] [(.int (2147483647 : Int32)), (.int p0)])) _
    refine XS.iand X0.here hx rfl (hb hby at_3) rfl ?_
    show Steps p.tables e below (s₁.setTop (mkF m 4 #[.val (.int p0), .unset, .unset, .unset, .unset] [(.int (p0 &&& (2147483647 : Int32)))])) _
    refine XS.bipush X0.here hx rfl (hb hby at_4) ?_
    show Steps p.tables e below (s₁.setTop (mkF m 6 #[.val (.int p0), .unset, .unset, .unset, .unset] [(.int (9 : Int32)), (.int (p0 &&& (2147483647 : Int32)))])) _
    refine iremM X0 hx rfl (hb hby at_6) rfl (by decide) ?_
    show Steps p.tables e below (s₁.setTop (mkF m 7 #[.val (.int p0), .unset, .unset, .unset, .unset] [(.int ((p0 &&& (2147483647 : Int32)) % (9 : Int32)))])) _
    rw [hi]
    show Steps p.tables e below (s₁.setTop (mkF m 7 #[.val (.int p0), .unset, .unset, .unset, .unset] [(.int (2 : Int32))])) _
    refine XS.istoreN X0.here hx rfl (hb hby at_7) rfl (l' := #[.val (.int p0), .val (.int (2 : Int32)), .unset, .unset, .unset]) rfl ?_
    show Steps p.tables e below (s₁.setTop (mkF m 8 #[.val (.int p0), .val (.int (2 : Int32)), .unset, .unset, .unset] [])) _
    refine XS.iloadN X0.here hx rfl (hb hby at_8) rfl ?_
    show Steps p.tables e below (s₁.setTop (mkF m 9 #[.val (.int p0), .val (.int (2 : Int32)), .unset, .unset, .unset] [(.int (2 : Int32))])) _
    refine st1 _ ?_
    show Steps p.tables e below (T1.setTop (mkF m 12 #[.val (.int p0), .val (.int (2 : Int32)), .unset, .unset, .unset] [(.ref (ad 4))])) _
    refine XS.astoreN X1.here hx rfl (hb hby at_12) rfl rfl (l' := #[.val (.int p0), .val (.int (2 : Int32)), .val (.ref (ad 4)), .unset, .unset]) rfl ?_
    show Steps p.tables e below (T1.setTop (mkF m 13 #[.val (.int p0), .val (.int (2 : Int32)), .val (.ref (ad 4)), .unset, .unset] [])) _
    refine XS.iloadN X1.here hx rfl (hb hby at_13) rfl ?_
    show Steps p.tables e below (T1.setTop (mkF m 14 #[.val (.int p0), .val (.int (2 : Int32)), .val (.ref (ad 4)), .unset, .unset] [(.int (2 : Int32))])) _
    refine XS.ifNo X1.here hx rfl (hb hby at_14) rfl ((if0 _ _).trans (feq (by decide)).1) ?_
    show Steps p.tables e below (T1.setTop (mkF m 17 #[.val (.int p0), .val (.int (2 : Int32)), .val (.ref (ad 4)), .unset, .unset] [])) _
    refine XS.iloadN X1.here hx rfl (hb hby at_17) rfl ?_
    show Steps p.tables e below (T1.setTop (mkF m 18 #[.val (.int p0), .val (.int (2 : Int32)), .val (.ref (ad 4)), .unset, .unset] [(.int (2 : Int32))])) _
    refine XS.iconst X1.here hx rfl (hb hby at_18) ?_
    show Steps p.tables e below (T1.setTop (mkF m 19 #[.val (.int p0), .val (.int (2 : Int32)), .val (.ref (ad 4)), .unset, .unset] [(.int (1 : Int32)), (.int (2 : Int32))])) _
    refine XS.icmpYes X1.here hx rfl (pc0 := 19) (pc' := 26) rfl (hb hby at_19) rfl (feq (by decide)).2 (by decide) (by decide) ?_
    show Steps p.tables e below (T1.setTop (mkF m 26 #[.val (.int p0), .val (.int (2 : Int32)), .val (.ref (ad 4)), .unset, .unset] [])) _
    refine XS.iconst X1.here hx rfl (hb hby at_26) ?_
    show Steps p.tables e below (T1.setTop (mkF m 27 #[.val (.int p0), .val (.int (2 : Int32)), .val (.ref (ad 4)), .unset, .unset] [(.int (0 : Int32))])) _
    refine XS.istoreN X1.here hx rfl (hb hby at_27) rfl (l' := #[.val (.int p0), .val (.int (2 : Int32)), .val (.ref (ad 4)), .val (.int (0 : Int32)), .unset]) rfl ?_
    show Steps p.tables e below (T1.setTop (mkF m 28 #[.val (.int p0), .val (.int (2 : Int32)), .val (.ref (ad 4)), .val (.int (0 : Int32)), .unset] [])) _
    refine XS.aloadN X1.here hx rfl (hb hby at_28) rfl rfl ?_
    show Steps p.tables e below (T1.setTop (mkF m 29 #[.val (.int p0), .val (.int (2 : Int32)), .val (.ref (ad 4)), .val (.int (0 : Int32)), .unset] [(.ref (ad 4))])) _
    refine st2.trans ?_
    show Steps p.tables e below (T2.setTop (mkF m 32 #[.val (.int p0), .val (.int (2 : Int32)), .val (.ref (ad 4)), .val (.int (0 : Int32)), .unset] [(.int (0 : Int32))])) _
    refine XS.istore X2.here hx rfl (hb hby at_32) rfl (l' := #[.val (.int p0), .val (.int (2 : Int32)), .val (.ref (ad 4)), .val (.int (0 : Int32)), .val (.int (0 : Int32))]) rfl ?_
    show Steps p.tables e below (T2.setTop (mkF m 34 #[.val (.int p0), .val (.int (2 : Int32)), .val (.ref (ad 4)), .val (.int (0 : Int32)), .val (.int (0 : Int32))] [])) _
    refine XS.iload X2.here hx rfl (hb hby at_34) rfl ?_
    show Steps p.tables e below (T2.setTop (mkF m 36 #[.val (.int p0), .val (.int (2 : Int32)), .val (.ref (ad 4)), .val (.int (0 : Int32)), .val (.int (0 : Int32))] [(.int (0 : Int32))])) _
    refine XS.iloadN X2.here hx rfl (hb hby at_36) rfl ?_
    show Steps p.tables e below (T2.setTop (mkF m 37 #[.val (.int p0), .val (.int (2 : Int32)), .val (.ref (ad 4)), .val (.int (0 : Int32)), .val (.int (0 : Int32))] [(.int (0 : Int32)), (.int (0 : Int32))])) _
    refine XS.icmpYes X2.here hx rfl (pc0 := 37) (pc' := 42) rfl (hb hby at_37) rfl (teq (by decide)).1 (by decide) (by decide) ?_
    show Steps p.tables e below (T2.setTop (mkF m 42 #[.val (.int p0), .val (.int (2 : Int32)), .val (.ref (ad 4)), .val (.int (0 : Int32)), .val (.int (0 : Int32))] [])) _
    refine XS.iload X2.here hx rfl (hb hby at_42) rfl ?_
    show Steps p.tables e below (T2.setTop (mkF m 44 #[.val (.int p0), .val (.int (2 : Int32)), .val (.ref (ad 4)), .val (.int (0 : Int32)), .val (.int (0 : Int32))] [(.int (0 : Int32))])) _
    refine XS.ifYes X2.here hx rfl (pc0 := 44) (pc' := 56) rfl (hb hby at_44) rfl ((if0 _ _).trans (teq (by decide)).1) (by decide) (by decide) ?_
    show Steps p.tables e below (T2.setTop (mkF m 56 #[.val (.int p0), .val (.int (2 : Int32)), .val (.ref (ad 4)), .val (.int (0 : Int32)), .val (.int (0 : Int32))] [])) _
    refine XS.iconst X2.here hx rfl (hb hby at_56) ?_
    show Steps p.tables e below (T2.setTop (mkF m 57 #[.val (.int p0), .val (.int (2 : Int32)), .val (.ref (ad 4)), .val (.int (0 : Int32)), .val (.int (0 : Int32))] [(.int (1 : Int32))])) _
    exact retN X2 hx (t := .boolean) Bd.returns (by simp) (hb hby at_57) hr
  · exact ⟨rfl, N2⟩
theorem d1_26 : decode method_2_code 26 = .ok (.iload_n 0, 1) := by decide +kernel
theorem d1_27 : decode method_2_code 27 = .ok (.iconst 3, 1) := by decide +kernel
theorem d1_28 : decode method_2_code 28 = .ok (.if_icmp .ne 7, 3) := by decide +kernel
theorem d1_31 : decode method_2_code 31 = .ok (.getstatic 19, 3) := by decide +kernel
theorem d1_34 : decode method_2_code 34 = .ok (.areturn, 1) := by decide +kernel
set_option maxRecDepth 65536 in
set_option maxHeartbeats 40000000 in
theorem rm1_3 (l : Launch) (Z : State) (a0 : Array Value) (hw : ∀ d ∈ tables_1, d.before a0 Z = true) (ws : List Jvm.Cond) (ad : Nat → Addr) (NF : Facts Z ad) (h0 : Heap) (n0 : Nat) (Ol : Old Z n0 h0) :
    MetFree l (⟨"com/example/vestwright/vestwright/model/VestingBasisIsScheduleBasisPinLaw", "pick", "(I)Lcom/example/vestwright/vestwright/model/VestingBasis;"⟩ : MethodName) (head1 (Jvm.Cond.code (⟨"com/example/vestwright/vestwright/model/VestingBasisIsScheduleBasisPinLaw", "pick", "(I)Lcom/example/vestwright/vestwright/model/VestingBasis;"⟩ : MethodName) method_2_code 1 (some (.object "com/example/vestwright/vestwright/model/VestingBasis")) :: ws) ({ frames := 0, cells := 0, slots := 0, locals := 0 } : Room)) (fun a U => a = #[(.int (3 : Int32))] ∧ Z.Warmed39 U.vm ∧ U.heap = h0) (fun _ _ _ _ _ => True) (fun _ U o U' => ∃ v L, o = .returned v ∧ QS (.ref (ad 3)) h0 n0 v U'.heap L ∧ FrameEnd U o U' L ({ frames := 0, cells := 0, slots := 0, locals := 0 } : Room).cells ({ frames := 0, cells := 0, slots := 0, locals := 0 } : Room).slots) := by
  refine MetFree.of_bodySF (plainFor_of_name pn_1) hisR ?_
  intro p e s m args below meth c s₁ Bd hml0 hP hK
  obtain ⟨rfl, hZ, hh⟩ := hP
  have hx := Bd.exec
  have hby := Bd.bytes
  have hml : c.maxLocals = 1 := hml0
  have hown : s.vm.findClass "com/example/vestwright/vestwright/model/VestingBasisIsScheduleBasisPinLaw" = some m.cls := findClass_of_methodNamed Bd.named
  have X0 : Stand p l e ({ frames := 0, cells := 0, slots := 0, locals := 0 } : Room) s m #[(.int (3 : Int32))] below meth c s₁ [] 0 0 := Stand.of_body Bd
  have e0 : s₁.heap = h0 := by rw [← hh, Bd.state]; rfl
  have N0 := Fr.nil n0
  have pre0 : ∀ t, Steps p.tables e below (s₁.setTop (mkF m 0 #[.val (.int (3 : Int32))] [])) t → Steps p.tables e below (s₁.setTop (entryFrame m #[(.int (3 : Int32))] 1)) t := fun t k => castTop (ef_1_I m (3 : Int32)) k
  obtain ⟨T1, X1, e1, st1⟩ := getS2 X0 hx hZ hown (host := "") (Or.inl (hw _ (List.mem_of_getElem? (i := 25) rfl))) Via.refl e0 ((ft_15 NF).ext Ol.2) (g := (mkF m 31 #[.val (.int (3 : Int32))] [])) rfl (hb hby d1_31)
  obtain ⟨fs, hr, hrun, hended, hW, hsame⟩ := X1.leave (v := some (.ref (ad 3))) (fun h => by rw [Bd.returns] at h; cases h)
  refine ⟨_, _, pre0 _ ?_, hrun, hended, _, _, rfl, ?_, ⟨_, rfl⟩, hW, hsame.mono (by decide) (by decide)⟩
  · show Steps p.tables e below (s₁.setTop (mkF m 0 #[.val (.int (3 : Int32))] [])) _
    refine XS.iloadN X0.here hx rfl (hb hby d1_0) rfl ?_
    show Steps p.tables e below (s₁.setTop (mkF m 1 #[.val (.int (3 : Int32))] [(.int (3 : Int32))])) _
    refine XS.ifYes X0.here hx rfl (pc0 := 1) (pc' := 8) rfl (hb hby d1_1) rfl ((if0 _ _).trans (feq (by decide)).2) (by decide) (by decide) ?_
    show Steps p.tables e below (s₁.setTop (mkF m 8 #[.val (.int (3 : Int32))] [])) _
    refine XS.iloadN X0.here hx rfl (hb hby d1_8) rfl ?_
    show Steps p.tables e below (s₁.setTop (mkF m 9 #[.val (.int (3 : Int32))] [(.int (3 : Int32))])) _
    refine XS.iconst X0.here hx rfl (hb hby d1_9) ?_
    show Steps p.tables e below (s₁.setTop (mkF m 10 #[.val (.int (3 : Int32))] [(.int (1 : Int32)), (.int (3 : Int32))])) _
    refine XS.icmpYes X0.here hx rfl (pc0 := 10) (pc' := 17) rfl (hb hby d1_10) rfl (feq (by decide)).2 (by decide) (by decide) ?_
    show Steps p.tables e below (s₁.setTop (mkF m 17 #[.val (.int (3 : Int32))] [])) _
    refine XS.iloadN X0.here hx rfl (hb hby d1_17) rfl ?_
    show Steps p.tables e below (s₁.setTop (mkF m 18 #[.val (.int (3 : Int32))] [(.int (3 : Int32))])) _
    refine XS.iconst X0.here hx rfl (hb hby d1_18) ?_
    show Steps p.tables e below (s₁.setTop (mkF m 19 #[.val (.int (3 : Int32))] [(.int (2 : Int32)), (.int (3 : Int32))])) _
    refine XS.icmpYes X0.here hx rfl (pc0 := 19) (pc' := 26) rfl (hb hby d1_19) rfl (feq (by decide)).2 (by decide) (by decide) ?_
    show Steps p.tables e below (s₁.setTop (mkF m 26 #[.val (.int (3 : Int32))] [])) _
    refine XS.iloadN X0.here hx rfl (hb hby d1_26) rfl ?_
    show Steps p.tables e below (s₁.setTop (mkF m 27 #[.val (.int (3 : Int32))] [(.int (3 : Int32))])) _
    refine XS.iconst X0.here hx rfl (hb hby d1_27) ?_
    show Steps p.tables e below (s₁.setTop (mkF m 28 #[.val (.int (3 : Int32))] [(.int (3 : Int32)), (.int (3 : Int32))])) _
    refine XS.icmpNo X0.here hx rfl (hb hby d1_28) rfl (teq (by decide)).2 ?_
    show Steps p.tables e below (s₁.setTop (mkF m 31 #[.val (.int (3 : Int32))] [])) _
    refine st1 _ ?_
    show Steps p.tables e below (T1.setTop (mkF m 34 #[.val (.int (3 : Int32))] [(.ref (ad 3))])) _
    exact retOut X1 hx Bd.returns (by rfl) (Or.inr (Or.inr (Or.inr (Or.inr ⟨rfl, rfl, rfl⟩)))) (hb hby d1_34) hr
  · exact ⟨rfl, N0, e1⟩
set_option maxRecDepth 65536 in
set_option maxHeartbeats 40000000 in
theorem rm2_ad3 (l : Launch) (Z : State) (a0 : Array Value) (hw : ∀ d ∈ tables_1, d.before a0 Z = true) (ws : List Jvm.Cond) (ad : Nat → Addr) (NF : Facts Z ad) (h0 : Heap) (n0 : Nat) (Ol : Old Z n0 h0) :
    MetFree l (⟨"com/example/vestwright/vestwright/model/VestingBasis", "isScheduleBasis", "()Z"⟩ : MethodName) (head1 (Jvm.Cond.code (⟨"com/example/vestwright/vestwright/model/VestingBasis", "isScheduleBasis", "()Z"⟩ : MethodName) prog_81_method_4_code 1 (some .boolean) :: ws) ({ frames := 0, cells := 0, slots := 0, locals := 0 } : Room)) (fun a U => a = #[(.ref (ad 3))] ∧ Z.Warmed39 U.vm ∧ U.heap = h0) (fun _ _ _ _ _ => True) (fun _ U o U' => ∃ v L, o = .returned v ∧ QS (.int (0 : Int32)) h0 n0 v U'.heap L ∧ FrameEnd U o U' L ({ frames := 0, cells := 0, slots := 0, locals := 0 } : Room).cells ({ frames := 0, cells := 0, slots := 0, locals := 0 } : Room).slots) := by
  refine MetFree.of_bodySF (plainFor_of_name pn_2) hisR ?_
  intro p e s m args below meth c s₁ Bd hml0 hP hK
  obtain ⟨rfl, hZ, hh⟩ := hP
  have hx := Bd.exec
  have hby := Bd.bytes
  have hml : c.maxLocals = 1 := hml0
  have hown : s.vm.findClass "com/example/vestwright/vestwright/model/VestingBasis" = some m.cls := findClass_of_methodNamed Bd.named
  have X0 : Stand p l e ({ frames := 0, cells := 0, slots := 0, locals := 0 } : Room) s m #[(.ref (ad 3))] below meth c s₁ [] 0 0 := Stand.of_body Bd
  have e0 : s₁.heap = h0 := by rw [← hh, Bd.state]; rfl
  have N0 := Fr.nil n0
  have pre0 : ∀ t, Steps p.tables e below (s₁.setTop (mkF m 0 #[.val (.ref (ad 3))] [])) t → Steps p.tables e below (s₁.setTop (entryFrame m #[(.ref (ad 3))] 1)) t := fun t k => castTop (ef_2_R m (ad 3)) k
  obtain ⟨T1, X1, e1, st1⟩ := getF X0 hx hZ hown (host := "") (Or.inl (hw _ (List.mem_of_getElem? (i := 13) rfl))) Via.refl e0 ((ft_27 NF).ext Ol.2) (g := (mkF m 1 #[.val (.ref (ad 3))] [(.ref (ad 3))])) rfl rfl (hb hby d2_1)
  obtain ⟨T2, X2, e2, st2⟩ := getS2 X1 hx hZ hown (host := "") (Or.inl (hw _ (List.mem_of_getElem? (i := 17) rfl))) Via.refl e1 ((ft_13 NF).ext Ol.2) (g := (mkF m 4 #[.val (.ref (ad 3))] [(.ref (ad 2))])) rfl (hb hby d2_4)
  obtain ⟨fs, hr, hrun, hended, hW, hsame⟩ := X2.leave (v := some (.int (0 : Int32))) (fun h => by rw [Bd.returns] at h; cases h)
  refine ⟨_, _, pre0 _ ?_, hrun, hended, _, _, rfl, ?_, ⟨_, rfl⟩, hW, hsame.mono (by decide) (by decide)⟩
  · show Steps p.tables e below (s₁.setTop (mkF m 0 #[.val (.ref (ad 3))] [])) _
    refine XS.aloadN X0.here hx rfl (hb hby d2_0) rfl rfl ?_
    show Steps p.tables e below (s₁.setTop (mkF m 1 #[.val (.ref (ad 3))] [(.ref (ad 3))])) _
    refine st1 _ ?_
    show Steps p.tables e below (T1.setTop (mkF m 4 #[.val (.ref (ad 3))] [(.ref (ad 2))])) _
    refine st2 _ ?_
    show Steps p.tables e below (T2.setTop (mkF m 7 #[.val (.ref (ad 3))] [(.ref (ad 1)), (.ref (ad 2))])) _
    refine acmp X2 hx rfl (x := (.ref (ad 2))) (y := (.ref (ad 1))) rfl rfl (pc0 := 7) (pc' := 14) (same := false) rfl (hb hby d2_7) rfl (decide_eq_false (fun h => (Fld.ne (ft_26 NF) (ft_25 NF) (by decide)) (Value.ref.inj h))) (by decide) (by decide) ?_
    show Steps p.tables e below (T2.setTop (mkF m 14 #[.val (.ref (ad 3))] [])) _
    refine XS.iconst X2.here hx rfl (hb hby d2_14) ?_
    show Steps p.tables e below (T2.setTop (mkF m 15 #[.val (.ref (ad 3))] [(.int (0 : Int32))])) _
    exact retN X2 hx (t := .boolean) Bd.returns (by simp) (hb hby d2_15) hr
  · exact ⟨rfl, N0, e2⟩
set_option maxRecDepth 65536 in
set_option maxHeartbeats 40000000 in
theorem rm0_3 (l : Launch) (Z : State) (a0 : Array Value) (hw : ∀ d ∈ tables_1, d.before a0 Z = true) (ws : List Jvm.Cond) (ad : Nat → Addr) (NF : Facts Z ad) (h0 : Heap) (n0 : Nat) (Ol : Old Z n0 h0) (p0 : Int32) (hi : (p0 &&& (2147483647 : Int32)) % (9 : Int32) = (3 : Int32)) :
    MetFree l x (head1 (Jvm.Cond.code x code maxLocals ret :: ws) room_1) (fun a U => a = #[(.int p0)] ∧ Z.Warmed39 U.vm ∧ U.heap = h0) (fun _ _ _ _ _ => True) (fun _ U o U' => ∃ v L, o = .returned v ∧ QL n0 v U'.heap L ∧ FrameEnd U o U' L room_1.cells room_1.slots) := by
  refine MetFree.of_bodySF (plainFor_of_name pn_1) hisR ?_
  intro p e s m args below meth c s₁ Bd hml0 hP hK
  obtain ⟨rfl, hZ, hh⟩ := hP
  have hx := Bd.exec
  have hby := Bd.bytes
  have hml : c.maxLocals = 5 := hml0
  have hown : s.vm.findClass "com/example/vestwright/vestwright/model/VestingBasisIsScheduleBasisPinLaw" = some m.cls := findClass_of_methodNamed Bd.named
  have X0 : Stand p l e room_1 s m #[(.int p0)] below meth c s₁ [] 0 0 := Stand.of_body Bd
  have e0 : s₁.heap = h0 := by rw [← hh, Bd.state]; rfl
  have N0 := Fr.nil n0
  have pre0 : ∀ t, Steps p.tables e below (s₁.setTop (mkF m 0 #[.val (.int p0), .unset, .unset, .unset, .unset] [])) t → Steps p.tables e below (s₁.setTop (entryFrame m #[(.int p0)] maxLocals)) t := fun t k => castTop (ef_0_I m (p0)) k
  obtain ⟨_, _, ⟨T1, L1, k1, n1⟩, -, X1, ⟨Lc1, hQ1, l1, y1, z1⟩, st1⟩ := Jvm.LawKit.callS X0 hx (y := (⟨"com/example/vestwright/vestwright/model/VestingBasisIsScheduleBasisPinLaw", "pick", "(I)Lcom/example/vestwright/vestwright/model/VestingBasis;"⟩ : MethodName)) hown (mvT hZ (hw _ (List.mem_of_getElem? (i := 1) rfl))) (mvT hZ (hw _ (List.mem_of_getElem? (i := 2) rfl))) (mvT hZ (hw _ (List.mem_of_getElem? (i := 3) rfl))) (mvT hZ (hw _ (List.mem_of_getElem? (i := 4) rfl))) (by decide) (backOf (W := 0) (rm1_3 l Z a0 hw [] ad NF h0 n0 Ol) hZ (hw _ (List.mem_of_getElem? (i := 4) rfl)) (hw _ (List.mem_of_getElem? (i := 3) rfl)) (by decide) (by decide)) (g := (mkF m 9 #[.val (.int p0), .val (.int (3 : Int32)), .unset, .unset, .unset] [(.int (3 : Int32))])) rfl (by rw [hml]; rfl) (argsL := [(.int (3 : Int32))]) (rest := []) (lenOf pd_1 rfl) rfl (by show 2 * 0 + _ ≤ _; exact Nat.le_of_eq rfl) (hb hby at_9) (fun _ _ => ⟨rfl, e0, (by decide : 0 + 0 ≤ _), (by decide : 0 + 0 ≤ _)⟩)
  dsimp only [Pt.U, Pt.locs, Pt.cells, Pt.slots] at X1 l1 y1 z1 st1 hQ1
  subst l1 y1 z1
  obtain ⟨rfl, Nq1, e1⟩ := hQ1
  have N1 := Fr.app N0 Nq1
  obtain ⟨cq2, kq2, qa2, qb2, qc2⟩ := isOf hZ e1 ((ft_3 NF).ext Ol.2)
  obtain ⟨_, _, ⟨T2, L2, k2, n2⟩, -, X2, ⟨Lc2, hQ2, l2, y2, z2⟩, st2⟩ := X1.virtualBack hx (y := (⟨"com/example/vestwright/vestwright/model/VestingBasis", "isScheduleBasis", "()Z"⟩ : MethodName)) (z := (⟨"com/example/vestwright/vestwright/model/VestingBasis", "isScheduleBasis", "()Z"⟩ : MethodName)) hown (mvT hZ (hw _ (List.mem_of_getElem? (i := 8) rfl))) (mvT hZ (hw _ (List.mem_of_getElem? (i := 9) rfl))) (notFace_of_selects (args := #[]) (mvT hZ (hw _ (List.mem_of_getElem? (i := 11) rfl)))) (mvT hZ (hw _ (List.mem_of_getElem? (i := 11) rfl))) (mvT hZ (hw _ (List.mem_of_getElem? (i := 10) rfl))) (by decide) (backOf (W := 0) (rm2_ad3 l Z a0 hw [] ad NF h0 n0 Ol) hZ (hw _ (List.mem_of_getElem? (i := 12) rfl)) (hw _ (List.mem_of_getElem? (i := 6) rfl)) (by decide) (by decide)) qa2 qc2 (g := (mkF m 29 #[.val (.int p0), .val (.int (3 : Int32)), .val (.ref (ad 3)), .val (.int (0 : Int32)), .unset] [(.ref (ad 3))])) rfl (by rw [hml]; rfl) (Steps.refl _) (argsL := []) (rest := []) (lenOf pd_2 rfl) rfl (by show 2 * 0 + _ ≤ _; exact Nat.le_of_eq rfl) (hb hby at_29) (fun _ _ => ⟨rfl, e1, (by decide : 0 + 0 ≤ _), (by decide : 0 + 0 ≤ _)⟩)
  dsimp only [Pt.U, Pt.locs, Pt.cells, Pt.slots] at X2 l2 y2 z2 st2 hQ2
  subst l2 y2 z2
  obtain ⟨rfl, Nq2, e2⟩ := hQ2
  have N2 := Fr.app N1 Nq2
  obtain ⟨fs, hr, hrun, hended, hW, hsame⟩ := X2.leave (v := some (.int (1 : Int32))) (fun h => by rw [Bd.returns] at h; cases h)
  refine ⟨_, _, pre0 _ ?_, hrun, hended, _, _, rfl, ?_, ⟨_, rfl⟩, hW, hsame.mono (by decide) (by decide)⟩
  · show Steps p.tables e below (s₁.setTop (mkF m 0 #[.val (.int p0), .unset, .unset, .unset, .unset] [])) _
    refine XS.iloadN X0.here hx rfl (hb hby at_0) rfl ?_
    show Steps p.tables e below (s₁.setTop (mkF m 1 #[.val (.int p0), .unset, .unset, .unset, .unset] [(.int p0)])) _
    refine X0.ldcInt hx hown (mvT hZ (hw _ (List.mem_of_getElem? (i := 0) rfl))) (g := (mkF m 1 #[.val (.int p0), .unset, .unset, .unset, .unset] [(.int p0)])) rfl (hb hby at_1) _ ?_
    show Steps p.tables e below (s₁.setTop (mkF m 3 #[.val (.int p0), .unset, .unset, .unset, .unset] [(.int (2147483647 : Int32)), (.int p0)])) _
    refine XS.iand X0.here hx rfl (hb hby at_3) rfl ?_
    show Steps p.tables e below (s₁.setTop (mkF m 4 #[.val (.int p0), .unset, .unset, .unset, .unset] [(.int (p0 &&& (2147483647 : Int32)))])) _
    refine XS.bipush X0.here hx rfl (hb hby at_4) ?_
    show Steps p.tables e below (s₁.setTop (mkF m 6 #[.val (.int p0), .unset, .unset, .unset, .unset] [(.int (9 : Int32)), (.int (p0 &&& (2147483647 : Int32)))])) _
    refine iremM X0 hx rfl (hb hby at_6) rfl (by decide) ?_
    show Steps p.tables e below (s₁.setTop (mkF m 7 #[.val (.int p0), .unset, .unset, .unset, .unset] [(.int ((p0 &&& (2147483647 : Int32)) % (9 : Int32)))])) _
    rw [hi]
    show Steps p.tables e below (s₁.setTop (mkF m 7 #[.val (.int p0), .unset, .unset, .unset, .unset] [(.int (3 : Int32))])) _
    refine XS.istoreN X0.here hx rfl (hb hby at_7) rfl (l' := #[.val (.int p0), .val (.int (3 : Int32)), .unset, .unset, .unset]) rfl ?_
    show Steps p.tables e below (s₁.setTop (mkF m 8 #[.val (.int p0), .val (.int (3 : Int32)), .unset, .unset, .unset] [])) _
    refine XS.iloadN X0.here hx rfl (hb hby at_8) rfl ?_
    show Steps p.tables e below (s₁.setTop (mkF m 9 #[.val (.int p0), .val (.int (3 : Int32)), .unset, .unset, .unset] [(.int (3 : Int32))])) _
    refine st1 _ ?_
    show Steps p.tables e below (T1.setTop (mkF m 12 #[.val (.int p0), .val (.int (3 : Int32)), .unset, .unset, .unset] [(.ref (ad 3))])) _
    refine XS.astoreN X1.here hx rfl (hb hby at_12) rfl rfl (l' := #[.val (.int p0), .val (.int (3 : Int32)), .val (.ref (ad 3)), .unset, .unset]) rfl ?_
    show Steps p.tables e below (T1.setTop (mkF m 13 #[.val (.int p0), .val (.int (3 : Int32)), .val (.ref (ad 3)), .unset, .unset] [])) _
    refine XS.iloadN X1.here hx rfl (hb hby at_13) rfl ?_
    show Steps p.tables e below (T1.setTop (mkF m 14 #[.val (.int p0), .val (.int (3 : Int32)), .val (.ref (ad 3)), .unset, .unset] [(.int (3 : Int32))])) _
    refine XS.ifNo X1.here hx rfl (hb hby at_14) rfl ((if0 _ _).trans (feq (by decide)).1) ?_
    show Steps p.tables e below (T1.setTop (mkF m 17 #[.val (.int p0), .val (.int (3 : Int32)), .val (.ref (ad 3)), .unset, .unset] [])) _
    refine XS.iloadN X1.here hx rfl (hb hby at_17) rfl ?_
    show Steps p.tables e below (T1.setTop (mkF m 18 #[.val (.int p0), .val (.int (3 : Int32)), .val (.ref (ad 3)), .unset, .unset] [(.int (3 : Int32))])) _
    refine XS.iconst X1.here hx rfl (hb hby at_18) ?_
    show Steps p.tables e below (T1.setTop (mkF m 19 #[.val (.int p0), .val (.int (3 : Int32)), .val (.ref (ad 3)), .unset, .unset] [(.int (1 : Int32)), (.int (3 : Int32))])) _
    refine XS.icmpYes X1.here hx rfl (pc0 := 19) (pc' := 26) rfl (hb hby at_19) rfl (feq (by decide)).2 (by decide) (by decide) ?_
    show Steps p.tables e below (T1.setTop (mkF m 26 #[.val (.int p0), .val (.int (3 : Int32)), .val (.ref (ad 3)), .unset, .unset] [])) _
    refine XS.iconst X1.here hx rfl (hb hby at_26) ?_
    show Steps p.tables e below (T1.setTop (mkF m 27 #[.val (.int p0), .val (.int (3 : Int32)), .val (.ref (ad 3)), .unset, .unset] [(.int (0 : Int32))])) _
    refine XS.istoreN X1.here hx rfl (hb hby at_27) rfl (l' := #[.val (.int p0), .val (.int (3 : Int32)), .val (.ref (ad 3)), .val (.int (0 : Int32)), .unset]) rfl ?_
    show Steps p.tables e below (T1.setTop (mkF m 28 #[.val (.int p0), .val (.int (3 : Int32)), .val (.ref (ad 3)), .val (.int (0 : Int32)), .unset] [])) _
    refine XS.aloadN X1.here hx rfl (hb hby at_28) rfl rfl ?_
    show Steps p.tables e below (T1.setTop (mkF m 29 #[.val (.int p0), .val (.int (3 : Int32)), .val (.ref (ad 3)), .val (.int (0 : Int32)), .unset] [(.ref (ad 3))])) _
    refine st2.trans ?_
    show Steps p.tables e below (T2.setTop (mkF m 32 #[.val (.int p0), .val (.int (3 : Int32)), .val (.ref (ad 3)), .val (.int (0 : Int32)), .unset] [(.int (0 : Int32))])) _
    refine XS.istore X2.here hx rfl (hb hby at_32) rfl (l' := #[.val (.int p0), .val (.int (3 : Int32)), .val (.ref (ad 3)), .val (.int (0 : Int32)), .val (.int (0 : Int32))]) rfl ?_
    show Steps p.tables e below (T2.setTop (mkF m 34 #[.val (.int p0), .val (.int (3 : Int32)), .val (.ref (ad 3)), .val (.int (0 : Int32)), .val (.int (0 : Int32))] [])) _
    refine XS.iload X2.here hx rfl (hb hby at_34) rfl ?_
    show Steps p.tables e below (T2.setTop (mkF m 36 #[.val (.int p0), .val (.int (3 : Int32)), .val (.ref (ad 3)), .val (.int (0 : Int32)), .val (.int (0 : Int32))] [(.int (0 : Int32))])) _
    refine XS.iloadN X2.here hx rfl (hb hby at_36) rfl ?_
    show Steps p.tables e below (T2.setTop (mkF m 37 #[.val (.int p0), .val (.int (3 : Int32)), .val (.ref (ad 3)), .val (.int (0 : Int32)), .val (.int (0 : Int32))] [(.int (0 : Int32)), (.int (0 : Int32))])) _
    refine XS.icmpYes X2.here hx rfl (pc0 := 37) (pc' := 42) rfl (hb hby at_37) rfl (teq (by decide)).1 (by decide) (by decide) ?_
    show Steps p.tables e below (T2.setTop (mkF m 42 #[.val (.int p0), .val (.int (3 : Int32)), .val (.ref (ad 3)), .val (.int (0 : Int32)), .val (.int (0 : Int32))] [])) _
    refine XS.iload X2.here hx rfl (hb hby at_42) rfl ?_
    show Steps p.tables e below (T2.setTop (mkF m 44 #[.val (.int p0), .val (.int (3 : Int32)), .val (.ref (ad 3)), .val (.int (0 : Int32)), .val (.int (0 : Int32))] [(.int (0 : Int32))])) _
    refine XS.ifYes X2.here hx rfl (pc0 := 44) (pc' := 56) rfl (hb hby at_44) rfl ((if0 _ _).trans (teq (by decide)).1) (by decide) (by decide) ?_
    show Steps p.tables e below (T2.setTop (mkF m 56 #[.val (.int p0), .val (.int (3 : Int32)), .val (.ref (ad 3)), .val (.int (0 : Int32)), .val (.int (0 : Int32))] [])) _
    refine XS.iconst X2.here hx rfl (hb hby at_56) ?_
    show Steps p.tables e below (T2.setTop (mkF m 57 #[.val (.int p0), .val (.int (3 : Int32)), .val (.ref (ad 3)), .val (.int (0 : Int32)), .val (.int (0 : Int32))] [(.int (1 : Int32))])) _
    exact retN X2 hx (t := .boolean) Bd.returns (by simp) (hb hby at_57) hr
  · exact ⟨rfl, N2⟩
theorem d1_35 : decode method_2_code 35 = .ok (.iload_n 0, 1) := by decide +kernel
theorem d1_36 : decode method_2_code 36 = .ok (.iconst 4, 1) := by decide +kernel
theorem d1_37 : decode method_2_code 37 = .ok (.if_icmp .ne 7, 3) := by decide +kernel
theorem d1_40 : decode method_2_code 40 = .ok (.getstatic 22, 3) := by decide +kernel
theorem d1_43 : decode method_2_code 43 = .ok (.areturn, 1) := by decide +kernel
set_option maxRecDepth 65536 in
set_option maxHeartbeats 40000000 in
theorem rm1_4 (l : Launch) (Z : State) (a0 : Array Value) (hw : ∀ d ∈ tables_1, d.before a0 Z = true) (ws : List Jvm.Cond) (ad : Nat → Addr) (NF : Facts Z ad) (h0 : Heap) (n0 : Nat) (Ol : Old Z n0 h0) :
    MetFree l (⟨"com/example/vestwright/vestwright/model/VestingBasisIsScheduleBasisPinLaw", "pick", "(I)Lcom/example/vestwright/vestwright/model/VestingBasis;"⟩ : MethodName) (head1 (Jvm.Cond.code (⟨"com/example/vestwright/vestwright/model/VestingBasisIsScheduleBasisPinLaw", "pick", "(I)Lcom/example/vestwright/vestwright/model/VestingBasis;"⟩ : MethodName) method_2_code 1 (some (.object "com/example/vestwright/vestwright/model/VestingBasis")) :: ws) ({ frames := 0, cells := 0, slots := 0, locals := 0 } : Room)) (fun a U => a = #[(.int (4 : Int32))] ∧ Z.Warmed39 U.vm ∧ U.heap = h0) (fun _ _ _ _ _ => True) (fun _ U o U' => ∃ v L, o = .returned v ∧ QS (.ref (ad 7)) h0 n0 v U'.heap L ∧ FrameEnd U o U' L ({ frames := 0, cells := 0, slots := 0, locals := 0 } : Room).cells ({ frames := 0, cells := 0, slots := 0, locals := 0 } : Room).slots) := by
  refine MetFree.of_bodySF (plainFor_of_name pn_1) hisR ?_
  intro p e s m args below meth c s₁ Bd hml0 hP hK
  obtain ⟨rfl, hZ, hh⟩ := hP
  have hx := Bd.exec
  have hby := Bd.bytes
  have hml : c.maxLocals = 1 := hml0
  have hown : s.vm.findClass "com/example/vestwright/vestwright/model/VestingBasisIsScheduleBasisPinLaw" = some m.cls := findClass_of_methodNamed Bd.named
  have X0 : Stand p l e ({ frames := 0, cells := 0, slots := 0, locals := 0 } : Room) s m #[(.int (4 : Int32))] below meth c s₁ [] 0 0 := Stand.of_body Bd
  have e0 : s₁.heap = h0 := by rw [← hh, Bd.state]; rfl
  have N0 := Fr.nil n0
  have pre0 : ∀ t, Steps p.tables e below (s₁.setTop (mkF m 0 #[.val (.int (4 : Int32))] [])) t → Steps p.tables e below (s₁.setTop (entryFrame m #[(.int (4 : Int32))] 1)) t := fun t k => castTop (ef_1_I m (4 : Int32)) k
  obtain ⟨T1, X1, e1, st1⟩ := getS2 X0 hx hZ hown (host := "") (Or.inl (hw _ (List.mem_of_getElem? (i := 33) rfl))) Via.refl e0 ((ft_19 NF).ext Ol.2) (g := (mkF m 40 #[.val (.int (4 : Int32))] [])) rfl (hb hby d1_40)
  obtain ⟨fs, hr, hrun, hended, hW, hsame⟩ := X1.leave (v := some (.ref (ad 7))) (fun h => by rw [Bd.returns] at h; cases h)
  refine ⟨_, _, pre0 _ ?_, hrun, hended, _, _, rfl, ?_, ⟨_, rfl⟩, hW, hsame.mono (by decide) (by decide)⟩
  · show Steps p.tables e below (s₁.setTop (mkF m 0 #[.val (.int (4 : Int32))] [])) _
    refine XS.iloadN X0.here hx rfl (hb hby d1_0) rfl ?_
    show Steps p.tables e below (s₁.setTop (mkF m 1 #[.val (.int (4 : Int32))] [(.int (4 : Int32))])) _
    refine XS.ifYes X0.here hx rfl (pc0 := 1) (pc' := 8) rfl (hb hby d1_1) rfl ((if0 _ _).trans (feq (by decide)).2) (by decide) (by decide) ?_
    show Steps p.tables e below (s₁.setTop (mkF m 8 #[.val (.int (4 : Int32))] [])) _
    refine XS.iloadN X0.here hx rfl (hb hby d1_8) rfl ?_
    show Steps p.tables e below (s₁.setTop (mkF m 9 #[.val (.int (4 : Int32))] [(.int (4 : Int32))])) _
    refine XS.iconst X0.here hx rfl (hb hby d1_9) ?_
    show Steps p.tables e below (s₁.setTop (mkF m 10 #[.val (.int (4 : Int32))] [(.int (1 : Int32)), (.int (4 : Int32))])) _
    refine XS.icmpYes X0.here hx rfl (pc0 := 10) (pc' := 17) rfl (hb hby d1_10) rfl (feq (by decide)).2 (by decide) (by decide) ?_
    show Steps p.tables e below (s₁.setTop (mkF m 17 #[.val (.int (4 : Int32))] [])) _
    refine XS.iloadN X0.here hx rfl (hb hby d1_17) rfl ?_
    show Steps p.tables e below (s₁.setTop (mkF m 18 #[.val (.int (4 : Int32))] [(.int (4 : Int32))])) _
    refine XS.iconst X0.here hx rfl (hb hby d1_18) ?_
    show Steps p.tables e below (s₁.setTop (mkF m 19 #[.val (.int (4 : Int32))] [(.int (2 : Int32)), (.int (4 : Int32))])) _
    refine XS.icmpYes X0.here hx rfl (pc0 := 19) (pc' := 26) rfl (hb hby d1_19) rfl (feq (by decide)).2 (by decide) (by decide) ?_
    show Steps p.tables e below (s₁.setTop (mkF m 26 #[.val (.int (4 : Int32))] [])) _
    refine XS.iloadN X0.here hx rfl (hb hby d1_26) rfl ?_
    show Steps p.tables e below (s₁.setTop (mkF m 27 #[.val (.int (4 : Int32))] [(.int (4 : Int32))])) _
    refine XS.iconst X0.here hx rfl (hb hby d1_27) ?_
    show Steps p.tables e below (s₁.setTop (mkF m 28 #[.val (.int (4 : Int32))] [(.int (3 : Int32)), (.int (4 : Int32))])) _
    refine XS.icmpYes X0.here hx rfl (pc0 := 28) (pc' := 35) rfl (hb hby d1_28) rfl (feq (by decide)).2 (by decide) (by decide) ?_
    show Steps p.tables e below (s₁.setTop (mkF m 35 #[.val (.int (4 : Int32))] [])) _
    refine XS.iloadN X0.here hx rfl (hb hby d1_35) rfl ?_
    show Steps p.tables e below (s₁.setTop (mkF m 36 #[.val (.int (4 : Int32))] [(.int (4 : Int32))])) _
    refine XS.iconst X0.here hx rfl (hb hby d1_36) ?_
    show Steps p.tables e below (s₁.setTop (mkF m 37 #[.val (.int (4 : Int32))] [(.int (4 : Int32)), (.int (4 : Int32))])) _
    refine XS.icmpNo X0.here hx rfl (hb hby d1_37) rfl (teq (by decide)).2 ?_
    show Steps p.tables e below (s₁.setTop (mkF m 40 #[.val (.int (4 : Int32))] [])) _
    refine st1 _ ?_
    show Steps p.tables e below (T1.setTop (mkF m 43 #[.val (.int (4 : Int32))] [(.ref (ad 7))])) _
    exact retOut X1 hx Bd.returns (by rfl) (Or.inr (Or.inr (Or.inr (Or.inr ⟨rfl, rfl, rfl⟩)))) (hb hby d1_43) hr
  · exact ⟨rfl, N0, e1⟩
set_option maxRecDepth 65536 in
set_option maxHeartbeats 40000000 in
theorem rm2_ad7 (l : Launch) (Z : State) (a0 : Array Value) (hw : ∀ d ∈ tables_1, d.before a0 Z = true) (ws : List Jvm.Cond) (ad : Nat → Addr) (NF : Facts Z ad) (h0 : Heap) (n0 : Nat) (Ol : Old Z n0 h0) :
    MetFree l (⟨"com/example/vestwright/vestwright/model/VestingBasis", "isScheduleBasis", "()Z"⟩ : MethodName) (head1 (Jvm.Cond.code (⟨"com/example/vestwright/vestwright/model/VestingBasis", "isScheduleBasis", "()Z"⟩ : MethodName) prog_81_method_4_code 1 (some .boolean) :: ws) ({ frames := 0, cells := 0, slots := 0, locals := 0 } : Room)) (fun a U => a = #[(.ref (ad 7))] ∧ Z.Warmed39 U.vm ∧ U.heap = h0) (fun _ _ _ _ _ => True) (fun _ U o U' => ∃ v L, o = .returned v ∧ QS (.int (0 : Int32)) h0 n0 v U'.heap L ∧ FrameEnd U o U' L ({ frames := 0, cells := 0, slots := 0, locals := 0 } : Room).cells ({ frames := 0, cells := 0, slots := 0, locals := 0 } : Room).slots) := by
  refine MetFree.of_bodySF (plainFor_of_name pn_2) hisR ?_
  intro p e s m args below meth c s₁ Bd hml0 hP hK
  obtain ⟨rfl, hZ, hh⟩ := hP
  have hx := Bd.exec
  have hby := Bd.bytes
  have hml : c.maxLocals = 1 := hml0
  have hown : s.vm.findClass "com/example/vestwright/vestwright/model/VestingBasis" = some m.cls := findClass_of_methodNamed Bd.named
  have X0 : Stand p l e ({ frames := 0, cells := 0, slots := 0, locals := 0 } : Room) s m #[(.ref (ad 7))] below meth c s₁ [] 0 0 := Stand.of_body Bd
  have e0 : s₁.heap = h0 := by rw [← hh, Bd.state]; rfl
  have N0 := Fr.nil n0
  have pre0 : ∀ t, Steps p.tables e below (s₁.setTop (mkF m 0 #[.val (.ref (ad 7))] [])) t → Steps p.tables e below (s₁.setTop (entryFrame m #[(.ref (ad 7))] 1)) t := fun t k => castTop (ef_2_R m (ad 7)) k
  obtain ⟨T1, X1, e1, st1⟩ := getF X0 hx hZ hown (host := "") (Or.inl (hw _ (List.mem_of_getElem? (i := 13) rfl))) Via.refl e0 ((ft_31 NF).ext Ol.2) (g := (mkF m 1 #[.val (.ref (ad 7))] [(.ref (ad 7))])) rfl rfl (hb hby d2_1)
  obtain ⟨T2, X2, e2, st2⟩ := getS2 X1 hx hZ hown (host := "") (Or.inl (hw _ (List.mem_of_getElem? (i := 17) rfl))) Via.refl e1 ((ft_13 NF).ext Ol.2) (g := (mkF m 4 #[.val (.ref (ad 7))] [(.ref (ad 2))])) rfl (hb hby d2_4)
  obtain ⟨fs, hr, hrun, hended, hW, hsame⟩ := X2.leave (v := some (.int (0 : Int32))) (fun h => by rw [Bd.returns] at h; cases h)
  refine ⟨_, _, pre0 _ ?_, hrun, hended, _, _, rfl, ?_, ⟨_, rfl⟩, hW, hsame.mono (by decide) (by decide)⟩
  · show Steps p.tables e below (s₁.setTop (mkF m 0 #[.val (.ref (ad 7))] [])) _
    refine XS.aloadN X0.here hx rfl (hb hby d2_0) rfl rfl ?_
    show Steps p.tables e below (s₁.setTop (mkF m 1 #[.val (.ref (ad 7))] [(.ref (ad 7))])) _
    refine st1 _ ?_
    show Steps p.tables e below (T1.setTop (mkF m 4 #[.val (.ref (ad 7))] [(.ref (ad 2))])) _
    refine st2 _ ?_
    show Steps p.tables e below (T2.setTop (mkF m 7 #[.val (.ref (ad 7))] [(.ref (ad 1)), (.ref (ad 2))])) _
    refine acmp X2 hx rfl (x := (.ref (ad 2))) (y := (.ref (ad 1))) rfl rfl (pc0 := 7) (pc' := 14) (same := false) rfl (hb hby d2_7) rfl (decide_eq_false (fun h => (Fld.ne (ft_26 NF) (ft_25 NF) (by decide)) (Value.ref.inj h))) (by decide) (by decide) ?_
    show Steps p.tables e below (T2.setTop (mkF m 14 #[.val (.ref (ad 7))] [])) _
    refine XS.iconst X2.here hx rfl (hb hby d2_14) ?_
    show Steps p.tables e below (T2.setTop (mkF m 15 #[.val (.ref (ad 7))] [(.int (0 : Int32))])) _
    exact retN X2 hx (t := .boolean) Bd.returns (by simp) (hb hby d2_15) hr
  · exact ⟨rfl, N0, e2⟩
set_option maxRecDepth 65536 in
set_option maxHeartbeats 40000000 in
theorem rm0_4 (l : Launch) (Z : State) (a0 : Array Value) (hw : ∀ d ∈ tables_1, d.before a0 Z = true) (ws : List Jvm.Cond) (ad : Nat → Addr) (NF : Facts Z ad) (h0 : Heap) (n0 : Nat) (Ol : Old Z n0 h0) (p0 : Int32) (hi : (p0 &&& (2147483647 : Int32)) % (9 : Int32) = (4 : Int32)) :
    MetFree l x (head1 (Jvm.Cond.code x code maxLocals ret :: ws) room_1) (fun a U => a = #[(.int p0)] ∧ Z.Warmed39 U.vm ∧ U.heap = h0) (fun _ _ _ _ _ => True) (fun _ U o U' => ∃ v L, o = .returned v ∧ QL n0 v U'.heap L ∧ FrameEnd U o U' L room_1.cells room_1.slots) := by
  refine MetFree.of_bodySF (plainFor_of_name pn_1) hisR ?_
  intro p e s m args below meth c s₁ Bd hml0 hP hK
  obtain ⟨rfl, hZ, hh⟩ := hP
  have hx := Bd.exec
  have hby := Bd.bytes
  have hml : c.maxLocals = 5 := hml0
  have hown : s.vm.findClass "com/example/vestwright/vestwright/model/VestingBasisIsScheduleBasisPinLaw" = some m.cls := findClass_of_methodNamed Bd.named
  have X0 : Stand p l e room_1 s m #[(.int p0)] below meth c s₁ [] 0 0 := Stand.of_body Bd
  have e0 : s₁.heap = h0 := by rw [← hh, Bd.state]; rfl
  have N0 := Fr.nil n0
  have pre0 : ∀ t, Steps p.tables e below (s₁.setTop (mkF m 0 #[.val (.int p0), .unset, .unset, .unset, .unset] [])) t → Steps p.tables e below (s₁.setTop (entryFrame m #[(.int p0)] maxLocals)) t := fun t k => castTop (ef_0_I m (p0)) k
  obtain ⟨_, _, ⟨T1, L1, k1, n1⟩, -, X1, ⟨Lc1, hQ1, l1, y1, z1⟩, st1⟩ := Jvm.LawKit.callS X0 hx (y := (⟨"com/example/vestwright/vestwright/model/VestingBasisIsScheduleBasisPinLaw", "pick", "(I)Lcom/example/vestwright/vestwright/model/VestingBasis;"⟩ : MethodName)) hown (mvT hZ (hw _ (List.mem_of_getElem? (i := 1) rfl))) (mvT hZ (hw _ (List.mem_of_getElem? (i := 2) rfl))) (mvT hZ (hw _ (List.mem_of_getElem? (i := 3) rfl))) (mvT hZ (hw _ (List.mem_of_getElem? (i := 4) rfl))) (by decide) (backOf (W := 0) (rm1_4 l Z a0 hw [] ad NF h0 n0 Ol) hZ (hw _ (List.mem_of_getElem? (i := 4) rfl)) (hw _ (List.mem_of_getElem? (i := 3) rfl)) (by decide) (by decide)) (g := (mkF m 9 #[.val (.int p0), .val (.int (4 : Int32)), .unset, .unset, .unset] [(.int (4 : Int32))])) rfl (by rw [hml]; rfl) (argsL := [(.int (4 : Int32))]) (rest := []) (lenOf pd_1 rfl) rfl (by show 2 * 0 + _ ≤ _; exact Nat.le_of_eq rfl) (hb hby at_9) (fun _ _ => ⟨rfl, e0, (by decide : 0 + 0 ≤ _), (by decide : 0 + 0 ≤ _)⟩)
  dsimp only [Pt.U, Pt.locs, Pt.cells, Pt.slots] at X1 l1 y1 z1 st1 hQ1
  subst l1 y1 z1
  obtain ⟨rfl, Nq1, e1⟩ := hQ1
  have N1 := Fr.app N0 Nq1
  obtain ⟨cq2, kq2, qa2, qb2, qc2⟩ := isOf hZ e1 ((ft_7 NF).ext Ol.2)
  obtain ⟨_, _, ⟨T2, L2, k2, n2⟩, -, X2, ⟨Lc2, hQ2, l2, y2, z2⟩, st2⟩ := X1.virtualBack hx (y := (⟨"com/example/vestwright/vestwright/model/VestingBasis", "isScheduleBasis", "()Z"⟩ : MethodName)) (z := (⟨"com/example/vestwright/vestwright/model/VestingBasis", "isScheduleBasis", "()Z"⟩ : MethodName)) hown (mvT hZ (hw _ (List.mem_of_getElem? (i := 8) rfl))) (mvT hZ (hw _ (List.mem_of_getElem? (i := 9) rfl))) (notFace_of_selects (args := #[]) (mvT hZ (hw _ (List.mem_of_getElem? (i := 11) rfl)))) (mvT hZ (hw _ (List.mem_of_getElem? (i := 11) rfl))) (mvT hZ (hw _ (List.mem_of_getElem? (i := 10) rfl))) (by decide) (backOf (W := 0) (rm2_ad7 l Z a0 hw [] ad NF h0 n0 Ol) hZ (hw _ (List.mem_of_getElem? (i := 12) rfl)) (hw _ (List.mem_of_getElem? (i := 6) rfl)) (by decide) (by decide)) qa2 qc2 (g := (mkF m 29 #[.val (.int p0), .val (.int (4 : Int32)), .val (.ref (ad 7)), .val (.int (0 : Int32)), .unset] [(.ref (ad 7))])) rfl (by rw [hml]; rfl) (Steps.refl _) (argsL := []) (rest := []) (lenOf pd_2 rfl) rfl (by show 2 * 0 + _ ≤ _; exact Nat.le_of_eq rfl) (hb hby at_29) (fun _ _ => ⟨rfl, e1, (by decide : 0 + 0 ≤ _), (by decide : 0 + 0 ≤ _)⟩)
  dsimp only [Pt.U, Pt.locs, Pt.cells, Pt.slots] at X2 l2 y2 z2 st2 hQ2
  subst l2 y2 z2
  obtain ⟨rfl, Nq2, e2⟩ := hQ2
  have N2 := Fr.app N1 Nq2
  obtain ⟨fs, hr, hrun, hended, hW, hsame⟩ := X2.leave (v := some (.int (1 : Int32))) (fun h => by rw [Bd.returns] at h; cases h)
  refine ⟨_, _, pre0 _ ?_, hrun, hended, _, _, rfl, ?_, ⟨_, rfl⟩, hW, hsame.mono (by decide) (by decide)⟩
  · show Steps p.tables e below (s₁.setTop (mkF m 0 #[.val (.int p0), .unset, .unset, .unset, .unset] [])) _
    refine XS.iloadN X0.here hx rfl (hb hby at_0) rfl ?_
    show Steps p.tables e below (s₁.setTop (mkF m 1 #[.val (.int p0), .unset, .unset, .unset, .unset] [(.int p0)])) _
    refine X0.ldcInt hx hown (mvT hZ (hw _ (List.mem_of_getElem? (i := 0) rfl))) (g := (mkF m 1 #[.val (.int p0), .unset, .unset, .unset, .unset] [(.int p0)])) rfl (hb hby at_1) _ ?_
    show Steps p.tables e below (s₁.setTop (mkF m 3 #[.val (.int p0), .unset, .unset, .unset, .unset] [(.int (2147483647 : Int32)), (.int p0)])) _
    refine XS.iand X0.here hx rfl (hb hby at_3) rfl ?_
    show Steps p.tables e below (s₁.setTop (mkF m 4 #[.val (.int p0), .unset, .unset, .unset, .unset] [(.int (p0 &&& (2147483647 : Int32)))])) _
    refine XS.bipush X0.here hx rfl (hb hby at_4) ?_
    show Steps p.tables e below (s₁.setTop (mkF m 6 #[.val (.int p0), .unset, .unset, .unset, .unset] [(.int (9 : Int32)), (.int (p0 &&& (2147483647 : Int32)))])) _
    refine iremM X0 hx rfl (hb hby at_6) rfl (by decide) ?_
    show Steps p.tables e below (s₁.setTop (mkF m 7 #[.val (.int p0), .unset, .unset, .unset, .unset] [(.int ((p0 &&& (2147483647 : Int32)) % (9 : Int32)))])) _
    rw [hi]
    show Steps p.tables e below (s₁.setTop (mkF m 7 #[.val (.int p0), .unset, .unset, .unset, .unset] [(.int (4 : Int32))])) _
    refine XS.istoreN X0.here hx rfl (hb hby at_7) rfl (l' := #[.val (.int p0), .val (.int (4 : Int32)), .unset, .unset, .unset]) rfl ?_
    show Steps p.tables e below (s₁.setTop (mkF m 8 #[.val (.int p0), .val (.int (4 : Int32)), .unset, .unset, .unset] [])) _
    refine XS.iloadN X0.here hx rfl (hb hby at_8) rfl ?_
    show Steps p.tables e below (s₁.setTop (mkF m 9 #[.val (.int p0), .val (.int (4 : Int32)), .unset, .unset, .unset] [(.int (4 : Int32))])) _
    refine st1 _ ?_
    show Steps p.tables e below (T1.setTop (mkF m 12 #[.val (.int p0), .val (.int (4 : Int32)), .unset, .unset, .unset] [(.ref (ad 7))])) _
    refine XS.astoreN X1.here hx rfl (hb hby at_12) rfl rfl (l' := #[.val (.int p0), .val (.int (4 : Int32)), .val (.ref (ad 7)), .unset, .unset]) rfl ?_
    show Steps p.tables e below (T1.setTop (mkF m 13 #[.val (.int p0), .val (.int (4 : Int32)), .val (.ref (ad 7)), .unset, .unset] [])) _
    refine XS.iloadN X1.here hx rfl (hb hby at_13) rfl ?_
    show Steps p.tables e below (T1.setTop (mkF m 14 #[.val (.int p0), .val (.int (4 : Int32)), .val (.ref (ad 7)), .unset, .unset] [(.int (4 : Int32))])) _
    refine XS.ifNo X1.here hx rfl (hb hby at_14) rfl ((if0 _ _).trans (feq (by decide)).1) ?_
    show Steps p.tables e below (T1.setTop (mkF m 17 #[.val (.int p0), .val (.int (4 : Int32)), .val (.ref (ad 7)), .unset, .unset] [])) _
    refine XS.iloadN X1.here hx rfl (hb hby at_17) rfl ?_
    show Steps p.tables e below (T1.setTop (mkF m 18 #[.val (.int p0), .val (.int (4 : Int32)), .val (.ref (ad 7)), .unset, .unset] [(.int (4 : Int32))])) _
    refine XS.iconst X1.here hx rfl (hb hby at_18) ?_
    show Steps p.tables e below (T1.setTop (mkF m 19 #[.val (.int p0), .val (.int (4 : Int32)), .val (.ref (ad 7)), .unset, .unset] [(.int (1 : Int32)), (.int (4 : Int32))])) _
    refine XS.icmpYes X1.here hx rfl (pc0 := 19) (pc' := 26) rfl (hb hby at_19) rfl (feq (by decide)).2 (by decide) (by decide) ?_
    show Steps p.tables e below (T1.setTop (mkF m 26 #[.val (.int p0), .val (.int (4 : Int32)), .val (.ref (ad 7)), .unset, .unset] [])) _
    refine XS.iconst X1.here hx rfl (hb hby at_26) ?_
    show Steps p.tables e below (T1.setTop (mkF m 27 #[.val (.int p0), .val (.int (4 : Int32)), .val (.ref (ad 7)), .unset, .unset] [(.int (0 : Int32))])) _
    refine XS.istoreN X1.here hx rfl (hb hby at_27) rfl (l' := #[.val (.int p0), .val (.int (4 : Int32)), .val (.ref (ad 7)), .val (.int (0 : Int32)), .unset]) rfl ?_
    show Steps p.tables e below (T1.setTop (mkF m 28 #[.val (.int p0), .val (.int (4 : Int32)), .val (.ref (ad 7)), .val (.int (0 : Int32)), .unset] [])) _
    refine XS.aloadN X1.here hx rfl (hb hby at_28) rfl rfl ?_
    show Steps p.tables e below (T1.setTop (mkF m 29 #[.val (.int p0), .val (.int (4 : Int32)), .val (.ref (ad 7)), .val (.int (0 : Int32)), .unset] [(.ref (ad 7))])) _
    refine st2.trans ?_
    show Steps p.tables e below (T2.setTop (mkF m 32 #[.val (.int p0), .val (.int (4 : Int32)), .val (.ref (ad 7)), .val (.int (0 : Int32)), .unset] [(.int (0 : Int32))])) _
    refine XS.istore X2.here hx rfl (hb hby at_32) rfl (l' := #[.val (.int p0), .val (.int (4 : Int32)), .val (.ref (ad 7)), .val (.int (0 : Int32)), .val (.int (0 : Int32))]) rfl ?_
    show Steps p.tables e below (T2.setTop (mkF m 34 #[.val (.int p0), .val (.int (4 : Int32)), .val (.ref (ad 7)), .val (.int (0 : Int32)), .val (.int (0 : Int32))] [])) _
    refine XS.iload X2.here hx rfl (hb hby at_34) rfl ?_
    show Steps p.tables e below (T2.setTop (mkF m 36 #[.val (.int p0), .val (.int (4 : Int32)), .val (.ref (ad 7)), .val (.int (0 : Int32)), .val (.int (0 : Int32))] [(.int (0 : Int32))])) _
    refine XS.iloadN X2.here hx rfl (hb hby at_36) rfl ?_
    show Steps p.tables e below (T2.setTop (mkF m 37 #[.val (.int p0), .val (.int (4 : Int32)), .val (.ref (ad 7)), .val (.int (0 : Int32)), .val (.int (0 : Int32))] [(.int (0 : Int32)), (.int (0 : Int32))])) _
    refine XS.icmpYes X2.here hx rfl (pc0 := 37) (pc' := 42) rfl (hb hby at_37) rfl (teq (by decide)).1 (by decide) (by decide) ?_
    show Steps p.tables e below (T2.setTop (mkF m 42 #[.val (.int p0), .val (.int (4 : Int32)), .val (.ref (ad 7)), .val (.int (0 : Int32)), .val (.int (0 : Int32))] [])) _
    refine XS.iload X2.here hx rfl (hb hby at_42) rfl ?_
    show Steps p.tables e below (T2.setTop (mkF m 44 #[.val (.int p0), .val (.int (4 : Int32)), .val (.ref (ad 7)), .val (.int (0 : Int32)), .val (.int (0 : Int32))] [(.int (0 : Int32))])) _
    refine XS.ifYes X2.here hx rfl (pc0 := 44) (pc' := 56) rfl (hb hby at_44) rfl ((if0 _ _).trans (teq (by decide)).1) (by decide) (by decide) ?_
    show Steps p.tables e below (T2.setTop (mkF m 56 #[.val (.int p0), .val (.int (4 : Int32)), .val (.ref (ad 7)), .val (.int (0 : Int32)), .val (.int (0 : Int32))] [])) _
    refine XS.iconst X2.here hx rfl (hb hby at_56) ?_
    show Steps p.tables e below (T2.setTop (mkF m 57 #[.val (.int p0), .val (.int (4 : Int32)), .val (.ref (ad 7)), .val (.int (0 : Int32)), .val (.int (0 : Int32))] [(.int (1 : Int32))])) _
    exact retN X2 hx (t := .boolean) Bd.returns (by simp) (hb hby at_57) hr
  · exact ⟨rfl, N2⟩
theorem d1_44 : decode method_2_code 44 = .ok (.iload_n 0, 1) := by decide +kernel
theorem d1_45 : decode method_2_code 45 = .ok (.iconst 5, 1) := by decide +kernel
theorem d1_46 : decode method_2_code 46 = .ok (.if_icmp .ne 7, 3) := by decide +kernel
theorem d1_49 : decode method_2_code 49 = .ok (.getstatic 25, 3) := by decide +kernel
theorem d1_52 : decode method_2_code 52 = .ok (.areturn, 1) := by decide +kernel
set_option maxRecDepth 65536 in
set_option maxHeartbeats 40000000 in
theorem rm1_5 (l : Launch) (Z : State) (a0 : Array Value) (hw : ∀ d ∈ tables_1, d.before a0 Z = true) (ws : List Jvm.Cond) (ad : Nat → Addr) (NF : Facts Z ad) (h0 : Heap) (n0 : Nat) (Ol : Old Z n0 h0) :
    MetFree l (⟨"com/example/vestwright/vestwright/model/VestingBasisIsScheduleBasisPinLaw", "pick", "(I)Lcom/example/vestwright/vestwright/model/VestingBasis;"⟩ : MethodName) (head1 (Jvm.Cond.code (⟨"com/example/vestwright/vestwright/model/VestingBasisIsScheduleBasisPinLaw", "pick", "(I)Lcom/example/vestwright/vestwright/model/VestingBasis;"⟩ : MethodName) method_2_code 1 (some (.object "com/example/vestwright/vestwright/model/VestingBasis")) :: ws) ({ frames := 0, cells := 0, slots := 0, locals := 0 } : Room)) (fun a U => a = #[(.int (5 : Int32))] ∧ Z.Warmed39 U.vm ∧ U.heap = h0) (fun _ _ _ _ _ => True) (fun _ U o U' => ∃ v L, o = .returned v ∧ QS (.ref (ad 11)) h0 n0 v U'.heap L ∧ FrameEnd U o U' L ({ frames := 0, cells := 0, slots := 0, locals := 0 } : Room).cells ({ frames := 0, cells := 0, slots := 0, locals := 0 } : Room).slots) := by
  refine MetFree.of_bodySF (plainFor_of_name pn_1) hisR ?_
  intro p e s m args below meth c s₁ Bd hml0 hP hK
  obtain ⟨rfl, hZ, hh⟩ := hP
  have hx := Bd.exec
  have hby := Bd.bytes
  have hml : c.maxLocals = 1 := hml0
  have hown : s.vm.findClass "com/example/vestwright/vestwright/model/VestingBasisIsScheduleBasisPinLaw" = some m.cls := findClass_of_methodNamed Bd.named
  have X0 : Stand p l e ({ frames := 0, cells := 0, slots := 0, locals := 0 } : Room) s m #[(.int (5 : Int32))] below meth c s₁ [] 0 0 := Stand.of_body Bd
  have e0 : s₁.heap = h0 := by rw [← hh, Bd.state]; rfl
  have N0 := Fr.nil n0
  have pre0 : ∀ t, Steps p.tables e below (s₁.setTop (mkF m 0 #[.val (.int (5 : Int32))] [])) t → Steps p.tables e below (s₁.setTop (entryFrame m #[(.int (5 : Int32))] 1)) t := fun t k => castTop (ef_1_I m (5 : Int32)) k
  obtain ⟨T1, X1, e1, st1⟩ := getS2 X0 hx hZ hown (host := "") (Or.inl (hw _ (List.mem_of_getElem? (i := 40) rfl))) Via.refl e0 ((ft_23 NF).ext Ol.2) (g := (mkF m 49 #[.val (.int (5 : Int32))] [])) rfl (hb hby d1_49)
  obtain ⟨fs, hr, hrun, hended, hW, hsame⟩ := X1.leave (v := some (.ref (ad 11))) (fun h => by rw [Bd.returns] at h; cases h)
  refine ⟨_, _, pre0 _ ?_, hrun, hended, _, _, rfl, ?_, ⟨_, rfl⟩, hW, hsame.mono (by decide) (by decide)⟩
  · show Steps p.tables e below (s₁.setTop (mkF m 0 #[.val (.int (5 : Int32))] [])) _
    refine XS.iloadN X0.here hx rfl (hb hby d1_0) rfl ?_
    show Steps p.tables e below (s₁.setTop (mkF m 1 #[.val (.int (5 : Int32))] [(.int (5 : Int32))])) _
    refine XS.ifYes X0.here hx rfl (pc0 := 1) (pc' := 8) rfl (hb hby d1_1) rfl ((if0 _ _).trans (feq (by decide)).2) (by decide) (by decide) ?_
    show Steps p.tables e below (s₁.setTop (mkF m 8 #[.val (.int (5 : Int32))] [])) _
    refine XS.iloadN X0.here hx rfl (hb hby d1_8) rfl ?_
    show Steps p.tables e below (s₁.setTop (mkF m 9 #[.val (.int (5 : Int32))] [(.int (5 : Int32))])) _
    refine XS.iconst X0.here hx rfl (hb hby d1_9) ?_
    show Steps p.tables e below (s₁.setTop (mkF m 10 #[.val (.int (5 : Int32))] [(.int (1 : Int32)), (.int (5 : Int32))])) _
    refine XS.icmpYes X0.here hx rfl (pc0 := 10) (pc' := 17) rfl (hb hby d1_10) rfl (feq (by decide)).2 (by decide) (by decide) ?_
    show Steps p.tables e below (s₁.setTop (mkF m 17 #[.val (.int (5 : Int32))] [])) _
    refine XS.iloadN X0.here hx rfl (hb hby d1_17) rfl ?_
    show Steps p.tables e below (s₁.setTop (mkF m 18 #[.val (.int (5 : Int32))] [(.int (5 : Int32))])) _
    refine XS.iconst X0.here hx rfl (hb hby d1_18) ?_
    show Steps p.tables e below (s₁.setTop (mkF m 19 #[.val (.int (5 : Int32))] [(.int (2 : Int32)), (.int (5 : Int32))])) _
    refine XS.icmpYes X0.here hx rfl (pc0 := 19) (pc' := 26) rfl (hb hby d1_19) rfl (feq (by decide)).2 (by decide) (by decide) ?_
    show Steps p.tables e below (s₁.setTop (mkF m 26 #[.val (.int (5 : Int32))] [])) _
    refine XS.iloadN X0.here hx rfl (hb hby d1_26) rfl ?_
    show Steps p.tables e below (s₁.setTop (mkF m 27 #[.val (.int (5 : Int32))] [(.int (5 : Int32))])) _
    refine XS.iconst X0.here hx rfl (hb hby d1_27) ?_
    show Steps p.tables e below (s₁.setTop (mkF m 28 #[.val (.int (5 : Int32))] [(.int (3 : Int32)), (.int (5 : Int32))])) _
    refine XS.icmpYes X0.here hx rfl (pc0 := 28) (pc' := 35) rfl (hb hby d1_28) rfl (feq (by decide)).2 (by decide) (by decide) ?_
    show Steps p.tables e below (s₁.setTop (mkF m 35 #[.val (.int (5 : Int32))] [])) _
    refine XS.iloadN X0.here hx rfl (hb hby d1_35) rfl ?_
    show Steps p.tables e below (s₁.setTop (mkF m 36 #[.val (.int (5 : Int32))] [(.int (5 : Int32))])) _
    refine XS.iconst X0.here hx rfl (hb hby d1_36) ?_
    show Steps p.tables e below (s₁.setTop (mkF m 37 #[.val (.int (5 : Int32))] [(.int (4 : Int32)), (.int (5 : Int32))])) _
    refine XS.icmpYes X0.here hx rfl (pc0 := 37) (pc' := 44) rfl (hb hby d1_37) rfl (feq (by decide)).2 (by decide) (by decide) ?_
    show Steps p.tables e below (s₁.setTop (mkF m 44 #[.val (.int (5 : Int32))] [])) _
    refine XS.iloadN X0.here hx rfl (hb hby d1_44) rfl ?_
    show Steps p.tables e below (s₁.setTop (mkF m 45 #[.val (.int (5 : Int32))] [(.int (5 : Int32))])) _
    refine XS.iconst X0.here hx rfl (hb hby d1_45) ?_
    show Steps p.tables e below (s₁.setTop (mkF m 46 #[.val (.int (5 : Int32))] [(.int (5 : Int32)), (.int (5 : Int32))])) _
    refine XS.icmpNo X0.here hx rfl (hb hby d1_46) rfl (teq (by decide)).2 ?_
    show Steps p.tables e below (s₁.setTop (mkF m 49 #[.val (.int (5 : Int32))] [])) _
    refine st1 _ ?_
    show Steps p.tables e below (T1.setTop (mkF m 52 #[.val (.int (5 : Int32))] [(.ref (ad 11))])) _
    exact retOut X1 hx Bd.returns (by rfl) (Or.inr (Or.inr (Or.inr (Or.inr ⟨rfl, rfl, rfl⟩)))) (hb hby d1_52) hr
  · exact ⟨rfl, N0, e1⟩
set_option maxRecDepth 65536 in
set_option maxHeartbeats 40000000 in
theorem rm2_ad11 (l : Launch) (Z : State) (a0 : Array Value) (hw : ∀ d ∈ tables_1, d.before a0 Z = true) (ws : List Jvm.Cond) (ad : Nat → Addr) (NF : Facts Z ad) (h0 : Heap) (n0 : Nat) (Ol : Old Z n0 h0) :
    MetFree l (⟨"com/example/vestwright/vestwright/model/VestingBasis", "isScheduleBasis", "()Z"⟩ : MethodName) (head1 (Jvm.Cond.code (⟨"com/example/vestwright/vestwright/model/VestingBasis", "isScheduleBasis", "()Z"⟩ : MethodName) prog_81_method_4_code 1 (some .boolean) :: ws) ({ frames := 0, cells := 0, slots := 0, locals := 0 } : Room)) (fun a U => a = #[(.ref (ad 11))] ∧ Z.Warmed39 U.vm ∧ U.heap = h0) (fun _ _ _ _ _ => True) (fun _ U o U' => ∃ v L, o = .returned v ∧ QS (.int (0 : Int32)) h0 n0 v U'.heap L ∧ FrameEnd U o U' L ({ frames := 0, cells := 0, slots := 0, locals := 0 } : Room).cells ({ frames := 0, cells := 0, slots := 0, locals := 0 } : Room).slots) := by
  refine MetFree.of_bodySF (plainFor_of_name pn_2) hisR ?_
  intro p e s m args below meth c s₁ Bd hml0 hP hK
  obtain ⟨rfl, hZ, hh⟩ := hP
  have hx := Bd.exec
  have hby := Bd.bytes
  have hml : c.maxLocals = 1 := hml0
  have hown : s.vm.findClass "com/example/vestwright/vestwright/model/VestingBasis" = some m.cls := findClass_of_methodNamed Bd.named
  have X0 : Stand p l e ({ frames := 0, cells := 0, slots := 0, locals := 0 } : Room) s m #[(.ref (ad 11))] below meth c s₁ [] 0 0 := Stand.of_body Bd
  have e0 : s₁.heap = h0 := by rw [← hh, Bd.state]; rfl
  have N0 := Fr.nil n0
  have pre0 : ∀ t, Steps p.tables e below (s₁.setTop (mkF m 0 #[.val (.ref (ad 11))] [])) t → Steps p.tables e below (s₁.setTop (entryFrame m #[(.ref (ad 11))] 1)) t := fun t k => castTop (ef_2_R m (ad 11)) k
  obtain ⟨T1, X1, e1, st1⟩ := getF X0 hx hZ hown (host := "") (Or.inl (hw _ (List.mem_of_getElem? (i := 13) rfl))) Via.refl e0 ((ft_35 NF).ext Ol.2) (g := (mkF m 1 #[.val (.ref (ad 11))] [(.ref (ad 11))])) rfl rfl (hb hby d2_1)
  obtain ⟨T2, X2, e2, st2⟩ := getS2 X1 hx hZ hown (host := "") (Or.inl (hw _ (List.mem_of_getElem? (i := 17) rfl))) Via.refl e1 ((ft_13 NF).ext Ol.2) (g := (mkF m 4 #[.val (.ref (ad 11))] [(.ref (ad 2))])) rfl (hb hby d2_4)
  obtain ⟨fs, hr, hrun, hended, hW, hsame⟩ := X2.leave (v := some (.int (0 : Int32))) (fun h => by rw [Bd.returns] at h; cases h)
  refine ⟨_, _, pre0 _ ?_, hrun, hended, _, _, rfl, ?_, ⟨_, rfl⟩, hW, hsame.mono (by decide) (by decide)⟩
  · show Steps p.tables e below (s₁.setTop (mkF m 0 #[.val (.ref (ad 11))] [])) _
    refine XS.aloadN X0.here hx rfl (hb hby d2_0) rfl rfl ?_
    show Steps p.tables e below (s₁.setTop (mkF m 1 #[.val (.ref (ad 11))] [(.ref (ad 11))])) _
    refine st1 _ ?_
    show Steps p.tables e below (T1.setTop (mkF m 4 #[.val (.ref (ad 11))] [(.ref (ad 2))])) _
    refine st2 _ ?_
    show Steps p.tables e below (T2.setTop (mkF m 7 #[.val (.ref (ad 11))] [(.ref (ad 1)), (.ref (ad 2))])) _
    refine acmp X2 hx rfl (x := (.ref (ad 2))) (y := (.ref (ad 1))) rfl rfl (pc0 := 7) (pc' := 14) (same := false) rfl (hb hby d2_7) rfl (decide_eq_false (fun h => (Fld.ne (ft_26 NF) (ft_25 NF) (by decide)) (Value.ref.inj h))) (by decide) (by decide) ?_
    show Steps p.tables e below (T2.setTop (mkF m 14 #[.val (.ref (ad 11))] [])) _
    refine XS.iconst X2.here hx rfl (hb hby d2_14) ?_
    show Steps p.tables e below (T2.setTop (mkF m 15 #[.val (.ref (ad 11))] [(.int (0 : Int32))])) _
    exact retN X2 hx (t := .boolean) Bd.returns (by simp) (hb hby d2_15) hr
  · exact ⟨rfl, N0, e2⟩
set_option maxRecDepth 65536 in
set_option maxHeartbeats 40000000 in
theorem rm0_5 (l : Launch) (Z : State) (a0 : Array Value) (hw : ∀ d ∈ tables_1, d.before a0 Z = true) (ws : List Jvm.Cond) (ad : Nat → Addr) (NF : Facts Z ad) (h0 : Heap) (n0 : Nat) (Ol : Old Z n0 h0) (p0 : Int32) (hi : (p0 &&& (2147483647 : Int32)) % (9 : Int32) = (5 : Int32)) :
    MetFree l x (head1 (Jvm.Cond.code x code maxLocals ret :: ws) room_1) (fun a U => a = #[(.int p0)] ∧ Z.Warmed39 U.vm ∧ U.heap = h0) (fun _ _ _ _ _ => True) (fun _ U o U' => ∃ v L, o = .returned v ∧ QL n0 v U'.heap L ∧ FrameEnd U o U' L room_1.cells room_1.slots) := by
  refine MetFree.of_bodySF (plainFor_of_name pn_1) hisR ?_
  intro p e s m args below meth c s₁ Bd hml0 hP hK
  obtain ⟨rfl, hZ, hh⟩ := hP
  have hx := Bd.exec
  have hby := Bd.bytes
  have hml : c.maxLocals = 5 := hml0
  have hown : s.vm.findClass "com/example/vestwright/vestwright/model/VestingBasisIsScheduleBasisPinLaw" = some m.cls := findClass_of_methodNamed Bd.named
  have X0 : Stand p l e room_1 s m #[(.int p0)] below meth c s₁ [] 0 0 := Stand.of_body Bd
  have e0 : s₁.heap = h0 := by rw [← hh, Bd.state]; rfl
  have N0 := Fr.nil n0
  have pre0 : ∀ t, Steps p.tables e below (s₁.setTop (mkF m 0 #[.val (.int p0), .unset, .unset, .unset, .unset] [])) t → Steps p.tables e below (s₁.setTop (entryFrame m #[(.int p0)] maxLocals)) t := fun t k => castTop (ef_0_I m (p0)) k
  obtain ⟨_, _, ⟨T1, L1, k1, n1⟩, -, X1, ⟨Lc1, hQ1, l1, y1, z1⟩, st1⟩ := Jvm.LawKit.callS X0 hx (y := (⟨"com/example/vestwright/vestwright/model/VestingBasisIsScheduleBasisPinLaw", "pick", "(I)Lcom/example/vestwright/vestwright/model/VestingBasis;"⟩ : MethodName)) hown (mvT hZ (hw _ (List.mem_of_getElem? (i := 1) rfl))) (mvT hZ (hw _ (List.mem_of_getElem? (i := 2) rfl))) (mvT hZ (hw _ (List.mem_of_getElem? (i := 3) rfl))) (mvT hZ (hw _ (List.mem_of_getElem? (i := 4) rfl))) (by decide) (backOf (W := 0) (rm1_5 l Z a0 hw [] ad NF h0 n0 Ol) hZ (hw _ (List.mem_of_getElem? (i := 4) rfl)) (hw _ (List.mem_of_getElem? (i := 3) rfl)) (by decide) (by decide)) (g := (mkF m 9 #[.val (.int p0), .val (.int (5 : Int32)), .unset, .unset, .unset] [(.int (5 : Int32))])) rfl (by rw [hml]; rfl) (argsL := [(.int (5 : Int32))]) (rest := []) (lenOf pd_1 rfl) rfl (by show 2 * 0 + _ ≤ _; exact Nat.le_of_eq rfl) (hb hby at_9) (fun _ _ => ⟨rfl, e0, (by decide : 0 + 0 ≤ _), (by decide : 0 + 0 ≤ _)⟩)
  dsimp only [Pt.U, Pt.locs, Pt.cells, Pt.slots] at X1 l1 y1 z1 st1 hQ1
  subst l1 y1 z1
  obtain ⟨rfl, Nq1, e1⟩ := hQ1
  have N1 := Fr.app N0 Nq1
  obtain ⟨cq2, kq2, qa2, qb2, qc2⟩ := isOf hZ e1 ((ft_11 NF).ext Ol.2)
  obtain ⟨_, _, ⟨T2, L2, k2, n2⟩, -, X2, ⟨Lc2, hQ2, l2, y2, z2⟩, st2⟩ := X1.virtualBack hx (y := (⟨"com/example/vestwright/vestwright/model/VestingBasis", "isScheduleBasis", "()Z"⟩ : MethodName)) (z := (⟨"com/example/vestwright/vestwright/model/VestingBasis", "isScheduleBasis", "()Z"⟩ : MethodName)) hown (mvT hZ (hw _ (List.mem_of_getElem? (i := 8) rfl))) (mvT hZ (hw _ (List.mem_of_getElem? (i := 9) rfl))) (notFace_of_selects (args := #[]) (mvT hZ (hw _ (List.mem_of_getElem? (i := 11) rfl)))) (mvT hZ (hw _ (List.mem_of_getElem? (i := 11) rfl))) (mvT hZ (hw _ (List.mem_of_getElem? (i := 10) rfl))) (by decide) (backOf (W := 0) (rm2_ad11 l Z a0 hw [] ad NF h0 n0 Ol) hZ (hw _ (List.mem_of_getElem? (i := 12) rfl)) (hw _ (List.mem_of_getElem? (i := 6) rfl)) (by decide) (by decide)) qa2 qc2 (g := (mkF m 29 #[.val (.int p0), .val (.int (5 : Int32)), .val (.ref (ad 11)), .val (.int (0 : Int32)), .unset] [(.ref (ad 11))])) rfl (by rw [hml]; rfl) (Steps.refl _) (argsL := []) (rest := []) (lenOf pd_2 rfl) rfl (by show 2 * 0 + _ ≤ _; exact Nat.le_of_eq rfl) (hb hby at_29) (fun _ _ => ⟨rfl, e1, (by decide : 0 + 0 ≤ _), (by decide : 0 + 0 ≤ _)⟩)
  dsimp only [Pt.U, Pt.locs, Pt.cells, Pt.slots] at X2 l2 y2 z2 st2 hQ2
  subst l2 y2 z2
  obtain ⟨rfl, Nq2, e2⟩ := hQ2
  have N2 := Fr.app N1 Nq2
  obtain ⟨fs, hr, hrun, hended, hW, hsame⟩ := X2.leave (v := some (.int (1 : Int32))) (fun h => by rw [Bd.returns] at h; cases h)
  refine ⟨_, _, pre0 _ ?_, hrun, hended, _, _, rfl, ?_, ⟨_, rfl⟩, hW, hsame.mono (by decide) (by decide)⟩
  · show Steps p.tables e below (s₁.setTop (mkF m 0 #[.val (.int p0), .unset, .unset, .unset, .unset] [])) _
    refine XS.iloadN X0.here hx rfl (hb hby at_0) rfl ?_
    show Steps p.tables e below (s₁.setTop (mkF m 1 #[.val (.int p0), .unset, .unset, .unset, .unset] [(.int p0)])) _
    refine X0.ldcInt hx hown (mvT hZ (hw _ (List.mem_of_getElem? (i := 0) rfl))) (g := (mkF m 1 #[.val (.int p0), .unset, .unset, .unset, .unset] [(.int p0)])) rfl (hb hby at_1) _ ?_
    show Steps p.tables e below (s₁.setTop (mkF m 3 #[.val (.int p0), .unset, .unset, .unset, .unset] [(.int (2147483647 : Int32)), (.int p0)])) _
    refine XS.iand X0.here hx rfl (hb hby at_3) rfl ?_
    show Steps p.tables e below (s₁.setTop (mkF m 4 #[.val (.int p0), .unset, .unset, .unset, .unset] [(.int (p0 &&& (2147483647 : Int32)))])) _
    refine XS.bipush X0.here hx rfl (hb hby at_4) ?_
    show Steps p.tables e below (s₁.setTop (mkF m 6 #[.val (.int p0), .unset, .unset, .unset, .unset] [(.int (9 : Int32)), (.int (p0 &&& (2147483647 : Int32)))])) _
    refine iremM X0 hx rfl (hb hby at_6) rfl (by decide) ?_
    show Steps p.tables e below (s₁.setTop (mkF m 7 #[.val (.int p0), .unset, .unset, .unset, .unset] [(.int ((p0 &&& (2147483647 : Int32)) % (9 : Int32)))])) _
    rw [hi]
    show Steps p.tables e below (s₁.setTop (mkF m 7 #[.val (.int p0), .unset, .unset, .unset, .unset] [(.int (5 : Int32))])) _
    refine XS.istoreN X0.here hx rfl (hb hby at_7) rfl (l' := #[.val (.int p0), .val (.int (5 : Int32)), .unset, .unset, .unset]) rfl ?_
    show Steps p.tables e below (s₁.setTop (mkF m 8 #[.val (.int p0), .val (.int (5 : Int32)), .unset, .unset, .unset] [])) _
    refine XS.iloadN X0.here hx rfl (hb hby at_8) rfl ?_
    show Steps p.tables e below (s₁.setTop (mkF m 9 #[.val (.int p0), .val (.int (5 : Int32)), .unset, .unset, .unset] [(.int (5 : Int32))])) _
    refine st1 _ ?_
    show Steps p.tables e below (T1.setTop (mkF m 12 #[.val (.int p0), .val (.int (5 : Int32)), .unset, .unset, .unset] [(.ref (ad 11))])) _
    refine XS.astoreN X1.here hx rfl (hb hby at_12) rfl rfl (l' := #[.val (.int p0), .val (.int (5 : Int32)), .val (.ref (ad 11)), .unset, .unset]) rfl ?_
    show Steps p.tables e below (T1.setTop (mkF m 13 #[.val (.int p0), .val (.int (5 : Int32)), .val (.ref (ad 11)), .unset, .unset] [])) _
    refine XS.iloadN X1.here hx rfl (hb hby at_13) rfl ?_
    show Steps p.tables e below (T1.setTop (mkF m 14 #[.val (.int p0), .val (.int (5 : Int32)), .val (.ref (ad 11)), .unset, .unset] [(.int (5 : Int32))])) _
    refine XS.ifNo X1.here hx rfl (hb hby at_14) rfl ((if0 _ _).trans (feq (by decide)).1) ?_
    show Steps p.tables e below (T1.setTop (mkF m 17 #[.val (.int p0), .val (.int (5 : Int32)), .val (.ref (ad 11)), .unset, .unset] [])) _
    refine XS.iloadN X1.here hx rfl (hb hby at_17) rfl ?_
    show Steps p.tables e below (T1.setTop (mkF m 18 #[.val (.int p0), .val (.int (5 : Int32)), .val (.ref (ad 11)), .unset, .unset] [(.int (5 : Int32))])) _
    refine XS.iconst X1.here hx rfl (hb hby at_18) ?_
    show Steps p.tables e below (T1.setTop (mkF m 19 #[.val (.int p0), .val (.int (5 : Int32)), .val (.ref (ad 11)), .unset, .unset] [(.int (1 : Int32)), (.int (5 : Int32))])) _
    refine XS.icmpYes X1.here hx rfl (pc0 := 19) (pc' := 26) rfl (hb hby at_19) rfl (feq (by decide)).2 (by decide) (by decide) ?_
    show Steps p.tables e below (T1.setTop (mkF m 26 #[.val (.int p0), .val (.int (5 : Int32)), .val (.ref (ad 11)), .unset, .unset] [])) _
    refine XS.iconst X1.here hx rfl (hb hby at_26) ?_
    show Steps p.tables e below (T1.setTop (mkF m 27 #[.val (.int p0), .val (.int (5 : Int32)), .val (.ref (ad 11)), .unset, .unset] [(.int (0 : Int32))])) _
    refine XS.istoreN X1.here hx rfl (hb hby at_27) rfl (l' := #[.val (.int p0), .val (.int (5 : Int32)), .val (.ref (ad 11)), .val (.int (0 : Int32)), .unset]) rfl ?_
    show Steps p.tables e below (T1.setTop (mkF m 28 #[.val (.int p0), .val (.int (5 : Int32)), .val (.ref (ad 11)), .val (.int (0 : Int32)), .unset] [])) _
    refine XS.aloadN X1.here hx rfl (hb hby at_28) rfl rfl ?_
    show Steps p.tables e below (T1.setTop (mkF m 29 #[.val (.int p0), .val (.int (5 : Int32)), .val (.ref (ad 11)), .val (.int (0 : Int32)), .unset] [(.ref (ad 11))])) _
    refine st2.trans ?_
    show Steps p.tables e below (T2.setTop (mkF m 32 #[.val (.int p0), .val (.int (5 : Int32)), .val (.ref (ad 11)), .val (.int (0 : Int32)), .unset] [(.int (0 : Int32))])) _
    refine XS.istore X2.here hx rfl (hb hby at_32) rfl (l' := #[.val (.int p0), .val (.int (5 : Int32)), .val (.ref (ad 11)), .val (.int (0 : Int32)), .val (.int (0 : Int32))]) rfl ?_
    show Steps p.tables e below (T2.setTop (mkF m 34 #[.val (.int p0), .val (.int (5 : Int32)), .val (.ref (ad 11)), .val (.int (0 : Int32)), .val (.int (0 : Int32))] [])) _
    refine XS.iload X2.here hx rfl (hb hby at_34) rfl ?_
    show Steps p.tables e below (T2.setTop (mkF m 36 #[.val (.int p0), .val (.int (5 : Int32)), .val (.ref (ad 11)), .val (.int (0 : Int32)), .val (.int (0 : Int32))] [(.int (0 : Int32))])) _
    refine XS.iloadN X2.here hx rfl (hb hby at_36) rfl ?_
    show Steps p.tables e below (T2.setTop (mkF m 37 #[.val (.int p0), .val (.int (5 : Int32)), .val (.ref (ad 11)), .val (.int (0 : Int32)), .val (.int (0 : Int32))] [(.int (0 : Int32)), (.int (0 : Int32))])) _
    refine XS.icmpYes X2.here hx rfl (pc0 := 37) (pc' := 42) rfl (hb hby at_37) rfl (teq (by decide)).1 (by decide) (by decide) ?_
    show Steps p.tables e below (T2.setTop (mkF m 42 #[.val (.int p0), .val (.int (5 : Int32)), .val (.ref (ad 11)), .val (.int (0 : Int32)), .val (.int (0 : Int32))] [])) _
    refine XS.iload X2.here hx rfl (hb hby at_42) rfl ?_
    show Steps p.tables e below (T2.setTop (mkF m 44 #[.val (.int p0), .val (.int (5 : Int32)), .val (.ref (ad 11)), .val (.int (0 : Int32)), .val (.int (0 : Int32))] [(.int (0 : Int32))])) _
    refine XS.ifYes X2.here hx rfl (pc0 := 44) (pc' := 56) rfl (hb hby at_44) rfl ((if0 _ _).trans (teq (by decide)).1) (by decide) (by decide) ?_
    show Steps p.tables e below (T2.setTop (mkF m 56 #[.val (.int p0), .val (.int (5 : Int32)), .val (.ref (ad 11)), .val (.int (0 : Int32)), .val (.int (0 : Int32))] [])) _
    refine XS.iconst X2.here hx rfl (hb hby at_56) ?_
    show Steps p.tables e below (T2.setTop (mkF m 57 #[.val (.int p0), .val (.int (5 : Int32)), .val (.ref (ad 11)), .val (.int (0 : Int32)), .val (.int (0 : Int32))] [(.int (1 : Int32))])) _
    exact retN X2 hx (t := .boolean) Bd.returns (by simp) (hb hby at_57) hr
  · exact ⟨rfl, N2⟩
theorem d1_53 : decode method_2_code 53 = .ok (.iload_n 0, 1) := by decide +kernel
theorem d1_54 : decode method_2_code 54 = .ok (.bipush 6, 2) := by decide +kernel
theorem d1_56 : decode method_2_code 56 = .ok (.if_icmp .ne 7, 3) := by decide +kernel
theorem d1_59 : decode method_2_code 59 = .ok (.getstatic 28, 3) := by decide +kernel
theorem d1_62 : decode method_2_code 62 = .ok (.areturn, 1) := by decide +kernel
set_option maxRecDepth 65536 in
set_option maxHeartbeats 40000000 in
theorem rm1_6 (l : Launch) (Z : State) (a0 : Array Value) (hw : ∀ d ∈ tables_1, d.before a0 Z = true) (ws : List Jvm.Cond) (ad : Nat → Addr) (NF : Facts Z ad) (h0 : Heap) (n0 : Nat) (Ol : Old Z n0 h0) :
    MetFree l (⟨"com/example/vestwright/vestwright/model/VestingBasisIsScheduleBasisPinLaw", "pick", "(I)Lcom/example/vestwright/vestwright/model/VestingBasis;"⟩ : MethodName) (head1 (Jvm.Cond.code (⟨"com/example/vestwright/vestwright/model/VestingBasisIsScheduleBasisPinLaw", "pick", "(I)Lcom/example/vestwright/vestwright/model/VestingBasis;"⟩ : MethodName) method_2_code 1 (some (.object "com/example/vestwright/vestwright/model/VestingBasis")) :: ws) ({ frames := 0, cells := 0, slots := 0, locals := 0 } : Room)) (fun a U => a = #[(.int (6 : Int32))] ∧ Z.Warmed39 U.vm ∧ U.heap = h0) (fun _ _ _ _ _ => True) (fun _ U o U' => ∃ v L, o = .returned v ∧ QS (.ref (ad 10)) h0 n0 v U'.heap L ∧ FrameEnd U o U' L ({ frames := 0, cells := 0, slots := 0, locals := 0 } : Room).cells ({ frames := 0, cells := 0, slots := 0, locals := 0 } : Room).slots) := by
  refine MetFree.of_bodySF (plainFor_of_name pn_1) hisR ?_
  intro p e s m args below meth c s₁ Bd hml0 hP hK
  obtain ⟨rfl, hZ, hh⟩ := hP
  have hx := Bd.exec
  have hby := Bd.bytes
  have hml : c.maxLocals = 1 := hml0
  have hown : s.vm.findClass "com/example/vestwright/vestwright/model/VestingBasisIsScheduleBasisPinLaw" = some m.cls := findClass_of_methodNamed Bd.named
  have X0 : Stand p l e ({ frames := 0, cells := 0, slots := 0, locals := 0 } : Room) s m #[(.int (6 : Int32))] below meth c s₁ [] 0 0 := Stand.of_body Bd
  have e0 : s₁.heap = h0 := by rw [← hh, Bd.state]; rfl
  have N0 := Fr.nil n0
  have pre0 : ∀ t, Steps p.tables e below (s₁.setTop (mkF m 0 #[.val (.int (6 : Int32))] [])) t → Steps p.tables e below (s₁.setTop (entryFrame m #[(.int (6 : Int32))] 1)) t := fun t k => castTop (ef_1_I m (6 : Int32)) k
  obtain ⟨T1, X1, e1, st1⟩ := getS2 X0 hx hZ hown (host := "") (Or.inl (hw _ (List.mem_of_getElem? (i := 38) rfl))) Via.refl e0 ((ft_22 NF).ext Ol.2) (g := (mkF m 59 #[.val (.int (6 : Int32))] [])) rfl (hb hby d1_59)
  obtain ⟨fs, hr, hrun, hended, hW, hsame⟩ := X1.leave (v := some (.ref (ad 10))) (fun h => by rw [Bd.returns] at h; cases h)
  refine ⟨_, _, pre0 _ ?_, hrun, hended, _, _, rfl, ?_, ⟨_, rfl⟩, hW, hsame.mono (by decide) (by decide)⟩
  · show Steps p.tables e below (s₁.setTop (mkF m 0 #[.val (.int (6 : Int32))] [])) _
    refine XS.iloadN X0.here hx rfl (hb hby d1_0) rfl ?_
    show Steps p.tables e below (s₁.setTop (mkF m 1 #[.val (.int (6 : Int32))] [(.int (6 : Int32))])) _
    refine XS.ifYes X0.here hx rfl (pc0 := 1) (pc' := 8) rfl (hb hby d1_1) rfl ((if0 _ _).trans (feq (by decide)).2) (by decide) (by decide) ?_
    show Steps p.tables e below (s₁.setTop (mkF m 8 #[.val (.int (6 : Int32))] [])) _
    refine XS.iloadN X0.here hx rfl (hb hby d1_8) rfl ?_
    show Steps p.tables e below (s₁.setTop (mkF m 9 #[.val (.int (6 : Int32))] [(.int (6 : Int32))])) _
    refine XS.iconst X0.here hx rfl (hb hby d1_9) ?_
    show Steps p.tables e below (s₁.setTop (mkF m 10 #[.val (.int (6 : Int32))] [(.int (1 : Int32)), (.int (6 : Int32))])) _
    refine XS.icmpYes X0.here hx rfl (pc0 := 10) (pc' := 17) rfl (hb hby d1_10) rfl (feq (by decide)).2 (by decide) (by decide) ?_
    show Steps p.tables e below (s₁.setTop (mkF m 17 #[.val (.int (6 : Int32))] [])) _
    refine XS.iloadN X0.here hx rfl (hb hby d1_17) rfl ?_
    show Steps p.tables e below (s₁.setTop (mkF m 18 #[.val (.int (6 : Int32))] [(.int (6 : Int32))])) _
    refine XS.iconst X0.here hx rfl (hb hby d1_18) ?_
    show Steps p.tables e below (s₁.setTop (mkF m 19 #[.val (.int (6 : Int32))] [(.int (2 : Int32)), (.int (6 : Int32))])) _
    refine XS.icmpYes X0.here hx rfl (pc0 := 19) (pc' := 26) rfl (hb hby d1_19) rfl (feq (by decide)).2 (by decide) (by decide) ?_
    show Steps p.tables e below (s₁.setTop (mkF m 26 #[.val (.int (6 : Int32))] [])) _
    refine XS.iloadN X0.here hx rfl (hb hby d1_26) rfl ?_
    show Steps p.tables e below (s₁.setTop (mkF m 27 #[.val (.int (6 : Int32))] [(.int (6 : Int32))])) _
    refine XS.iconst X0.here hx rfl (hb hby d1_27) ?_
    show Steps p.tables e below (s₁.setTop (mkF m 28 #[.val (.int (6 : Int32))] [(.int (3 : Int32)), (.int (6 : Int32))])) _
    refine XS.icmpYes X0.here hx rfl (pc0 := 28) (pc' := 35) rfl (hb hby d1_28) rfl (feq (by decide)).2 (by decide) (by decide) ?_
    show Steps p.tables e below (s₁.setTop (mkF m 35 #[.val (.int (6 : Int32))] [])) _
    refine XS.iloadN X0.here hx rfl (hb hby d1_35) rfl ?_
    show Steps p.tables e below (s₁.setTop (mkF m 36 #[.val (.int (6 : Int32))] [(.int (6 : Int32))])) _
    refine XS.iconst X0.here hx rfl (hb hby d1_36) ?_
    show Steps p.tables e below (s₁.setTop (mkF m 37 #[.val (.int (6 : Int32))] [(.int (4 : Int32)), (.int (6 : Int32))])) _
    refine XS.icmpYes X0.here hx rfl (pc0 := 37) (pc' := 44) rfl (hb hby d1_37) rfl (feq (by decide)).2 (by decide) (by decide) ?_
    show Steps p.tables e below (s₁.setTop (mkF m 44 #[.val (.int (6 : Int32))] [])) _
    refine XS.iloadN X0.here hx rfl (hb hby d1_44) rfl ?_
    show Steps p.tables e below (s₁.setTop (mkF m 45 #[.val (.int (6 : Int32))] [(.int (6 : Int32))])) _
    refine XS.iconst X0.here hx rfl (hb hby d1_45) ?_
    show Steps p.tables e below (s₁.setTop (mkF m 46 #[.val (.int (6 : Int32))] [(.int (5 : Int32)), (.int (6 : Int32))])) _
    refine XS.icmpYes X0.here hx rfl (pc0 := 46) (pc' := 53) rfl (hb hby d1_46) rfl (feq (by decide)).2 (by decide) (by decide) ?_
    show Steps p.tables e below (s₁.setTop (mkF m 53 #[.val (.int (6 : Int32))] [])) _
    refine XS.iloadN X0.here hx rfl (hb hby d1_53) rfl ?_
    show Steps p.tables e below (s₁.setTop (mkF m 54 #[.val (.int (6 : Int32))] [(.int (6 : Int32))])) _
    refine XS.bipush X0.here hx rfl (hb hby d1_54) ?_
    show Steps p.tables e below (s₁.setTop (mkF m 56 #[.val (.int (6 : Int32))] [(.int (6 : Int32)), (.int (6 : Int32))])) _
    refine XS.icmpNo X0.here hx rfl (hb hby d1_56) rfl (teq (by decide)).2 ?_
    show Steps p.tables e below (s₁.setTop (mkF m 59 #[.val (.int (6 : Int32))] [])) _
    refine st1 _ ?_
    show Steps p.tables e below (T1.setTop (mkF m 62 #[.val (.int (6 : Int32))] [(.ref (ad 10))])) _
    exact retOut X1 hx Bd.returns (by rfl) (Or.inr (Or.inr (Or.inr (Or.inr ⟨rfl, rfl, rfl⟩)))) (hb hby d1_62) hr
  · exact ⟨rfl, N0, e1⟩
set_option maxRecDepth 65536 in
set_option maxHeartbeats 40000000 in
theorem rm2_ad10 (l : Launch) (Z : State) (a0 : Array Value) (hw : ∀ d ∈ tables_1, d.before a0 Z = true) (ws : List Jvm.Cond) (ad : Nat → Addr) (NF : Facts Z ad) (h0 : Heap) (n0 : Nat) (Ol : Old Z n0 h0) :
    MetFree l (⟨"com/example/vestwright/vestwright/model/VestingBasis", "isScheduleBasis", "()Z"⟩ : MethodName) (head1 (Jvm.Cond.code (⟨"com/example/vestwright/vestwright/model/VestingBasis", "isScheduleBasis", "()Z"⟩ : MethodName) prog_81_method_4_code 1 (some .boolean) :: ws) ({ frames := 0, cells := 0, slots := 0, locals := 0 } : Room)) (fun a U => a = #[(.ref (ad 10))] ∧ Z.Warmed39 U.vm ∧ U.heap = h0) (fun _ _ _ _ _ => True) (fun _ U o U' => ∃ v L, o = .returned v ∧ QS (.int (0 : Int32)) h0 n0 v U'.heap L ∧ FrameEnd U o U' L ({ frames := 0, cells := 0, slots := 0, locals := 0 } : Room).cells ({ frames := 0, cells := 0, slots := 0, locals := 0 } : Room).slots) := by
  refine MetFree.of_bodySF (plainFor_of_name pn_2) hisR ?_
  intro p e s m args below meth c s₁ Bd hml0 hP hK
  obtain ⟨rfl, hZ, hh⟩ := hP
  have hx := Bd.exec
  have hby := Bd.bytes
  have hml : c.maxLocals = 1 := hml0
  have hown : s.vm.findClass "com/example/vestwright/vestwright/model/VestingBasis" = some m.cls := findClass_of_methodNamed Bd.named
  have X0 : Stand p l e ({ frames := 0, cells := 0, slots := 0, locals := 0 } : Room) s m #[(.ref (ad 10))] below meth c s₁ [] 0 0 := Stand.of_body Bd
  have e0 : s₁.heap = h0 := by rw [← hh, Bd.state]; rfl
  have N0 := Fr.nil n0
  have pre0 : ∀ t, Steps p.tables e below (s₁.setTop (mkF m 0 #[.val (.ref (ad 10))] [])) t → Steps p.tables e below (s₁.setTop (entryFrame m #[(.ref (ad 10))] 1)) t := fun t k => castTop (ef_2_R m (ad 10)) k
  obtain ⟨T1, X1, e1, st1⟩ := getF X0 hx hZ hown (host := "") (Or.inl (hw _ (List.mem_of_getElem? (i := 13) rfl))) Via.refl e0 ((ft_34 NF).ext Ol.2) (g := (mkF m 1 #[.val (.ref (ad 10))] [(.ref (ad 10))])) rfl rfl (hb hby d2_1)
  obtain ⟨T2, X2, e2, st2⟩ := getS2 X1 hx hZ hown (host := "") (Or.inl (hw _ (List.mem_of_getElem? (i := 17) rfl))) Via.refl e1 ((ft_13 NF).ext Ol.2) (g := (mkF m 4 #[.val (.ref (ad 10))] [(.ref (ad 2))])) rfl (hb hby d2_4)
  obtain ⟨fs, hr, hrun, hended, hW, hsame⟩ := X2.leave (v := some (.int (0 : Int32))) (fun h => by rw [Bd.returns] at h; cases h)
  refine ⟨_, _, pre0 _ ?_, hrun, hended, _, _, rfl, ?_, ⟨_, rfl⟩, hW, hsame.mono (by decide) (by decide)⟩
  · show Steps p.tables e below (s₁.setTop (mkF m 0 #[.val (.ref (ad 10))] [])) _
    refine XS.aloadN X0.here hx rfl (hb hby d2_0) rfl rfl ?_
    show Steps p.tables e below (s₁.setTop (mkF m 1 #[.val (.ref (ad 10))] [(.ref (ad 10))])) _
    refine st1 _ ?_
    show Steps p.tables e below (T1.setTop (mkF m 4 #[.val (.ref (ad 10))] [(.ref (ad 2))])) _
    refine st2 _ ?_
    show Steps p.tables e below (T2.setTop (mkF m 7 #[.val (.ref (ad 10))] [(.ref (ad 1)), (.ref (ad 2))])) _
    refine acmp X2 hx rfl (x := (.ref (ad 2))) (y := (.ref (ad 1))) rfl rfl (pc0 := 7) (pc' := 14) (same := false) rfl (hb hby d2_7) rfl (decide_eq_false (fun h => (Fld.ne (ft_26 NF) (ft_25 NF) (by decide)) (Value.ref.inj h))) (by decide) (by decide) ?_
    show Steps p.tables e below (T2.setTop (mkF m 14 #[.val (.ref (ad 10))] [])) _
    refine XS.iconst X2.here hx rfl (hb hby d2_14) ?_
    show Steps p.tables e below (T2.setTop (mkF m 15 #[.val (.ref (ad 10))] [(.int (0 : Int32))])) _
    exact retN X2 hx (t := .boolean) Bd.returns (by simp) (hb hby d2_15) hr
  · exact ⟨rfl, N0, e2⟩
set_option maxRecDepth 65536 in
set_option maxHeartbeats 40000000 in
theorem rm0_6 (l : Launch) (Z : State) (a0 : Array Value) (hw : ∀ d ∈ tables_1, d.before a0 Z = true) (ws : List Jvm.Cond) (ad : Nat → Addr) (NF : Facts Z ad) (h0 : Heap) (n0 : Nat) (Ol : Old Z n0 h0) (p0 : Int32) (hi : (p0 &&& (2147483647 : Int32)) % (9 : Int32) = (6 : Int32)) :
    MetFree l x (head1 (Jvm.Cond.code x code maxLocals ret :: ws) room_1) (fun a U => a = #[(.int p0)] ∧ Z.Warmed39 U.vm ∧ U.heap = h0) (fun _ _ _ _ _ => True) (fun _ U o U' => ∃ v L, o = .returned v ∧ QL n0 v U'.heap L ∧ FrameEnd U o U' L room_1.cells room_1.slots) := by
  refine MetFree.of_bodySF (plainFor_of_name pn_1) hisR ?_
  intro p e s m args below meth c s₁ Bd hml0 hP hK
  obtain ⟨rfl, hZ, hh⟩ := hP
  have hx := Bd.exec
  have hby := Bd.bytes
  have hml : c.maxLocals = 5 := hml0
  have hown : s.vm.findClass "com/example/vestwright/vestwright/model/VestingBasisIsScheduleBasisPinLaw" = some m.cls := findClass_of_methodNamed Bd.named
  have X0 : Stand p l e room_1 s m #[(.int p0)] below meth c s₁ [] 0 0 := Stand.of_body Bd
  have e0 : s₁.heap = h0 := by rw [← hh, Bd.state]; rfl
  have N0 := Fr.nil n0
  have pre0 : ∀ t, Steps p.tables e below (s₁.setTop (mkF m 0 #[.val (.int p0), .unset, .unset, .unset, .unset] [])) t → Steps p.tables e below (s₁.setTop (entryFrame m #[(.int p0)] maxLocals)) t := fun t k => castTop (ef_0_I m (p0)) k
  obtain ⟨_, _, ⟨T1, L1, k1, n1⟩, -, X1, ⟨Lc1, hQ1, l1, y1, z1⟩, st1⟩ := Jvm.LawKit.callS X0 hx (y := (⟨"com/example/vestwright/vestwright/model/VestingBasisIsScheduleBasisPinLaw", "pick", "(I)Lcom/example/vestwright/vestwright/model/VestingBasis;"⟩ : MethodName)) hown (mvT hZ (hw _ (List.mem_of_getElem? (i := 1) rfl))) (mvT hZ (hw _ (List.mem_of_getElem? (i := 2) rfl))) (mvT hZ (hw _ (List.mem_of_getElem? (i := 3) rfl))) (mvT hZ (hw _ (List.mem_of_getElem? (i := 4) rfl))) (by decide) (backOf (W := 0) (rm1_6 l Z a0 hw [] ad NF h0 n0 Ol) hZ (hw _ (List.mem_of_getElem? (i := 4) rfl)) (hw _ (List.mem_of_getElem? (i := 3) rfl)) (by decide) (by decide)) (g := (mkF m 9 #[.val (.int p0), .val (.int (6 : Int32)), .unset, .unset, .unset] [(.int (6 : Int32))])) rfl (by rw [hml]; rfl) (argsL := [(.int (6 : Int32))]) (rest := []) (lenOf pd_1 rfl) rfl (by show 2 * 0 + _ ≤ _; exact Nat.le_of_eq rfl) (hb hby at_9) (fun _ _ => ⟨rfl, e0, (by decide : 0 + 0 ≤ _), (by decide : 0 + 0 ≤ _)⟩)
  dsimp only [Pt.U, Pt.locs, Pt.cells, Pt.slots] at X1 l1 y1 z1 st1 hQ1
  subst l1 y1 z1
  obtain ⟨rfl, Nq1, e1⟩ := hQ1
  have N1 := Fr.app N0 Nq1
  obtain ⟨cq2, kq2, qa2, qb2, qc2⟩ := isOf hZ e1 ((ft_10 NF).ext Ol.2)
  obtain ⟨_, _, ⟨T2, L2, k2, n2⟩, -, X2, ⟨Lc2, hQ2, l2, y2, z2⟩, st2⟩ := X1.virtualBack hx (y := (⟨"com/example/vestwright/vestwright/model/VestingBasis", "isScheduleBasis", "()Z"⟩ : MethodName)) (z := (⟨"com/example/vestwright/vestwright/model/VestingBasis", "isScheduleBasis", "()Z"⟩ : MethodName)) hown (mvT hZ (hw _ (List.mem_of_getElem? (i := 8) rfl))) (mvT hZ (hw _ (List.mem_of_getElem? (i := 9) rfl))) (notFace_of_selects (args := #[]) (mvT hZ (hw _ (List.mem_of_getElem? (i := 11) rfl)))) (mvT hZ (hw _ (List.mem_of_getElem? (i := 11) rfl))) (mvT hZ (hw _ (List.mem_of_getElem? (i := 10) rfl))) (by decide) (backOf (W := 0) (rm2_ad10 l Z a0 hw [] ad NF h0 n0 Ol) hZ (hw _ (List.mem_of_getElem? (i := 12) rfl)) (hw _ (List.mem_of_getElem? (i := 6) rfl)) (by decide) (by decide)) qa2 qc2 (g := (mkF m 29 #[.val (.int p0), .val (.int (6 : Int32)), .val (.ref (ad 10)), .val (.int (0 : Int32)), .unset] [(.ref (ad 10))])) rfl (by rw [hml]; rfl) (Steps.refl _) (argsL := []) (rest := []) (lenOf pd_2 rfl) rfl (by show 2 * 0 + _ ≤ _; exact Nat.le_of_eq rfl) (hb hby at_29) (fun _ _ => ⟨rfl, e1, (by decide : 0 + 0 ≤ _), (by decide : 0 + 0 ≤ _)⟩)
  dsimp only [Pt.U, Pt.locs, Pt.cells, Pt.slots] at X2 l2 y2 z2 st2 hQ2
  subst l2 y2 z2
  obtain ⟨rfl, Nq2, e2⟩ := hQ2
  have N2 := Fr.app N1 Nq2
  obtain ⟨fs, hr, hrun, hended, hW, hsame⟩ := X2.leave (v := some (.int (1 : Int32))) (fun h => by rw [Bd.returns] at h; cases h)
  refine ⟨_, _, pre0 _ ?_, hrun, hended, _, _, rfl, ?_, ⟨_, rfl⟩, hW, hsame.mono (by decide) (by decide)⟩
  · show Steps p.tables e below (s₁.setTop (mkF m 0 #[.val (.int p0), .unset, .unset, .unset, .unset] [])) _
    refine XS.iloadN X0.here hx rfl (hb hby at_0) rfl ?_
    show Steps p.tables e below (s₁.setTop (mkF m 1 #[.val (.int p0), .unset, .unset, .unset, .unset] [(.int p0)])) _
    refine X0.ldcInt hx hown (mvT hZ (hw _ (List.mem_of_getElem? (i := 0) rfl))) (g := (mkF m 1 #[.val (.int p0), .unset, .unset, .unset, .unset] [(.int p0)])) rfl (hb hby at_1) _ ?_
    show Steps p.tables e below (s₁.setTop (mkF m 3 #[.val (.int p0), .unset, .unset, .unset, .unset] [(.int (2147483647 : Int32)), (.int p0)])) _
    refine XS.iand X0.here hx rfl (hb hby at_3) rfl ?_
    show Steps p.tables e below (s₁.setTop (mkF m 4 #[.val (.int p0), .unset, .unset, .unset, .unset] [(.int (p0 &&& (2147483647 : Int32)))])) _
    refine XS.bipush X0.here hx rfl (hb hby at_4) ?_
    show Steps p.tables e below (s₁.setTop (mkF m 6 #[.val (.int p0), .unset, .unset, .unset, .unset] [(.int (9 : Int32)), (.int (p0 &&& (2147483647 : Int32)))])) _
    refine iremM X0 hx rfl (hb hby at_6) rfl (by decide) ?_
    show Steps p.tables e below (s₁.setTop (mkF m 7 #[.val (.int p0), .unset, .unset, .unset, .unset] [(.int ((p0 &&& (2147483647 : Int32)) % (9 : Int32)))])) _
    rw [hi]
    show Steps p.tables e below (s₁.setTop (mkF m 7 #[.val (.int p0), .unset, .unset, .unset, .unset] [(.int (6 : Int32))])) _
    refine XS.istoreN X0.here hx rfl (hb hby at_7) rfl (l' := #[.val (.int p0), .val (.int (6 : Int32)), .unset, .unset, .unset]) rfl ?_
    show Steps p.tables e below (s₁.setTop (mkF m 8 #[.val (.int p0), .val (.int (6 : Int32)), .unset, .unset, .unset] [])) _
    refine XS.iloadN X0.here hx rfl (hb hby at_8) rfl ?_
    show Steps p.tables e below (s₁.setTop (mkF m 9 #[.val (.int p0), .val (.int (6 : Int32)), .unset, .unset, .unset] [(.int (6 : Int32))])) _
    refine st1 _ ?_
    show Steps p.tables e below (T1.setTop (mkF m 12 #[.val (.int p0), .val (.int (6 : Int32)), .unset, .unset, .unset] [(.ref (ad 10))])) _
    refine XS.astoreN X1.here hx rfl (hb hby at_12) rfl rfl (l' := #[.val (.int p0), .val (.int (6 : Int32)), .val (.ref (ad 10)), .unset, .unset]) rfl ?_
    show Steps p.tables e below (T1.setTop (mkF m 13 #[.val (.int p0), .val (.int (6 : Int32)), .val (.ref (ad 10)), .unset, .unset] [])) _
    refine XS.iloadN X1.here hx rfl (hb hby at_13) rfl ?_
    show Steps p.tables e below (T1.setTop (mkF m 14 #[.val (.int p0), .val (.int (6 : Int32)), .val (.ref (ad 10)), .unset, .unset] [(.int (6 : Int32))])) _
    refine XS.ifNo X1.here hx rfl (hb hby at_14) rfl ((if0 _ _).trans (feq (by decide)).1) ?_
    show Steps p.tables e below (T1.setTop (mkF m 17 #[.val (.int p0), .val (.int (6 : Int32)), .val (.ref (ad 10)), .unset, .unset] [])) _
    refine XS.iloadN X1.here hx rfl (hb hby at_17) rfl ?_
    show Steps p.tables e below (T1.setTop (mkF m 18 #[.val (.int p0), .val (.int (6 : Int32)), .val (.ref (ad 10)), .unset, .unset] [(.int (6 : Int32))])) _
    refine XS.iconst X1.here hx rfl (hb hby at_18) ?_
    show Steps p.tables e below (T1.setTop (mkF m 19 #[.val (.int p0), .val (.int (6 : Int32)), .val (.ref (ad 10)), .unset, .unset] [(.int (1 : Int32)), (.int (6 : Int32))])) _
    refine XS.icmpYes X1.here hx rfl (pc0 := 19) (pc' := 26) rfl (hb hby at_19) rfl (feq (by decide)).2 (by decide) (by decide) ?_
    show Steps p.tables e below (T1.setTop (mkF m 26 #[.val (.int p0), .val (.int (6 : Int32)), .val (.ref (ad 10)), .unset, .unset] [])) _
    refine XS.iconst X1.here hx rfl (hb hby at_26) ?_
    show Steps p.tables e below (T1.setTop (mkF m 27 #[.val (.int p0), .val (.int (6 : Int32)), .val (.ref (ad 10)), .unset, .unset] [(.int (0 : Int32))])) _
    refine XS.istoreN X1.here hx rfl (hb hby at_27) rfl (l' := #[.val (.int p0), .val (.int (6 : Int32)), .val (.ref (ad 10)), .val (.int (0 : Int32)), .unset]) rfl ?_
    show Steps p.tables e below (T1.setTop (mkF m 28 #[.val (.int p0), .val (.int (6 : Int32)), .val (.ref (ad 10)), .val (.int (0 : Int32)), .unset] [])) _
    refine XS.aloadN X1.here hx rfl (hb hby at_28) rfl rfl ?_
    show Steps p.tables e below (T1.setTop (mkF m 29 #[.val (.int p0), .val (.int (6 : Int32)), .val (.ref (ad 10)), .val (.int (0 : Int32)), .unset] [(.ref (ad 10))])) _
    refine st2.trans ?_
    show Steps p.tables e below (T2.setTop (mkF m 32 #[.val (.int p0), .val (.int (6 : Int32)), .val (.ref (ad 10)), .val (.int (0 : Int32)), .unset] [(.int (0 : Int32))])) _
    refine XS.istore X2.here hx rfl (hb hby at_32) rfl (l' := #[.val (.int p0), .val (.int (6 : Int32)), .val (.ref (ad 10)), .val (.int (0 : Int32)), .val (.int (0 : Int32))]) rfl ?_
    show Steps p.tables e below (T2.setTop (mkF m 34 #[.val (.int p0), .val (.int (6 : Int32)), .val (.ref (ad 10)), .val (.int (0 : Int32)), .val (.int (0 : Int32))] [])) _
    refine XS.iload X2.here hx rfl (hb hby at_34) rfl ?_
    show Steps p.tables e below (T2.setTop (mkF m 36 #[.val (.int p0), .val (.int (6 : Int32)), .val (.ref (ad 10)), .val (.int (0 : Int32)), .val (.int (0 : Int32))] [(.int (0 : Int32))])) _
    refine XS.iloadN X2.here hx rfl (hb hby at_36) rfl ?_
    show Steps p.tables e below (T2.setTop (mkF m 37 #[.val (.int p0), .val (.int (6 : Int32)), .val (.ref (ad 10)), .val (.int (0 : Int32)), .val (.int (0 : Int32))] [(.int (0 : Int32)), (.int (0 : Int32))])) _
    refine XS.icmpYes X2.here hx rfl (pc0 := 37) (pc' := 42) rfl (hb hby at_37) rfl (teq (by decide)).1 (by decide) (by decide) ?_
    show Steps p.tables e below (T2.setTop (mkF m 42 #[.val (.int p0), .val (.int (6 : Int32)), .val (.ref (ad 10)), .val (.int (0 : Int32)), .val (.int (0 : Int32))] [])) _
    refine XS.iload X2.here hx rfl (hb hby at_42) rfl ?_
    show Steps p.tables e below (T2.setTop (mkF m 44 #[.val (.int p0), .val (.int (6 : Int32)), .val (.ref (ad 10)), .val (.int (0 : Int32)), .val (.int (0 : Int32))] [(.int (0 : Int32))])) _
    refine XS.ifYes X2.here hx rfl (pc0 := 44) (pc' := 56) rfl (hb hby at_44) rfl ((if0 _ _).trans (teq (by decide)).1) (by decide) (by decide) ?_
    show Steps p.tables e below (T2.setTop (mkF m 56 #[.val (.int p0), .val (.int (6 : Int32)), .val (.ref (ad 10)), .val (.int (0 : Int32)), .val (.int (0 : Int32))] [])) _
    refine XS.iconst X2.here hx rfl (hb hby at_56) ?_
    show Steps p.tables e below (T2.setTop (mkF m 57 #[.val (.int p0), .val (.int (6 : Int32)), .val (.ref (ad 10)), .val (.int (0 : Int32)), .val (.int (0 : Int32))] [(.int (1 : Int32))])) _
    exact retN X2 hx (t := .boolean) Bd.returns (by simp) (hb hby at_57) hr
  · exact ⟨rfl, N2⟩
theorem d1_63 : decode method_2_code 63 = .ok (.iload_n 0, 1) := by decide +kernel
theorem d1_64 : decode method_2_code 64 = .ok (.bipush 7, 2) := by decide +kernel
theorem d1_66 : decode method_2_code 66 = .ok (.if_icmp .ne 7, 3) := by decide +kernel
theorem d1_69 : decode method_2_code 69 = .ok (.getstatic 31, 3) := by decide +kernel
theorem d1_72 : decode method_2_code 72 = .ok (.areturn, 1) := by decide +kernel
set_option maxRecDepth 65536 in
set_option maxHeartbeats 40000000 in
theorem rm1_7 (l : Launch) (Z : State) (a0 : Array Value) (hw : ∀ d ∈ tables_1, d.before a0 Z = true) (ws : List Jvm.Cond) (ad : Nat → Addr) (NF : Facts Z ad) (h0 : Heap) (n0 : Nat) (Ol : Old Z n0 h0) :
    MetFree l (⟨"com/example/vestwright/vestwright/model/VestingBasisIsScheduleBasisPinLaw", "pick", "(I)Lcom/example/vestwright/vestwright/model/VestingBasis;"⟩ : MethodName) (head1 (Jvm.Cond.code (⟨"com/example/vestwright/vestwright/model/VestingBasisIsScheduleBasisPinLaw", "pick", "(I)Lcom/example/vestwright/vestwright/model/VestingBasis;"⟩ : MethodName) method_2_code 1 (some (.object "com/example/vestwright/vestwright/model/VestingBasis")) :: ws) ({ frames := 0, cells := 0, slots := 0, locals := 0 } : Room)) (fun a U => a = #[(.int (7 : Int32))] ∧ Z.Warmed39 U.vm ∧ U.heap = h0) (fun _ _ _ _ _ => True) (fun _ U o U' => ∃ v L, o = .returned v ∧ QS (.ref (ad 6)) h0 n0 v U'.heap L ∧ FrameEnd U o U' L ({ frames := 0, cells := 0, slots := 0, locals := 0 } : Room).cells ({ frames := 0, cells := 0, slots := 0, locals := 0 } : Room).slots) := by
  refine MetFree.of_bodySF (plainFor_of_name pn_1) hisR ?_
  intro p e s m args below meth c s₁ Bd hml0 hP hK
  obtain ⟨rfl, hZ, hh⟩ := hP
  have hx := Bd.exec
  have hby := Bd.bytes
  have hml : c.maxLocals = 1 := hml0
  have hown : s.vm.findClass "com/example/vestwright/vestwright/model/VestingBasisIsScheduleBasisPinLaw" = some m.cls := findClass_of_methodNamed Bd.named
  have X0 : Stand p l e ({ frames := 0, cells := 0, slots := 0, locals := 0 } : Room) s m #[(.int (7 : Int32))] below meth c s₁ [] 0 0 := Stand.of_body Bd
  have e0 : s₁.heap = h0 := by rw [← hh, Bd.state]; rfl
  have N0 := Fr.nil n0
  have pre0 : ∀ t, Steps p.tables e below (s₁.setTop (mkF m 0 #[.val (.int (7 : Int32))] [])) t → Steps p.tables e below (s₁.setTop (entryFrame m #[(.int (7 : Int32))] 1)) t := fun t k => castTop (ef_1_I m (7 : Int32)) k
  obtain ⟨T1, X1, e1, st1⟩ := getS2 X0 hx hZ hown (host := "") (Or.inl (hw _ (List.mem_of_getElem? (i := 31) rfl))) Via.refl e0 ((ft_18 NF).ext Ol.2) (g := (mkF m 69 #[.val (.int (7 : Int32))] [])) rfl (hb hby d1_69)
  obtain ⟨fs, hr, hrun, hended, hW, hsame⟩ := X1.leave (v := some (.ref (ad 6))) (fun h => by rw [Bd.returns] at h; cases h)
  refine ⟨_, _, pre0 _ ?_, hrun, hended, _, _, rfl, ?_, ⟨_, rfl⟩, hW, hsame.mono (by decide) (by decide)⟩
  · show Steps p.tables e below (s₁.setTop (mkF m 0 #[.val (.int (7 : Int32))] [])) _
    refine XS.iloadN X0.here hx rfl (hb hby d1_0) rfl ?_
    show Steps p.tables e below (s₁.setTop (mkF m 1 #[.val (.int (7 : Int32))] [(.int (7 : Int32))])) _
    refine XS.ifYes X0.here hx rfl (pc0 := 1) (pc' := 8) rfl (hb hby d1_1) rfl ((if0 _ _).trans (feq (by decide)).2) (by decide) (by decide) ?_
    show Steps p.tables e below (s₁.setTop (mkF m 8 #[.val (.int (7 : Int32))] [])) _
    refine XS.iloadN X0.here hx rfl (hb hby d1_8) rfl ?_
    show Steps p.tables e below (s₁.setTop (mkF m 9 #[.val (.int (7 : Int32))] [(.int (7 : Int32))])) _
    refine XS.iconst X0.here hx rfl (hb hby d1_9) ?_
    show Steps p.tables e below (s₁.setTop (mkF m 10 #[.val (.int (7 : Int32))] [(.int (1 : Int32)), (.int (7 : Int32))])) _
    refine XS.icmpYes X0.here hx rfl (pc0 := 10) (pc' := 17) rfl (hb hby d1_10) rfl (feq (by decide)).2 (by decide) (by decide) ?_
    show Steps p.tables e below (s₁.setTop (mkF m 17 #[.val (.int (7 : Int32))] [])) _
    refine XS.iloadN X0.here hx rfl (hb hby d1_17) rfl ?_
    show Steps p.tables e below (s₁.setTop (mkF m 18 #[.val (.int (7 : Int32))] [(.int (7 : Int32))])) _
    refine XS.iconst X0.here hx rfl (hb hby d1_18) ?_
    show Steps p.tables e below (s₁.setTop (mkF m 19 #[.val (.int (7 : Int32))] [(.int (2 : Int32)), (.int (7 : Int32))])) _
    refine XS.icmpYes X0.here hx rfl (pc0 := 19) (pc' := 26) rfl (hb hby d1_19) rfl (feq (by decide)).2 (by decide) (by decide) ?_
    show Steps p.tables e below (s₁.setTop (mkF m 26 #[.val (.int (7 : Int32))] [])) _
    refine XS.iloadN X0.here hx rfl (hb hby d1_26) rfl ?_
    show Steps p.tables e below (s₁.setTop (mkF m 27 #[.val (.int (7 : Int32))] [(.int (7 : Int32))])) _
    refine XS.iconst X0.here hx rfl (hb hby d1_27) ?_
    show Steps p.tables e below (s₁.setTop (mkF m 28 #[.val (.int (7 : Int32))] [(.int (3 : Int32)), (.int (7 : Int32))])) _
    refine XS.icmpYes X0.here hx rfl (pc0 := 28) (pc' := 35) rfl (hb hby d1_28) rfl (feq (by decide)).2 (by decide) (by decide) ?_
    show Steps p.tables e below (s₁.setTop (mkF m 35 #[.val (.int (7 : Int32))] [])) _
    refine XS.iloadN X0.here hx rfl (hb hby d1_35) rfl ?_
    show Steps p.tables e below (s₁.setTop (mkF m 36 #[.val (.int (7 : Int32))] [(.int (7 : Int32))])) _
    refine XS.iconst X0.here hx rfl (hb hby d1_36) ?_
    show Steps p.tables e below (s₁.setTop (mkF m 37 #[.val (.int (7 : Int32))] [(.int (4 : Int32)), (.int (7 : Int32))])) _
    refine XS.icmpYes X0.here hx rfl (pc0 := 37) (pc' := 44) rfl (hb hby d1_37) rfl (feq (by decide)).2 (by decide) (by decide) ?_
    show Steps p.tables e below (s₁.setTop (mkF m 44 #[.val (.int (7 : Int32))] [])) _
    refine XS.iloadN X0.here hx rfl (hb hby d1_44) rfl ?_
    show Steps p.tables e below (s₁.setTop (mkF m 45 #[.val (.int (7 : Int32))] [(.int (7 : Int32))])) _
    refine XS.iconst X0.here hx rfl (hb hby d1_45) ?_
    show Steps p.tables e below (s₁.setTop (mkF m 46 #[.val (.int (7 : Int32))] [(.int (5 : Int32)), (.int (7 : Int32))])) _
    refine XS.icmpYes X0.here hx rfl (pc0 := 46) (pc' := 53) rfl (hb hby d1_46) rfl (feq (by decide)).2 (by decide) (by decide) ?_
    show Steps p.tables e below (s₁.setTop (mkF m 53 #[.val (.int (7 : Int32))] [])) _
    refine XS.iloadN X0.here hx rfl (hb hby d1_53) rfl ?_
    show Steps p.tables e below (s₁.setTop (mkF m 54 #[.val (.int (7 : Int32))] [(.int (7 : Int32))])) _
    refine XS.bipush X0.here hx rfl (hb hby d1_54) ?_
    show Steps p.tables e below (s₁.setTop (mkF m 56 #[.val (.int (7 : Int32))] [(.int (6 : Int32)), (.int (7 : Int32))])) _
    refine XS.icmpYes X0.here hx rfl (pc0 := 56) (pc' := 63) rfl (hb hby d1_56) rfl (feq (by decide)).2 (by decide) (by decide) ?_
    show Steps p.tables e below (s₁.setTop (mkF m 63 #[.val (.int (7 : Int32))] [])) _
    refine XS.iloadN X0.here hx rfl (hb hby d1_63) rfl ?_
    show Steps p.tables e below (s₁.setTop (mkF m 64 #[.val (.int (7 : Int32))] [(.int (7 : Int32))])) _
    refine XS.bipush X0.here hx rfl (hb hby d1_64) ?_
    show Steps p.tables e below (s₁.setTop (mkF m 66 #[.val (.int (7 : Int32))] [(.int (7 : Int32)), (.int (7 : Int32))])) _
    refine XS.icmpNo X0.here hx rfl (hb hby d1_66) rfl (teq (by decide)).2 ?_
    show Steps p.tables e below (s₁.setTop (mkF m 69 #[.val (.int (7 : Int32))] [])) _
    refine st1 _ ?_
    show Steps p.tables e below (T1.setTop (mkF m 72 #[.val (.int (7 : Int32))] [(.ref (ad 6))])) _
    exact retOut X1 hx Bd.returns (by rfl) (Or.inr (Or.inr (Or.inr (Or.inr ⟨rfl, rfl, rfl⟩)))) (hb hby d1_72) hr
  · exact ⟨rfl, N0, e1⟩
set_option maxRecDepth 65536 in
set_option maxHeartbeats 40000000 in
theorem rm2_ad6 (l : Launch) (Z : State) (a0 : Array Value) (hw : ∀ d ∈ tables_1, d.before a0 Z = true) (ws : List Jvm.Cond) (ad : Nat → Addr) (NF : Facts Z ad) (h0 : Heap) (n0 : Nat) (Ol : Old Z n0 h0) :
    MetFree l (⟨"com/example/vestwright/vestwright/model/VestingBasis", "isScheduleBasis", "()Z"⟩ : MethodName) (head1 (Jvm.Cond.code (⟨"com/example/vestwright/vestwright/model/VestingBasis", "isScheduleBasis", "()Z"⟩ : MethodName) prog_81_method_4_code 1 (some .boolean) :: ws) ({ frames := 0, cells := 0, slots := 0, locals := 0 } : Room)) (fun a U => a = #[(.ref (ad 6))] ∧ Z.Warmed39 U.vm ∧ U.heap = h0) (fun _ _ _ _ _ => True) (fun _ U o U' => ∃ v L, o = .returned v ∧ QS (.int (0 : Int32)) h0 n0 v U'.heap L ∧ FrameEnd U o U' L ({ frames := 0, cells := 0, slots := 0, locals := 0 } : Room).cells ({ frames := 0, cells := 0, slots := 0, locals := 0 } : Room).slots) := by
  refine MetFree.of_bodySF (plainFor_of_name pn_2) hisR ?_
  intro p e s m args below meth c s₁ Bd hml0 hP hK
  obtain ⟨rfl, hZ, hh⟩ := hP
  have hx := Bd.exec
  have hby := Bd.bytes
  have hml : c.maxLocals = 1 := hml0
  have hown : s.vm.findClass "com/example/vestwright/vestwright/model/VestingBasis" = some m.cls := findClass_of_methodNamed Bd.named
  have X0 : Stand p l e ({ frames := 0, cells := 0, slots := 0, locals := 0 } : Room) s m #[(.ref (ad 6))] below meth c s₁ [] 0 0 := Stand.of_body Bd
  have e0 : s₁.heap = h0 := by rw [← hh, Bd.state]; rfl
  have N0 := Fr.nil n0
  have pre0 : ∀ t, Steps p.tables e below (s₁.setTop (mkF m 0 #[.val (.ref (ad 6))] [])) t → Steps p.tables e below (s₁.setTop (entryFrame m #[(.ref (ad 6))] 1)) t := fun t k => castTop (ef_2_R m (ad 6)) k
  obtain ⟨T1, X1, e1, st1⟩ := getF X0 hx hZ hown (host := "") (Or.inl (hw _ (List.mem_of_getElem? (i := 13) rfl))) Via.refl e0 ((ft_30 NF).ext Ol.2) (g := (mkF m 1 #[.val (.ref (ad 6))] [(.ref (ad 6))])) rfl rfl (hb hby d2_1)
  obtain ⟨T2, X2, e2, st2⟩ := getS2 X1 hx hZ hown (host := "") (Or.inl (hw _ (List.mem_of_getElem? (i := 17) rfl))) Via.refl e1 ((ft_13 NF).ext Ol.2) (g := (mkF m 4 #[.val (.ref (ad 6))] [(.ref (ad 2))])) rfl (hb hby d2_4)
  obtain ⟨fs, hr, hrun, hended, hW, hsame⟩ := X2.leave (v := some (.int (0 : Int32))) (fun h => by rw [Bd.returns] at h; cases h)
  refine ⟨_, _, pre0 _ ?_, hrun, hended, _, _, rfl, ?_, ⟨_, rfl⟩, hW, hsame.mono (by decide) (by decide)⟩
  · show Steps p.tables e below (s₁.setTop (mkF m 0 #[.val (.ref (ad 6))] [])) _
    refine XS.aloadN X0.here hx rfl (hb hby d2_0) rfl rfl ?_
    show Steps p.tables e below (s₁.setTop (mkF m 1 #[.val (.ref (ad 6))] [(.ref (ad 6))])) _
    refine st1 _ ?_
    show Steps p.tables e below (T1.setTop (mkF m 4 #[.val (.ref (ad 6))] [(.ref (ad 2))])) _
    refine st2 _ ?_
    show Steps p.tables e below (T2.setTop (mkF m 7 #[.val (.ref (ad 6))] [(.ref (ad 1)), (.ref (ad 2))])) _
    refine acmp X2 hx rfl (x := (.ref (ad 2))) (y := (.ref (ad 1))) rfl rfl (pc0 := 7) (pc' := 14) (same := false) rfl (hb hby d2_7) rfl (decide_eq_false (fun h => (Fld.ne (ft_26 NF) (ft_25 NF) (by decide)) (Value.ref.inj h))) (by decide) (by decide) ?_
    show Steps p.tables e below (T2.setTop (mkF m 14 #[.val (.ref (ad 6))] [])) _
    refine XS.iconst X2.here hx rfl (hb hby d2_14) ?_
    show Steps p.tables e below (T2.setTop (mkF m 15 #[.val (.ref (ad 6))] [(.int (0 : Int32))])) _
    exact retN X2 hx (t := .boolean) Bd.returns (by simp) (hb hby d2_15) hr
  · exact ⟨rfl, N0, e2⟩
set_option maxRecDepth 65536 in
set_option maxHeartbeats 40000000 in
theorem rm0_7 (l : Launch) (Z : State) (a0 : Array Value) (hw : ∀ d ∈ tables_1, d.before a0 Z = true) (ws : List Jvm.Cond) (ad : Nat → Addr) (NF : Facts Z ad) (h0 : Heap) (n0 : Nat) (Ol : Old Z n0 h0) (p0 : Int32) (hi : (p0 &&& (2147483647 : Int32)) % (9 : Int32) = (7 : Int32)) :
    MetFree l x (head1 (Jvm.Cond.code x code maxLocals ret :: ws) room_1) (fun a U => a = #[(.int p0)] ∧ Z.Warmed39 U.vm ∧ U.heap = h0) (fun _ _ _ _ _ => True) (fun _ U o U' => ∃ v L, o = .returned v ∧ QL n0 v U'.heap L ∧ FrameEnd U o U' L room_1.cells room_1.slots) := by
  refine MetFree.of_bodySF (plainFor_of_name pn_1) hisR ?_
  intro p e s m args below meth c s₁ Bd hml0 hP hK
  obtain ⟨rfl, hZ, hh⟩ := hP
  have hx := Bd.exec
  have hby := Bd.bytes
  have hml : c.maxLocals = 5 := hml0
  have hown : s.vm.findClass "com/example/vestwright/vestwright/model/VestingBasisIsScheduleBasisPinLaw" = some m.cls := findClass_of_methodNamed Bd.named
  have X0 : Stand p l e room_1 s m #[(.int p0)] below meth c s₁ [] 0 0 := Stand.of_body Bd
  have e0 : s₁.heap = h0 := by rw [← hh, Bd.state]; rfl
  have N0 := Fr.nil n0
  have pre0 : ∀ t, Steps p.tables e below (s₁.setTop (mkF m 0 #[.val (.int p0), .unset, .unset, .unset, .unset] [])) t → Steps p.tables e below (s₁.setTop (entryFrame m #[(.int p0)] maxLocals)) t := fun t k => castTop (ef_0_I m (p0)) k
  obtain ⟨_, _, ⟨T1, L1, k1, n1⟩, -, X1, ⟨Lc1, hQ1, l1, y1, z1⟩, st1⟩ := Jvm.LawKit.callS X0 hx (y := (⟨"com/example/vestwright/vestwright/model/VestingBasisIsScheduleBasisPinLaw", "pick", "(I)Lcom/example/vestwright/vestwright/model/VestingBasis;"⟩ : MethodName)) hown (mvT hZ (hw _ (List.mem_of_getElem? (i := 1) rfl))) (mvT hZ (hw _ (List.mem_of_getElem? (i := 2) rfl))) (mvT hZ (hw _ (List.mem_of_getElem? (i := 3) rfl))) (mvT hZ (hw _ (List.mem_of_getElem? (i := 4) rfl))) (by decide) (backOf (W := 0) (rm1_7 l Z a0 hw [] ad NF h0 n0 Ol) hZ (hw _ (List.mem_of_getElem? (i := 4) rfl)) (hw _ (List.mem_of_getElem? (i := 3) rfl)) (by decide) (by decide)) (g := (mkF m 9 #[.val (.int p0), .val (.int (7 : Int32)), .unset, .unset, .unset] [(.int (7 : Int32))])) rfl (by rw [hml]; rfl) (argsL := [(.int (7 : Int32))]) (rest := []) (lenOf pd_1 rfl) rfl (by show 2 * 0 + _ ≤ _; exact Nat.le_of_eq rfl) (hb hby at_9) (fun _ _ => ⟨rfl, e0, (by decide : 0 + 0 ≤ _), (by decide : 0 + 0 ≤ _)⟩)
  dsimp only [Pt.U, Pt.locs, Pt.cells, Pt.slots] at X1 l1 y1 z1 st1 hQ1
  subst l1 y1 z1
  obtain ⟨rfl, Nq1, e1⟩ := hQ1
  have N1 := Fr.app N0 Nq1
  obtain ⟨cq2, kq2, qa2, qb2, qc2⟩ := isOf hZ e1 ((ft_6 NF).ext Ol.2)
  obtain ⟨_, _, ⟨T2, L2, k2, n2⟩, -, X2, ⟨Lc2, hQ2, l2, y2, z2⟩, st2⟩ := X1.virtualBack hx (y := (⟨"com/example/vestwright/vestwright/model/VestingBasis", "isScheduleBasis", "()Z"⟩ : MethodName)) (z := (⟨"com/example/vestwright/vestwright/model/VestingBasis", "isScheduleBasis", "()Z"⟩ : MethodName)) hown (mvT hZ (hw _ (List.mem_of_getElem? (i := 8) rfl))) (mvT hZ (hw _ (List.mem_of_getElem? (i := 9) rfl))) (notFace_of_selects (args := #[]) (mvT hZ (hw _ (List.mem_of_getElem? (i := 11) rfl)))) (mvT hZ (hw _ (List.mem_of_getElem? (i := 11) rfl))) (mvT hZ (hw _ (List.mem_of_getElem? (i := 10) rfl))) (by decide) (backOf (W := 0) (rm2_ad6 l Z a0 hw [] ad NF h0 n0 Ol) hZ (hw _ (List.mem_of_getElem? (i := 12) rfl)) (hw _ (List.mem_of_getElem? (i := 6) rfl)) (by decide) (by decide)) qa2 qc2 (g := (mkF m 29 #[.val (.int p0), .val (.int (7 : Int32)), .val (.ref (ad 6)), .val (.int (0 : Int32)), .unset] [(.ref (ad 6))])) rfl (by rw [hml]; rfl) (Steps.refl _) (argsL := []) (rest := []) (lenOf pd_2 rfl) rfl (by show 2 * 0 + _ ≤ _; exact Nat.le_of_eq rfl) (hb hby at_29) (fun _ _ => ⟨rfl, e1, (by decide : 0 + 0 ≤ _), (by decide : 0 + 0 ≤ _)⟩)
  dsimp only [Pt.U, Pt.locs, Pt.cells, Pt.slots] at X2 l2 y2 z2 st2 hQ2
  subst l2 y2 z2
  obtain ⟨rfl, Nq2, e2⟩ := hQ2
  have N2 := Fr.app N1 Nq2
  obtain ⟨fs, hr, hrun, hended, hW, hsame⟩ := X2.leave (v := some (.int (1 : Int32))) (fun h => by rw [Bd.returns] at h; cases h)
  refine ⟨_, _, pre0 _ ?_, hrun, hended, _, _, rfl, ?_, ⟨_, rfl⟩, hW, hsame.mono (by decide) (by decide)⟩
  · show Steps p.tables e below (s₁.setTop (mkF m 0 #[.val (.int p0), .unset, .unset, .unset, .unset] [])) _
    refine XS.iloadN X0.here hx rfl (hb hby at_0) rfl ?_
    show Steps p.tables e below (s₁.setTop (mkF m 1 #[.val (.int p0), .unset, .unset, .unset, .unset] [(.int p0)])) _
    refine X0.ldcInt hx hown (mvT hZ (hw _ (List.mem_of_getElem? (i := 0) rfl))) (g := (mkF m 1 #[.val (.int p0), .unset, .unset, .unset, .unset] [(.int p0)])) rfl (hb hby at_1) _ ?_
    show Steps p.tables e below (s₁.setTop (mkF m 3 #[.val (.int p0), .unset, .unset, .unset, .unset] [(.int (2147483647 : Int32)), (.int p0)])) _
    refine XS.iand X0.here hx rfl (hb hby at_3) rfl ?_
    show Steps p.tables e below (s₁.setTop (mkF m 4 #[.val (.int p0), .unset, .unset, .unset, .unset] [(.int (p0 &&& (2147483647 : Int32)))])) _
    refine XS.bipush X0.here hx rfl (hb hby at_4) ?_
    show Steps p.tables e below (s₁.setTop (mkF m 6 #[.val (.int p0), .unset, .unset, .unset, .unset] [(.int (9 : Int32)), (.int (p0 &&& (2147483647 : Int32)))])) _
    refine iremM X0 hx rfl (hb hby at_6) rfl (by decide) ?_
    show Steps p.tables e below (s₁.setTop (mkF m 7 #[.val (.int p0), .unset, .unset, .unset, .unset] [(.int ((p0 &&& (2147483647 : Int32)) % (9 : Int32)))])) _
    rw [hi]
    show Steps p.tables e below (s₁.setTop (mkF m 7 #[.val (.int p0), .unset, .unset, .unset, .unset] [(.int (7 : Int32))])) _
    refine XS.istoreN X0.here hx rfl (hb hby at_7) rfl (l' := #[.val (.int p0), .val (.int (7 : Int32)), .unset, .unset, .unset]) rfl ?_
    show Steps p.tables e below (s₁.setTop (mkF m 8 #[.val (.int p0), .val (.int (7 : Int32)), .unset, .unset, .unset] [])) _
    refine XS.iloadN X0.here hx rfl (hb hby at_8) rfl ?_
    show Steps p.tables e below (s₁.setTop (mkF m 9 #[.val (.int p0), .val (.int (7 : Int32)), .unset, .unset, .unset] [(.int (7 : Int32))])) _
    refine st1 _ ?_
    show Steps p.tables e below (T1.setTop (mkF m 12 #[.val (.int p0), .val (.int (7 : Int32)), .unset, .unset, .unset] [(.ref (ad 6))])) _
    refine XS.astoreN X1.here hx rfl (hb hby at_12) rfl rfl (l' := #[.val (.int p0), .val (.int (7 : Int32)), .val (.ref (ad 6)), .unset, .unset]) rfl ?_
    show Steps p.tables e below (T1.setTop (mkF m 13 #[.val (.int p0), .val (.int (7 : Int32)), .val (.ref (ad 6)), .unset, .unset] [])) _
    refine XS.iloadN X1.here hx rfl (hb hby at_13) rfl ?_
    show Steps p.tables e below (T1.setTop (mkF m 14 #[.val (.int p0), .val (.int (7 : Int32)), .val (.ref (ad 6)), .unset, .unset] [(.int (7 : Int32))])) _
    refine XS.ifNo X1.here hx rfl (hb hby at_14) rfl ((if0 _ _).trans (feq (by decide)).1) ?_
    show Steps p.tables e below (T1.setTop (mkF m 17 #[.val (.int p0), .val (.int (7 : Int32)), .val (.ref (ad 6)), .unset, .unset] [])) _
    refine XS.iloadN X1.here hx rfl (hb hby at_17) rfl ?_
    show Steps p.tables e below (T1.setTop (mkF m 18 #[.val (.int p0), .val (.int (7 : Int32)), .val (.ref (ad 6)), .unset, .unset] [(.int (7 : Int32))])) _
    refine XS.iconst X1.here hx rfl (hb hby at_18) ?_
    show Steps p.tables e below (T1.setTop (mkF m 19 #[.val (.int p0), .val (.int (7 : Int32)), .val (.ref (ad 6)), .unset, .unset] [(.int (1 : Int32)), (.int (7 : Int32))])) _
    refine XS.icmpYes X1.here hx rfl (pc0 := 19) (pc' := 26) rfl (hb hby at_19) rfl (feq (by decide)).2 (by decide) (by decide) ?_
    show Steps p.tables e below (T1.setTop (mkF m 26 #[.val (.int p0), .val (.int (7 : Int32)), .val (.ref (ad 6)), .unset, .unset] [])) _
    refine XS.iconst X1.here hx rfl (hb hby at_26) ?_
    show Steps p.tables e below (T1.setTop (mkF m 27 #[.val (.int p0), .val (.int (7 : Int32)), .val (.ref (ad 6)), .unset, .unset] [(.int (0 : Int32))])) _
    refine XS.istoreN X1.here hx rfl (hb hby at_27) rfl (l' := #[.val (.int p0), .val (.int (7 : Int32)), .val (.ref (ad 6)), .val (.int (0 : Int32)), .unset]) rfl ?_
    show Steps p.tables e below (T1.setTop (mkF m 28 #[.val (.int p0), .val (.int (7 : Int32)), .val (.ref (ad 6)), .val (.int (0 : Int32)), .unset] [])) _
    refine XS.aloadN X1.here hx rfl (hb hby at_28) rfl rfl ?_
    show Steps p.tables e below (T1.setTop (mkF m 29 #[.val (.int p0), .val (.int (7 : Int32)), .val (.ref (ad 6)), .val (.int (0 : Int32)), .unset] [(.ref (ad 6))])) _
    refine st2.trans ?_
    show Steps p.tables e below (T2.setTop (mkF m 32 #[.val (.int p0), .val (.int (7 : Int32)), .val (.ref (ad 6)), .val (.int (0 : Int32)), .unset] [(.int (0 : Int32))])) _
    refine XS.istore X2.here hx rfl (hb hby at_32) rfl (l' := #[.val (.int p0), .val (.int (7 : Int32)), .val (.ref (ad 6)), .val (.int (0 : Int32)), .val (.int (0 : Int32))]) rfl ?_
    show Steps p.tables e below (T2.setTop (mkF m 34 #[.val (.int p0), .val (.int (7 : Int32)), .val (.ref (ad 6)), .val (.int (0 : Int32)), .val (.int (0 : Int32))] [])) _
    refine XS.iload X2.here hx rfl (hb hby at_34) rfl ?_
    show Steps p.tables e below (T2.setTop (mkF m 36 #[.val (.int p0), .val (.int (7 : Int32)), .val (.ref (ad 6)), .val (.int (0 : Int32)), .val (.int (0 : Int32))] [(.int (0 : Int32))])) _
    refine XS.iloadN X2.here hx rfl (hb hby at_36) rfl ?_
    show Steps p.tables e below (T2.setTop (mkF m 37 #[.val (.int p0), .val (.int (7 : Int32)), .val (.ref (ad 6)), .val (.int (0 : Int32)), .val (.int (0 : Int32))] [(.int (0 : Int32)), (.int (0 : Int32))])) _
    refine XS.icmpYes X2.here hx rfl (pc0 := 37) (pc' := 42) rfl (hb hby at_37) rfl (teq (by decide)).1 (by decide) (by decide) ?_
    show Steps p.tables e below (T2.setTop (mkF m 42 #[.val (.int p0), .val (.int (7 : Int32)), .val (.ref (ad 6)), .val (.int (0 : Int32)), .val (.int (0 : Int32))] [])) _
    refine XS.iload X2.here hx rfl (hb hby at_42) rfl ?_
    show Steps p.tables e below (T2.setTop (mkF m 44 #[.val (.int p0), .val (.int (7 : Int32)), .val (.ref (ad 6)), .val (.int (0 : Int32)), .val (.int (0 : Int32))] [(.int (0 : Int32))])) _
    refine XS.ifYes X2.here hx rfl (pc0 := 44) (pc' := 56) rfl (hb hby at_44) rfl ((if0 _ _).trans (teq (by decide)).1) (by decide) (by decide) ?_
    show Steps p.tables e below (T2.setTop (mkF m 56 #[.val (.int p0), .val (.int (7 : Int32)), .val (.ref (ad 6)), .val (.int (0 : Int32)), .val (.int (0 : Int32))] [])) _
    refine XS.iconst X2.here hx rfl (hb hby at_56) ?_
    show Steps p.tables e below (T2.setTop (mkF m 57 #[.val (.int p0), .val (.int (7 : Int32)), .val (.ref (ad 6)), .val (.int (0 : Int32)), .val (.int (0 : Int32))] [(.int (1 : Int32))])) _
    exact retN X2 hx (t := .boolean) Bd.returns (by simp) (hb hby at_57) hr
  · exact ⟨rfl, N2⟩
theorem d1_73 : decode method_2_code 73 = .ok (.getstatic 34, 3) := by decide +kernel
theorem d1_76 : decode method_2_code 76 = .ok (.areturn, 1) := by decide +kernel
set_option maxRecDepth 65536 in
set_option maxHeartbeats 40000000 in
theorem rm1_8 (l : Launch) (Z : State) (a0 : Array Value) (hw : ∀ d ∈ tables_1, d.before a0 Z = true) (ws : List Jvm.Cond) (ad : Nat → Addr) (NF : Facts Z ad) (h0 : Heap) (n0 : Nat) (Ol : Old Z n0 h0) :
    MetFree l (⟨"com/example/vestwright/vestwright/model/VestingBasisIsScheduleBasisPinLaw", "pick", "(I)Lcom/example/vestwright/vestwright/model/VestingBasis;"⟩ : MethodName) (head1 (Jvm.Cond.code (⟨"com/example/vestwright/vestwright/model/VestingBasisIsScheduleBasisPinLaw", "pick", "(I)Lcom/example/vestwright/vestwright/model/VestingBasis;"⟩ : MethodName) method_2_code 1 (some (.object "com/example/vestwright/vestwright/model/VestingBasis")) :: ws) ({ frames := 0, cells := 0, slots := 0, locals := 0 } : Room)) (fun a U => a = #[(.int (8 : Int32))] ∧ Z.Warmed39 U.vm ∧ U.heap = h0) (fun _ _ _ _ _ => True) (fun _ U o U' => ∃ v L, o = .returned v ∧ QS (.ref (ad 8)) h0 n0 v U'.heap L ∧ FrameEnd U o U' L ({ frames := 0, cells := 0, slots := 0, locals := 0 } : Room).cells ({ frames := 0, cells := 0, slots := 0, locals := 0 } : Room).slots) := by
  refine MetFree.of_bodySF (plainFor_of_name pn_1) hisR ?_
  intro p e s m args below meth c s₁ Bd hml0 hP hK
  obtain ⟨rfl, hZ, hh⟩ := hP
  have hx := Bd.exec
  have hby := Bd.bytes
  have hml : c.maxLocals = 1 := hml0
  have hown : s.vm.findClass "com/example/vestwright/vestwright/model/VestingBasisIsScheduleBasisPinLaw" = some m.cls := findClass_of_methodNamed Bd.named
  have X0 : Stand p l e ({ frames := 0, cells := 0, slots := 0, locals := 0 } : Room) s m #[(.int (8 : Int32))] below meth c s₁ [] 0 0 := Stand.of_body Bd
  have e0 : s₁.heap = h0 := by rw [← hh, Bd.state]; rfl
  have N0 := Fr.nil n0
  have pre0 : ∀ t, Steps p.tables e below (s₁.setTop (mkF m 0 #[.val (.int (8 : Int32))] [])) t → Steps p.tables e below (s₁.setTop (entryFrame m #[(.int (8 : Int32))] 1)) t := fun t k => castTop (ef_1_I m (8 : Int32)) k
  obtain ⟨T1, X1, e1, st1⟩ := getS2 X0 hx hZ hown (host := "") (Or.inl (hw _ (List.mem_of_getElem? (i := 35) rfl))) Via.refl e0 ((ft_20 NF).ext Ol.2) (g := (mkF m 73 #[.val (.int (8 : Int32))] [])) rfl (hb hby d1_73)
  obtain ⟨fs, hr, hrun, hended, hW, hsame⟩ := X1.leave (v := some (.ref (ad 8))) (fun h => by rw [Bd.returns] at h; cases h)
  refine ⟨_, _, pre0 _ ?_, hrun, hended, _, _, rfl, ?_, ⟨_, rfl⟩, hW, hsame.mono (by decide) (by decide)⟩
  · show Steps p.tables e below (s₁.setTop (mkF m 0 #[.val (.int (8 : Int32))] [])) _
    refine XS.iloadN X0.here hx rfl (hb hby d1_0) rfl ?_
    show Steps p.tables e below (s₁.setTop (mkF m 1 #[.val (.int (8 : Int32))] [(.int (8 : Int32))])) _
    refine XS.ifYes X0.here hx rfl (pc0 := 1) (pc' := 8) rfl (hb hby d1_1) rfl ((if0 _ _).trans (feq (by decide)).2) (by decide) (by decide) ?_
    show Steps p.tables e below (s₁.setTop (mkF m 8 #[.val (.int (8 : Int32))] [])) _
    refine XS.iloadN X0.here hx rfl (hb hby d1_8) rfl ?_
    show Steps p.tables e below (s₁.setTop (mkF m 9 #[.val (.int (8 : Int32))] [(.int (8 : Int32))])) _
    refine XS.iconst X0.here hx rfl (hb hby d1_9) ?_
    show Steps p.tables e below (s₁.setTop (mkF m 10 #[.val (.int (8 : Int32))] [(.int (1 : Int32)), (.int (8 : Int32))])) _
    refine XS.icmpYes X0.here hx rfl (pc0 := 10) (pc' := 17) rfl (hb hby d1_10) rfl (feq (by decide)).2 (by decide) (by decide) ?_
    show Steps p.tables e below (s₁.setTop (mkF m 17 #[.val (.int (8 : Int32))] [])) _
    refine XS.iloadN X0.here hx rfl (hb hby d1_17) rfl ?_
    show Steps p.tables e below (s₁.setTop (mkF m 18 #[.val (.int (8 : Int32))] [(.int (8 : Int32))])) _
    refine XS.iconst X0.here hx rfl (hb hby d1_18) ?_
    show Steps p.tables e below (s₁.setTop (mkF m 19 #[.val (.int (8 : Int32))] [(.int (2 : Int32)), (.int (8 : Int32))])) _
    refine XS.icmpYes X0.here hx rfl (pc0 := 19) (pc' := 26) rfl (hb hby d1_19) rfl (feq (by decide)).2 (by decide) (by decide) ?_
    show Steps p.tables e below (s₁.setTop (mkF m 26 #[.val (.int (8 : Int32))] [])) _
    refine XS.iloadN X0.here hx rfl (hb hby d1_26) rfl ?_
    show Steps p.tables e below (s₁.setTop (mkF m 27 #[.val (.int (8 : Int32))] [(.int (8 : Int32))])) _
    refine XS.iconst X0.here hx rfl (hb hby d1_27) ?_
    show Steps p.tables e below (s₁.setTop (mkF m 28 #[.val (.int (8 : Int32))] [(.int (3 : Int32)), (.int (8 : Int32))])) _
    refine XS.icmpYes X0.here hx rfl (pc0 := 28) (pc' := 35) rfl (hb hby d1_28) rfl (feq (by decide)).2 (by decide) (by decide) ?_
    show Steps p.tables e below (s₁.setTop (mkF m 35 #[.val (.int (8 : Int32))] [])) _
    refine XS.iloadN X0.here hx rfl (hb hby d1_35) rfl ?_
    show Steps p.tables e below (s₁.setTop (mkF m 36 #[.val (.int (8 : Int32))] [(.int (8 : Int32))])) _
    refine XS.iconst X0.here hx rfl (hb hby d1_36) ?_
    show Steps p.tables e below (s₁.setTop (mkF m 37 #[.val (.int (8 : Int32))] [(.int (4 : Int32)), (.int (8 : Int32))])) _
    refine XS.icmpYes X0.here hx rfl (pc0 := 37) (pc' := 44) rfl (hb hby d1_37) rfl (feq (by decide)).2 (by decide) (by decide) ?_
    show Steps p.tables e below (s₁.setTop (mkF m 44 #[.val (.int (8 : Int32))] [])) _
    refine XS.iloadN X0.here hx rfl (hb hby d1_44) rfl ?_
    show Steps p.tables e below (s₁.setTop (mkF m 45 #[.val (.int (8 : Int32))] [(.int (8 : Int32))])) _
    refine XS.iconst X0.here hx rfl (hb hby d1_45) ?_
    show Steps p.tables e below (s₁.setTop (mkF m 46 #[.val (.int (8 : Int32))] [(.int (5 : Int32)), (.int (8 : Int32))])) _
    refine XS.icmpYes X0.here hx rfl (pc0 := 46) (pc' := 53) rfl (hb hby d1_46) rfl (feq (by decide)).2 (by decide) (by decide) ?_
    show Steps p.tables e below (s₁.setTop (mkF m 53 #[.val (.int (8 : Int32))] [])) _
    refine XS.iloadN X0.here hx rfl (hb hby d1_53) rfl ?_
    show Steps p.tables e below (s₁.setTop (mkF m 54 #[.val (.int (8 : Int32))] [(.int (8 : Int32))])) _
    refine XS.bipush X0.here hx rfl (hb hby d1_54) ?_
    show Steps p.tables e below (s₁.setTop (mkF m 56 #[.val (.int (8 : Int32))] [(.int (6 : Int32)), (.int (8 : Int32))])) _
    refine XS.icmpYes X0.here hx rfl (pc0 := 56) (pc' := 63) rfl (hb hby d1_56) rfl (feq (by decide)).2 (by decide) (by decide) ?_
    show Steps p.tables e below (s₁.setTop (mkF m 63 #[.val (.int (8 : Int32))] [])) _
    refine XS.iloadN X0.here hx rfl (hb hby d1_63) rfl ?_
    show Steps p.tables e below (s₁.setTop (mkF m 64 #[.val (.int (8 : Int32))] [(.int (8 : Int32))])) _
    refine XS.bipush X0.here hx rfl (hb hby d1_64) ?_
    show Steps p.tables e below (s₁.setTop (mkF m 66 #[.val (.int (8 : Int32))] [(.int (7 : Int32)), (.int (8 : Int32))])) _
    refine XS.icmpYes X0.here hx rfl (pc0 := 66) (pc' := 73) rfl (hb hby d1_66) rfl (feq (by decide)).2 (by decide) (by decide) ?_
    show Steps p.tables e below (s₁.setTop (mkF m 73 #[.val (.int (8 : Int32))] [])) _
    refine st1 _ ?_
    show Steps p.tables e below (T1.setTop (mkF m 76 #[.val (.int (8 : Int32))] [(.ref (ad 8))])) _
    exact retOut X1 hx Bd.returns (by rfl) (Or.inr (Or.inr (Or.inr (Or.inr ⟨rfl, rfl, rfl⟩)))) (hb hby d1_76) hr
  · exact ⟨rfl, N0, e1⟩
set_option maxRecDepth 65536 in
set_option maxHeartbeats 40000000 in
theorem rm2_ad8 (l : Launch) (Z : State) (a0 : Array Value) (hw : ∀ d ∈ tables_1, d.before a0 Z = true) (ws : List Jvm.Cond) (ad : Nat → Addr) (NF : Facts Z ad) (h0 : Heap) (n0 : Nat) (Ol : Old Z n0 h0) :
    MetFree l (⟨"com/example/vestwright/vestwright/model/VestingBasis", "isScheduleBasis", "()Z"⟩ : MethodName) (head1 (Jvm.Cond.code (⟨"com/example/vestwright/vestwright/model/VestingBasis", "isScheduleBasis", "()Z"⟩ : MethodName) prog_81_method_4_code 1 (some .boolean) :: ws) ({ frames := 0, cells := 0, slots := 0, locals := 0 } : Room)) (fun a U => a = #[(.ref (ad 8))] ∧ Z.Warmed39 U.vm ∧ U.heap = h0) (fun _ _ _ _ _ => True) (fun _ U o U' => ∃ v L, o = .returned v ∧ QS (.int (0 : Int32)) h0 n0 v U'.heap L ∧ FrameEnd U o U' L ({ frames := 0, cells := 0, slots := 0, locals := 0 } : Room).cells ({ frames := 0, cells := 0, slots := 0, locals := 0 } : Room).slots) := by
  refine MetFree.of_bodySF (plainFor_of_name pn_2) hisR ?_
  intro p e s m args below meth c s₁ Bd hml0 hP hK
  obtain ⟨rfl, hZ, hh⟩ := hP
  have hx := Bd.exec
  have hby := Bd.bytes
  have hml : c.maxLocals = 1 := hml0
  have hown : s.vm.findClass "com/example/vestwright/vestwright/model/VestingBasis" = some m.cls := findClass_of_methodNamed Bd.named
  have X0 : Stand p l e ({ frames := 0, cells := 0, slots := 0, locals := 0 } : Room) s m #[(.ref (ad 8))] below meth c s₁ [] 0 0 := Stand.of_body Bd
  have e0 : s₁.heap = h0 := by rw [← hh, Bd.state]; rfl
  have N0 := Fr.nil n0
  have pre0 : ∀ t, Steps p.tables e below (s₁.setTop (mkF m 0 #[.val (.ref (ad 8))] [])) t → Steps p.tables e below (s₁.setTop (entryFrame m #[(.ref (ad 8))] 1)) t := fun t k => castTop (ef_2_R m (ad 8)) k
  obtain ⟨T1, X1, e1, st1⟩ := getF X0 hx hZ hown (host := "") (Or.inl (hw _ (List.mem_of_getElem? (i := 13) rfl))) Via.refl e0 ((ft_32 NF).ext Ol.2) (g := (mkF m 1 #[.val (.ref (ad 8))] [(.ref (ad 8))])) rfl rfl (hb hby d2_1)
  obtain ⟨T2, X2, e2, st2⟩ := getS2 X1 hx hZ hown (host := "") (Or.inl (hw _ (List.mem_of_getElem? (i := 17) rfl))) Via.refl e1 ((ft_13 NF).ext Ol.2) (g := (mkF m 4 #[.val (.ref (ad 8))] [(.ref (ad 9))])) rfl (hb hby d2_4)
  obtain ⟨fs, hr, hrun, hended, hW, hsame⟩ := X2.leave (v := some (.int (0 : Int32))) (fun h => by rw [Bd.returns] at h; cases h)
  refine ⟨_, _, pre0 _ ?_, hrun, hended, _, _, rfl, ?_, ⟨_, rfl⟩, hW, hsame.mono (by decide) (by decide)⟩
  · show Steps p.tables e below (s₁.setTop (mkF m 0 #[.val (.ref (ad 8))] [])) _
    refine XS.aloadN X0.here hx rfl (hb hby d2_0) rfl rfl ?_
    show Steps p.tables e below (s₁.setTop (mkF m 1 #[.val (.ref (ad 8))] [(.ref (ad 8))])) _
    refine st1 _ ?_
    show Steps p.tables e below (T1.setTop (mkF m 4 #[.val (.ref (ad 8))] [(.ref (ad 9))])) _
    refine st2 _ ?_
    show Steps p.tables e below (T2.setTop (mkF m 7 #[.val (.ref (ad 8))] [(.ref (ad 1)), (.ref (ad 9))])) _
    refine acmp X2 hx rfl (x := (.ref (ad 9))) (y := (.ref (ad 1))) rfl rfl (pc0 := 7) (pc' := 14) (same := false) rfl (hb hby d2_7) rfl (decide_eq_false (fun h => (Fld.ne (ft_33 NF) (ft_25 NF) (by decide)) (Value.ref.inj h))) (by decide) (by decide) ?_
    show Steps p.tables e below (T2.setTop (mkF m 14 #[.val (.ref (ad 8))] [])) _
    refine XS.iconst X2.here hx rfl (hb hby d2_14) ?_
    show Steps p.tables e below (T2.setTop (mkF m 15 #[.val (.ref (ad 8))] [(.int (0 : Int32))])) _
    exact retN X2 hx (t := .boolean) Bd.returns (by simp) (hb hby d2_15) hr
  · exact ⟨rfl, N0, e2⟩
set_option maxRecDepth 65536 in
set_option maxHeartbeats 40000000 in
theorem rm0_8 (l : Launch) (Z : State) (a0 : Array Value) (hw : ∀ d ∈ tables_1, d.before a0 Z = true) (ws : List Jvm.Cond) (ad : Nat → Addr) (NF : Facts Z ad) (h0 : Heap) (n0 : Nat) (Ol : Old Z n0 h0) (p0 : Int32) (hi : (p0 &&& (2147483647 : Int32)) % (9 : Int32) = (8 : Int32)) :
    MetFree l x (head1 (Jvm.Cond.code x code maxLocals ret :: ws) room_1) (fun a U => a = #[(.int p0)] ∧ Z.Warmed39 U.vm ∧ U.heap = h0) (fun _ _ _ _ _ => True) (fun _ U o U' => ∃ v L, o = .returned v ∧ QL n0 v U'.heap L ∧ FrameEnd U o U' L room_1.cells room_1.slots) := by
  refine MetFree.of_bodySF (plainFor_of_name pn_1) hisR ?_
  intro p e s m args below meth c s₁ Bd hml0 hP hK
  obtain ⟨rfl, hZ, hh⟩ := hP
  have hx := Bd.exec
  have hby := Bd.bytes
  have hml : c.maxLocals = 5 := hml0
  have hown : s.vm.findClass "com/example/vestwright/vestwright/model/VestingBasisIsScheduleBasisPinLaw" = some m.cls := findClass_of_methodNamed Bd.named
  have X0 : Stand p l e room_1 s m #[(.int p0)] below meth c s₁ [] 0 0 := Stand.of_body Bd
  have e0 : s₁.heap = h0 := by rw [← hh, Bd.state]; rfl
  have N0 := Fr.nil n0
  have pre0 : ∀ t, Steps p.tables e below (s₁.setTop (mkF m 0 #[.val (.int p0), .unset, .unset, .unset, .unset] [])) t → Steps p.tables e below (s₁.setTop (entryFrame m #[(.int p0)] maxLocals)) t := fun t k => castTop (ef_0_I m (p0)) k
  obtain ⟨_, _, ⟨T1, L1, k1, n1⟩, -, X1, ⟨Lc1, hQ1, l1, y1, z1⟩, st1⟩ := Jvm.LawKit.callS X0 hx (y := (⟨"com/example/vestwright/vestwright/model/VestingBasisIsScheduleBasisPinLaw", "pick", "(I)Lcom/example/vestwright/vestwright/model/VestingBasis;"⟩ : MethodName)) hown (mvT hZ (hw _ (List.mem_of_getElem? (i := 1) rfl))) (mvT hZ (hw _ (List.mem_of_getElem? (i := 2) rfl))) (mvT hZ (hw _ (List.mem_of_getElem? (i := 3) rfl))) (mvT hZ (hw _ (List.mem_of_getElem? (i := 4) rfl))) (by decide) (backOf (W := 0) (rm1_8 l Z a0 hw [] ad NF h0 n0 Ol) hZ (hw _ (List.mem_of_getElem? (i := 4) rfl)) (hw _ (List.mem_of_getElem? (i := 3) rfl)) (by decide) (by decide)) (g := (mkF m 9 #[.val (.int p0), .val (.int (8 : Int32)), .unset, .unset, .unset] [(.int (8 : Int32))])) rfl (by rw [hml]; rfl) (argsL := [(.int (8 : Int32))]) (rest := []) (lenOf pd_1 rfl) rfl (by show 2 * 0 + _ ≤ _; exact Nat.le_of_eq rfl) (hb hby at_9) (fun _ _ => ⟨rfl, e0, (by decide : 0 + 0 ≤ _), (by decide : 0 + 0 ≤ _)⟩)
  dsimp only [Pt.U, Pt.locs, Pt.cells, Pt.slots] at X1 l1 y1 z1 st1 hQ1
  subst l1 y1 z1
  obtain ⟨rfl, Nq1, e1⟩ := hQ1
  have N1 := Fr.app N0 Nq1
  obtain ⟨cq2, kq2, qa2, qb2, qc2⟩ := isOf hZ e1 ((ft_8 NF).ext Ol.2)
  obtain ⟨_, _, ⟨T2, L2, k2, n2⟩, -, X2, ⟨Lc2, hQ2, l2, y2, z2⟩, st2⟩ := X1.virtualBack hx (y := (⟨"com/example/vestwright/vestwright/model/VestingBasis", "isScheduleBasis", "()Z"⟩ : MethodName)) (z := (⟨"com/example/vestwright/vestwright/model/VestingBasis", "isScheduleBasis", "()Z"⟩ : MethodName)) hown (mvT hZ (hw _ (List.mem_of_getElem? (i := 8) rfl))) (mvT hZ (hw _ (List.mem_of_getElem? (i := 9) rfl))) (notFace_of_selects (args := #[]) (mvT hZ (hw _ (List.mem_of_getElem? (i := 11) rfl)))) (mvT hZ (hw _ (List.mem_of_getElem? (i := 11) rfl))) (mvT hZ (hw _ (List.mem_of_getElem? (i := 10) rfl))) (by decide) (backOf (W := 0) (rm2_ad8 l Z a0 hw [] ad NF h0 n0 Ol) hZ (hw _ (List.mem_of_getElem? (i := 12) rfl)) (hw _ (List.mem_of_getElem? (i := 6) rfl)) (by decide) (by decide)) qa2 qc2 (g := (mkF m 29 #[.val (.int p0), .val (.int (8 : Int32)), .val (.ref (ad 8)), .val (.int (0 : Int32)), .unset] [(.ref (ad 8))])) rfl (by rw [hml]; rfl) (Steps.refl _) (argsL := []) (rest := []) (lenOf pd_2 rfl) rfl (by show 2 * 0 + _ ≤ _; exact Nat.le_of_eq rfl) (hb hby at_29) (fun _ _ => ⟨rfl, e1, (by decide : 0 + 0 ≤ _), (by decide : 0 + 0 ≤ _)⟩)
  dsimp only [Pt.U, Pt.locs, Pt.cells, Pt.slots] at X2 l2 y2 z2 st2 hQ2
  subst l2 y2 z2
  obtain ⟨rfl, Nq2, e2⟩ := hQ2
  have N2 := Fr.app N1 Nq2
  obtain ⟨fs, hr, hrun, hended, hW, hsame⟩ := X2.leave (v := some (.int (1 : Int32))) (fun h => by rw [Bd.returns] at h; cases h)
  refine ⟨_, _, pre0 _ ?_, hrun, hended, _, _, rfl, ?_, ⟨_, rfl⟩, hW, hsame.mono (by decide) (by decide)⟩
  · show Steps p.tables e below (s₁.setTop (mkF m 0 #[.val (.int p0), .unset, .unset, .unset, .unset] [])) _
    refine XS.iloadN X0.here hx rfl (hb hby at_0) rfl ?_
    show Steps p.tables e below (s₁.setTop (mkF m 1 #[.val (.int p0), .unset, .unset, .unset, .unset] [(.int p0)])) _
    refine X0.ldcInt hx hown (mvT hZ (hw _ (List.mem_of_getElem? (i := 0) rfl))) (g := (mkF m 1 #[.val (.int p0), .unset, .unset, .unset, .unset] [(.int p0)])) rfl (hb hby at_1) _ ?_
    show Steps p.tables e below (s₁.setTop (mkF m 3 #[.val (.int p0), .unset, .unset, .unset, .unset] [(.int (2147483647 : Int32)), (.int p0)])) _
    refine XS.iand X0.here hx rfl (hb hby at_3) rfl ?_
    show Steps p.tables e below (s₁.setTop (mkF m 4 #[.val (.int p0), .unset, .unset, .unset, .unset] [(.int (p0 &&& (2147483647 : Int32)))])) _
    refine XS.bipush X0.here hx rfl (hb hby at_4) ?_
    show Steps p.tables e below (s₁.setTop (mkF m 6 #[.val (.int p0), .unset, .unset, .unset, .unset] [(.int (9 : Int32)), (.int (p0 &&& (2147483647 : Int32)))])) _
    refine iremM X0 hx rfl (hb hby at_6) rfl (by decide) ?_
    show Steps p.tables e below (s₁.setTop (mkF m 7 #[.val (.int p0), .unset, .unset, .unset, .unset] [(.int ((p0 &&& (2147483647 : Int32)) % (9 : Int32)))])) _
    rw [hi]
    show Steps p.tables e below (s₁.setTop (mkF m 7 #[.val (.int p0), .unset, .unset, .unset, .unset] [(.int (8 : Int32))])) _
    refine XS.istoreN X0.here hx rfl (hb hby at_7) rfl (l' := #[.val (.int p0), .val (.int (8 : Int32)), .unset, .unset, .unset]) rfl ?_
    show Steps p.tables e below (s₁.setTop (mkF m 8 #[.val (.int p0), .val (.int (8 : Int32)), .unset, .unset, .unset] [])) _
    refine XS.iloadN X0.here hx rfl (hb hby at_8) rfl ?_
    show Steps p.tables e below (s₁.setTop (mkF m 9 #[.val (.int p0), .val (.int (8 : Int32)), .unset, .unset, .unset] [(.int (8 : Int32))])) _
    refine st1 _ ?_
    show Steps p.tables e below (T1.setTop (mkF m 12 #[.val (.int p0), .val (.int (8 : Int32)), .unset, .unset, .unset] [(.ref (ad 8))])) _
    refine XS.astoreN X1.here hx rfl (hb hby at_12) rfl rfl (l' := #[.val (.int p0), .val (.int (8 : Int32)), .val (.ref (ad 8)), .unset, .unset]) rfl ?_
    show Steps p.tables e below (T1.setTop (mkF m 13 #[.val (.int p0), .val (.int (8 : Int32)), .val (.ref (ad 8)), .unset, .unset] [])) _
    refine XS.iloadN X1.here hx rfl (hb hby at_13) rfl ?_
    show Steps p.tables e below (T1.setTop (mkF m 14 #[.val (.int p0), .val (.int (8 : Int32)), .val (.ref (ad 8)), .unset, .unset] [(.int (8 : Int32))])) _
    refine XS.ifNo X1.here hx rfl (hb hby at_14) rfl ((if0 _ _).trans (feq (by decide)).1) ?_
    show Steps p.tables e below (T1.setTop (mkF m 17 #[.val (.int p0), .val (.int (8 : Int32)), .val (.ref (ad 8)), .unset, .unset] [])) _
    refine XS.iloadN X1.here hx rfl (hb hby at_17) rfl ?_
    show Steps p.tables e below (T1.setTop (mkF m 18 #[.val (.int p0), .val (.int (8 : Int32)), .val (.ref (ad 8)), .unset, .unset] [(.int (8 : Int32))])) _
    refine XS.iconst X1.here hx rfl (hb hby at_18) ?_
    show Steps p.tables e below (T1.setTop (mkF m 19 #[.val (.int p0), .val (.int (8 : Int32)), .val (.ref (ad 8)), .unset, .unset] [(.int (1 : Int32)), (.int (8 : Int32))])) _
    refine XS.icmpYes X1.here hx rfl (pc0 := 19) (pc' := 26) rfl (hb hby at_19) rfl (feq (by decide)).2 (by decide) (by decide) ?_
    show Steps p.tables e below (T1.setTop (mkF m 26 #[.val (.int p0), .val (.int (8 : Int32)), .val (.ref (ad 8)), .unset, .unset] [])) _
    refine XS.iconst X1.here hx rfl (hb hby at_26) ?_
    show Steps p.tables e below (T1.setTop (mkF m 27 #[.val (.int p0), .val (.int (8 : Int32)), .val (.ref (ad 8)), .unset, .unset] [(.int (0 : Int32))])) _
    refine XS.istoreN X1.here hx rfl (hb hby at_27) rfl (l' := #[.val (.int p0), .val (.int (8 : Int32)), .val (.ref (ad 8)), .val (.int (0 : Int32)), .unset]) rfl ?_
    show Steps p.tables e below (T1.setTop (mkF m 28 #[.val (.int p0), .val (.int (8 : Int32)), .val (.ref (ad 8)), .val (.int (0 : Int32)), .unset] [])) _
    refine XS.aloadN X1.here hx rfl (hb hby at_28) rfl rfl ?_
    show Steps p.tables e below (T1.setTop (mkF m 29 #[.val (.int p0), .val (.int (8 : Int32)), .val (.ref (ad 8)), .val (.int (0 : Int32)), .unset] [(.ref (ad 8))])) _
    refine st2.trans ?_
    show Steps p.tables e below (T2.setTop (mkF m 32 #[.val (.int p0), .val (.int (8 : Int32)), .val (.ref (ad 8)), .val (.int (0 : Int32)), .unset] [(.int (0 : Int32))])) _
    refine XS.istore X2.here hx rfl (hb hby at_32) rfl (l' := #[.val (.int p0), .val (.int (8 : Int32)), .val (.ref (ad 8)), .val (.int (0 : Int32)), .val (.int (0 : Int32))]) rfl ?_
    show Steps p.tables e below (T2.setTop (mkF m 34 #[.val (.int p0), .val (.int (8 : Int32)), .val (.ref (ad 8)), .val (.int (0 : Int32)), .val (.int (0 : Int32))] [])) _
    refine XS.iload X2.here hx rfl (hb hby at_34) rfl ?_
    show Steps p.tables e below (T2.setTop (mkF m 36 #[.val (.int p0), .val (.int (8 : Int32)), .val (.ref (ad 8)), .val (.int (0 : Int32)), .val (.int (0 : Int32))] [(.int (0 : Int32))])) _
    refine XS.iloadN X2.here hx rfl (hb hby at_36) rfl ?_
    show Steps p.tables e below (T2.setTop (mkF m 37 #[.val (.int p0), .val (.int (8 : Int32)), .val (.ref (ad 8)), .val (.int (0 : Int32)), .val (.int (0 : Int32))] [(.int (0 : Int32)), (.int (0 : Int32))])) _
    refine XS.icmpYes X2.here hx rfl (pc0 := 37) (pc' := 42) rfl (hb hby at_37) rfl (teq (by decide)).1 (by decide) (by decide) ?_
    show Steps p.tables e below (T2.setTop (mkF m 42 #[.val (.int p0), .val (.int (8 : Int32)), .val (.ref (ad 8)), .val (.int (0 : Int32)), .val (.int (0 : Int32))] [])) _
    refine XS.iload X2.here hx rfl (hb hby at_42) rfl ?_
    show Steps p.tables e below (T2.setTop (mkF m 44 #[.val (.int p0), .val (.int (8 : Int32)), .val (.ref (ad 8)), .val (.int (0 : Int32)), .val (.int (0 : Int32))] [(.int (0 : Int32))])) _
    refine XS.ifYes X2.here hx rfl (pc0 := 44) (pc' := 56) rfl (hb hby at_44) rfl ((if0 _ _).trans (teq (by decide)).1) (by decide) (by decide) ?_
    show Steps p.tables e below (T2.setTop (mkF m 56 #[.val (.int p0), .val (.int (8 : Int32)), .val (.ref (ad 8)), .val (.int (0 : Int32)), .val (.int (0 : Int32))] [])) _
    refine XS.iconst X2.here hx rfl (hb hby at_56) ?_
    show Steps p.tables e below (T2.setTop (mkF m 57 #[.val (.int p0), .val (.int (8 : Int32)), .val (.ref (ad 8)), .val (.int (0 : Int32)), .val (.int (0 : Int32))] [(.int (1 : Int32))])) _
    exact retN X2 hx (t := .boolean) Bd.returns (by simp) (hb hby at_57) hr
  · exact ⟨rfl, N2⟩
set_option maxRecDepth 65536 in
set_option maxHeartbeats 40000000 in
theorem comes_1 {Post : Tables → Env → Array Value → State → Outcome → State → Prop} (hpost : ∀ tb e args s v u, (limb_1_1.after args s (.returned v) u = true ∧ limb_1_2.after args s (.returned v) u = true ∧ True) → FrameEnd s (.returned v) u (Jvm.fieldLocs frame_1_writes args s ++ Jvm.arrayLocs frame_1_arrays args s ++ Jvm.staticLocs frame_1_statics s) 0 0 → Post tb e args s (.returned v) u) :
    ArmFor flags0 classFile x code maxLocals ret World_1 tables_1 room_1 Calls_1 rest_1 Pre_1 Post := by
  intro l hfl _ _ p e ha hc hk s m args below hf hA hF happ hP
  obtain ⟨hcalls, hrest, hpre⟩ := hP
  obtain ⟨-, -, -, hnamed, -, -, -, hat⟩ := (Spec.applies_iff hf).mp happ
  obtain ⟨hg, hn⟩ := and_e (Cond.before_iff.mp (show (Jvm.Cond.and given_1 narrow_1).before args s = true from hpre))
  obtain ⟨hcount, hg0⟩ := and_e hg
  obtain ⟨w0, rfl⟩ : ∃ w0 : Value, args = #[w0] := by
    have hs : args.size = 1 := by simpa [Cond.value, given_1] using hcount
    obtain ⟨L⟩ := args
    match L, hs with
    | [w0], _ => exact ⟨w0, rfl⟩
  have hw := fun d (hd : d ∈ tables_1) => atoms_spec (ws := Jvm.Cond.code x code maxLocals ret :: tables_1) hat d (List.mem_cons_of_mem _ hd)
  have hfit : Fit s := fun {y c} hc i hi => by
    obtain ⟨ha, rfl⟩ := Array.getElem?_eq_some_iff.mp hc
    have q := List.all_eq_true.mp ((Array.all_eq_true_iff_forall_mem.mp hF) _ (Array.getElem_mem ha)) i (List.mem_range.mpr hi)
    simpa [Array.getElem?_eq_getElem hi] using q
  obtain ⟨i0, ei0⟩ := is_v hg0
  obtain rfl : w0 = (.int i0) := Option.some.inj ei0
  obtain ⟨ad, NF⟩ := own_facts hw hfit hn
  have hrm : MetFree l x (head1 (Jvm.Cond.code x code maxLocals ret :: tables_1) room_1) (fun a U => a = #[(.int i0)] ∧ s.Warmed39 U.vm ∧ U.heap = s.heap) (fun _ _ _ _ _ => True) (fun _ U o U' => ∃ v L, o = .returned v ∧ QL s.heap.size v U'.heap L ∧ FrameEnd U o U' L room_1.cells room_1.slots) := by
    rcases own_mod i0 with hi | hi | hi | hi | hi | hi | hi | hi | hi
    · exact rm0_0 l s _ hw tables_1 ad NF s.heap s.heap.size (Old.start s) i0 hi
    · exact rm0_1 l s _ hw tables_1 ad NF s.heap s.heap.size (Old.start s) i0 hi
    · exact rm0_2 l s _ hw tables_1 ad NF s.heap s.heap.size (Old.start s) i0 hi
    · exact rm0_3 l s _ hw tables_1 ad NF s.heap s.heap.size (Old.start s) i0 hi
    · exact rm0_4 l s _ hw tables_1 ad NF s.heap s.heap.size (Old.start s) i0 hi
    · exact rm0_5 l s _ hw tables_1 ad NF s.heap s.heap.size (Old.start s) i0 hi
    · exact rm0_6 l s _ hw tables_1 ad NF s.heap s.heap.size (Old.start s) i0 hi
    · exact rm0_7 l s _ hw tables_1 ad NF s.heap s.heap.size (Old.start s) i0 hi
    · exact rm0_8 l s _ hw tables_1 ad NF s.heap s.heap.size (Old.start s) i0 hi
  obtain ⟨n, o, h1, h2, h3, _, L, rfl, ⟨rfl, N⟩, hq⟩ := hrm p e ha hc hk s m _ below hf ((Spec.applies_iff_loose hf).mp happ).1 ⟨rfl, State.Warmed39.refl s, rfl⟩ trivial
  refine ⟨n, _, h1, h2, h3, hpost _ _ _ _ _ _ ⟨Cond.after_iff.mpr rfl, Cond.after_iff.mpr (eq_i res_at (Term.int_eval (1)) rfl), trivial⟩ ⟨hq.1, hq.2.1, (hq.2.2.sift fun y hy => Or.inr (N y hy)).mono (by decide) (by decide)⟩⟩
theorem main_1_1 : Claimed_1_1 := comes_1 fun _ _ _ _ _ _ h hF => ⟨h.1, hF⟩
theorem main_1_2 : Claimed_1_2 := comes_1 fun _ _ _ _ _ _ h hF => ⟨h.2.1, hF⟩
end Jvm.Pilot.@@N@@
namespace Jvm.Pilot.@@N@@
open Jvm Jvm.ClassFile Sem Op Lib Jvm.Free Jvm.Stand Jvm.Pilot.@@N@@.Jvm.D
/-! MADE BY PROGRAM (witnessworld.py) out of the Statement's table words and the real class files: 11 classes; the members and pool entries that the words name. The judged class is class 1, her method 2. -/
namespace start1
open Jvm.ClassFile
def u (s : String) : CpInfo := .utf8 (stringToUtf16 s)
/-- a pool by its gaps: so many unusable entries, then the entry; so many at the end -/
def gap : Nat → List CpInfo → List CpInfo
  | 0, r => r
  | n + 1, r => .unusable :: gap n r
def poolList (es : List (Nat × CpInfo)) (last : Nat) : List CpInfo := es.foldr (fun e r => gap e.1 (e.2 :: r)) (gap last [])
def pool (es : List (Nat × CpInfo)) (last : Nat) : Array CpInfo := ⟨poolList es last⟩
def fileOf (pool : Array CpInfo) (this : Nat) (attrs : Array Attribute := #[]) (ms : Array MethodInfo := #[]) (fl : Nat := 33) (sup : Nat := 0) (ifs : Array Nat := #[]) (fds : Array FieldInfo := #[]) : ClassFile where
  minorVersion := 0
  majorVersion := 65
  constantPool := pool
  accessFlags := fl
  thisClass := this
  superClass := sup
  interfaces := ifs
  fields := fds
  methods := ms
  attributes := attrs
def plain (name : String) (sup : Option ClassId) : Class where
  name := name
  kind := .ordinary
  loader := none
  accessFlags := 33
  super := sup
  interfaces := #[]
  cf := none
  fields := #[]
  methods := #[]
  instanceTypes := #[]
  staticTypes := #[]
  resolved := #[]
  callSites := []
  init := .initialized
  statics := none
  mirror := none

def pool0 : Array CpInfo := pool [(5, u "<init>"), (0, u "()V"), (1, .class_ 10), (1, u "java/lang/Object")] 113

def k0m0 : Method := { name := "<init>", desc := "()V", sig := { parameters := [], returnType := none }, accessFlags := 1, code := none }
/-- java/lang/Object -/
def k0 : Class := { plain "java/lang/Object" none with
  accessFlags := 33
  interfaces := #[]
  cf := some (fileOf pool0 8 #[] #[{ accessFlags := 1, nameIndex := 5, descriptorIndex := 6, attributes := #[] }] 33 0 #[] #[])
  fields := #[]
  methods := #[k0m0]
  instanceTypes := #[]
  staticTypes := #[]
  resolved := Array.replicate 124 none
  statics := none }

def pool1 : Array CpInfo := pool [(2, .class_ 4), (1, u "java/lang/Object"), (0, u "<init>"), (0, u "()V"), (0, .fieldref 8 9), (0, .class_ 10), (0, .nameAndType 11 12), (0, u "com/example/vestwright/vestwright/model/VestingBasis"), (0, u "SERVICE"), (0, u "Lcom/example/vestwright/vestwright/model/VestingBasis;"), (0, .fieldref 8 14), (0, .nameAndType 15 12), (0, u "TWO_YEARS_HALF"), (0, .fieldref 8 17), (0, .nameAndType 18 12), (0, u "AGE_65"), (0, .fieldref 8 20), (0, .nameAndType 21 12), (0, u "DEATH"), (0, .fieldref 8 23), (0, .nameAndType 24 12), (0, u "DISABILITY"), (0, .fieldref 8 26), (0, .nameAndType 27 12), (0, u "SALE_OF_LOCATION"), (0, .fieldref 8 29), (0, .nameAndType 30 12), (0, u "FACILITY_CLOSURE"), (0, .fieldref 8 32), (0, .nameAndType 33 12), (0, u "PARTICIPATION"), (0, .fieldref 8 35), (0, .nameAndType 36 12), (0, u "NO_PROVISION"), (0, .integer 2147483647), (0, .methodref 39 40), (0, .class_ 41), (0, .nameAndType 42 43), (0, u "com/example/vestwright/vestwright/model/VestingBasisIsScheduleBasisPinLaw"), (0, u "pick"), (0, u "(I)Lcom/example/vestwright/vestwright/model/VestingBasis;"), (0, .methodref 8 45), (0, .nameAndType 46 47), (0, u "isScheduleBasis"), (0, u "()Z"), (0, .methodref 8 49), (0, .nameAndType 50 47), (0, u "isEvent"), (3, u "law"), (0, u "(I)Z")] 2

def k1m0 : Method := { name := "<init>", desc := "()V", sig := { parameters := [], returnType := none }, accessFlags := 2, code := none }
def k1c1 : Code := { maxStack := 2, maxLocals := 1, code := method_2_code, exceptionTable := #[], attributes := #[] }
def k1m1 : Method := { name := "pick", desc := "(I)Lcom/example/vestwright/vestwright/model/VestingBasis;", sig := { parameters := [.int], returnType := some (.object "com/example/vestwright/vestwright/model/VestingBasis") }, accessFlags := 10, code := some k1c1 }
def k1c2 : Code := { maxStack := 2, maxLocals := 5, code := code, exceptionTable := #[], attributes := #[] }
def k1m2 : Method := { name := "law", desc := "(I)Z", sig := { parameters := [.int], returnType := some .boolean }, accessFlags := 9, code := some k1c2 }
/-- com/example/vestwright/vestwright/model/VestingBasisIsScheduleBasisPinLaw -/
def k1 : Class := { plain "com/example/vestwright/vestwright/model/VestingBasisIsScheduleBasisPinLaw" (some 0) with
  accessFlags := 49
  interfaces := #[]
  cf := some (fileOf pool1 39 #[] #[{ accessFlags := 2, nameIndex := 5, descriptorIndex := 6, attributes := #[] }, { accessFlags := 10, nameIndex := 42, descriptorIndex := 43, attributes := #[] }, { accessFlags := 9, nameIndex := 54, descriptorIndex := 55, attributes := #[] }] 49 2 #[] #[])
  fields := #[]
  methods := #[k1m0, k1m1, k1m2]
  instanceTypes := #[]
  staticTypes := #[]
  resolved := Array.replicate 58 none
  statics := none }

def pool2 : Array CpInfo := pool [(1, .class_ 2), (0, u "java/lang/constant/Constable"), (0, .class_ 4), (0, u "java/lang/Object")] 6

/-- java/lang/constant/Constable -/
def k2 : Class := { plain "java/lang/constant/Constable" (some 0) with
  accessFlags := 1537
  interfaces := #[]
  cf := some (fileOf pool2 1 #[] #[] 1537 3 #[] #[])
  fields := #[]
  methods := #[]
  instanceTypes := #[]
  staticTypes := #[]
  resolved := Array.replicate 11 none
  statics := none }

def pool3 : Array CpInfo := pool [(1, .class_ 2), (0, u "java/lang/Comparable"), (0, .class_ 4), (0, u "java/lang/Object")] 7

/-- java/lang/Comparable -/
def k3 : Class := { plain "java/lang/Comparable" (some 0) with
  accessFlags := 1537
  interfaces := #[]
  cf := some (fileOf pool3 1 #[] #[] 1537 3 #[] #[])
  fields := #[]
  methods := #[]
  instanceTypes := #[]
  staticTypes := #[]
  resolved := Array.replicate 12 none
  statics := none }

def pool4 : Array CpInfo := pool [(1, .class_ 2), (0, u "java/io/Serializable"), (0, .class_ 4), (0, u "java/lang/Object")] 2

/-- java/io/Serializable -/
def k4 : Class := { plain "java/io/Serializable" (some 0) with
  accessFlags := 1537
  interfaces := #[]
  cf := some (fileOf pool4 1 #[] #[] 1537 3 #[] #[])
  fields := #[]
  methods := #[]
  instanceTypes := #[]
  staticTypes := #[]
  resolved := Array.replicate 7 none
  statics := none }

def pool5 : Array CpInfo := pool [(2, .class_ 4), (1, u "java/lang/Enum"), (0, u "name"), (0, u "Ljava/lang/String;"), (2, u "ordinal"), (0, u "I"), (1, .class_ 14), (1, u "java/lang/Object"), (4, u "hash"), (86, .class_ 108), (1, u "java/lang/Enum$EnumDesc"), (2, .class_ 112), (0, u "java/lang/constant/Constable"), (0, .class_ 114), (0, u "java/lang/Comparable"), (0, .class_ 116), (0, u "java/io/Serializable")] 87

/-- java/lang/Enum -/
def k5 : Class := { plain "java/lang/Enum" (some 0) with
  accessFlags := 1057
  interfaces := #[2, 3, 4]
  cf := some (fileOf pool5 2 #[.nestMembers #[106]] #[] 1057 12 #[111, 113, 115] #[{ accessFlags := 18, nameIndex := 5, descriptorIndex := 6, attributes := #[] }, { accessFlags := 18, nameIndex := 9, descriptorIndex := 10, attributes := #[] }, { accessFlags := 2, nameIndex := 19, descriptorIndex := 10, attributes := #[] }])
  fields := #[{ name := "name", type := (.object "java/lang/String"), accessFlags := 18, slot := 0, constantValue := 0 }, { name := "ordinal", type := .int, accessFlags := 18, slot := 1, constantValue := 0 }, { name := "hash", type := .int, accessFlags := 2, slot := 2, constantValue := 0 }]
  methods := #[]
  instanceTypes := #[(.object "java/lang/String"), .int, .int]
  staticTypes := #[]
  resolved := Array.replicate 204 none
  statics := none }

def pool6 : Array CpInfo := pool [(1, .class_ 2), (0, u "com/example/vestwright/vestwright/model/VestingBasis"), (2, u "SERVICE"), (0, u "Lcom/example/vestwright/vestwright/model/VestingBasis;"), (2, u "TWO_YEARS_HALF"), (2, u "AGE_65"), (2, u "DEATH"), (2, u "DISABILITY"), (2, u "SALE_OF_LOCATION"), (2, u "FACILITY_CLOSURE"), (2, u "PARTICIPATION"), (2, u "NO_PROVISION"), (2, u "$VALUES"), (0, u "[Lcom/example/vestwright/vestwright/model/VestingBasis;"), (6, .class_ 43), (1, u "java/lang/Enum"), (6, .fieldref 1 51), (0, .nameAndType 52 53), (0, u "role"), (0, u "Lcom/example/vestwright/vestwright/model/VestingBasis$Role;"), (2, u "terminationReason"), (0, u "Lcom/example/vestwright/vestwright/model/TerminationReason;"), (0, .fieldref 59 60), (0, .class_ 61), (0, .nameAndType 62 53), (0, u "com/example/vestwright/vestwright/model/VestingBasis$Role"), (0, u "SCHEDULE"), (0, .fieldref 59 64), (0, .nameAndType 65 53), (0, u "EVENT"), (36, u "isScheduleBasis"), (0, u "()Z"), (1, u "isEvent")] 9

def k6c0 : Code := { maxStack := 2, maxLocals := 1, code := prog_81_method_4_code, exceptionTable := #[], attributes := #[] }
def k6m0 : Method := { name := "isScheduleBasis", desc := "()Z", sig := { parameters := [], returnType := some .boolean }, accessFlags := 1, code := some k6c0 }
def k6c1 : Code := { maxStack := 2, maxLocals := 1, code := prog_81_method_5_code, exceptionTable := #[], attributes := #[] }
def k6m1 : Method := { name := "isEvent", desc := "()Z", sig := { parameters := [], returnType := some .boolean }, accessFlags := 1, code := some k6c1 }
/-- com/example/vestwright/vestwright/model/VestingBasis -/
def k6 : Class := { plain "com/example/vestwright/vestwright/model/VestingBasis" (some 5) with
  accessFlags := 16433
  interfaces := #[]
  cf := some (fileOf pool6 1 #[.nestMembers #[59]] #[{ accessFlags := 1, nameIndex := 102, descriptorIndex := 103, attributes := #[] }, { accessFlags := 1, nameIndex := 105, descriptorIndex := 103, attributes := #[] }] 16433 41 #[] #[{ accessFlags := 16409, nameIndex := 5, descriptorIndex := 6, attributes := #[] }, { accessFlags := 16409, nameIndex := 9, descriptorIndex := 6, attributes := #[] }, { accessFlags := 16409, nameIndex := 12, descriptorIndex := 6, attributes := #[] }, { accessFlags := 16409, nameIndex := 15, descriptorIndex := 6, attributes := #[] }, { accessFlags := 16409, nameIndex := 18, descriptorIndex := 6, attributes := #[] }, { accessFlags := 16409, nameIndex := 21, descriptorIndex := 6, attributes := #[] }, { accessFlags := 16409, nameIndex := 24, descriptorIndex := 6, attributes := #[] }, { accessFlags := 16409, nameIndex := 27, descriptorIndex := 6, attributes := #[] }, { accessFlags := 16409, nameIndex := 30, descriptorIndex := 6, attributes := #[] }, { accessFlags := 18, nameIndex := 52, descriptorIndex := 53, attributes := #[] }, { accessFlags := 18, nameIndex := 56, descriptorIndex := 57, attributes := #[] }, { accessFlags := 4122, nameIndex := 33, descriptorIndex := 34, attributes := #[] }])
  fields := #[{ name := "SERVICE", type := (.object "com/example/vestwright/vestwright/model/VestingBasis"), accessFlags := 16409, slot := 0, constantValue := 0 }, { name := "TWO_YEARS_HALF", type := (.object "com/example/vestwright/vestwright/model/VestingBasis"), accessFlags := 16409, slot := 1, constantValue := 0 }, { name := "AGE_65", type := (.object "com/example/vestwright/vestwright/model/VestingBasis"), accessFlags := 16409, slot := 2, constantValue := 0 }, { name := "DEATH", type := (.object "com/example/vestwright/vestwright/model/VestingBasis"), accessFlags := 16409, slot := 3, constantValue := 0 }, { name := "DISABILITY", type := (.object "com/example/vestwright/vestwright/model/VestingBasis"), accessFlags := 16409, slot := 4, constantValue := 0 }, { name := "SALE_OF_LOCATION", type := (.object "com/example/vestwright/vestwright/model/VestingBasis"), accessFlags := 16409, slot := 5, constantValue := 0 }, { name := "FACILITY_CLOSURE", type := (.object "com/example/vestwright/vestwright/model/VestingBasis"), accessFlags := 16409, slot := 6, constantValue := 0 }, { name := "PARTICIPATION", type := (.object "com/example/vestwright/vestwright/model/VestingBasis"), accessFlags := 16409, slot := 7, constantValue := 0 }, { name := "NO_PROVISION", type := (.object "com/example/vestwright/vestwright/model/VestingBasis"), accessFlags := 16409, slot := 8, constantValue := 0 }, { name := "role", type := (.object "com/example/vestwright/vestwright/model/VestingBasis$Role"), accessFlags := 18, slot := 3, constantValue := 0 }, { name := "terminationReason", type := (.object "com/example/vestwright/vestwright/model/TerminationReason"), accessFlags := 18, slot := 4, constantValue := 0 }, { name := "$VALUES", type := (.array (.object "com/example/vestwright/vestwright/model/VestingBasis")), accessFlags := 4122, slot := 9, constantValue := 0 }]
  methods := #[k6m0, k6m1]
  instanceTypes := #[(.object "java/lang/String"), .int, .int, (.object "com/example/vestwright/vestwright/model/VestingBasis$Role"), (.object "com/example/vestwright/vestwright/model/TerminationReason")]
  staticTypes := #[(.object "com/example/vestwright/vestwright/model/VestingBasis"), (.object "com/example/vestwright/vestwright/model/VestingBasis"), (.object "com/example/vestwright/vestwright/model/VestingBasis"), (.object "com/example/vestwright/vestwright/model/VestingBasis"), (.object "com/example/vestwright/vestwright/model/VestingBasis"), (.object "com/example/vestwright/vestwright/model/VestingBasis"), (.object "com/example/vestwright/vestwright/model/VestingBasis"), (.object "com/example/vestwright/vestwright/model/VestingBasis"), (.object "com/example/vestwright/vestwright/model/VestingBasis"), (.array (.object "com/example/vestwright/vestwright/model/VestingBasis"))]
  resolved := Array.replicate 115 none
  statics := some 0 }

def pool7 : Array CpInfo := pool [(1, .class_ 2), (0, u "com/example/vestwright/vestwright/model/VestingBasis$Role"), (2, u "SCHEDULE"), (0, u "Lcom/example/vestwright/vestwright/model/VestingBasis$Role;"), (2, u "EVENT"), (2, u "NONE"), (2, u "$VALUES"), (0, u "[Lcom/example/vestwright/vestwright/model/VestingBasis$Role;"), (6, .class_ 25), (1, u "java/lang/Enum"), (26, .class_ 53), (0, u "com/example/vestwright/vestwright/model/VestingBasis")] 2

/-- com/example/vestwright/vestwright/model/VestingBasis$Role -/
def k7 : Class := { plain "com/example/vestwright/vestwright/model/VestingBasis$Role" (some 5) with
  accessFlags := 16432
  interfaces := #[]
  cf := some (fileOf pool7 1 #[.nestHost 52] #[] 16432 23 #[] #[{ accessFlags := 16409, nameIndex := 5, descriptorIndex := 6, attributes := #[] }, { accessFlags := 16409, nameIndex := 9, descriptorIndex := 6, attributes := #[] }, { accessFlags := 16409, nameIndex := 12, descriptorIndex := 6, attributes := #[] }, { accessFlags := 4122, nameIndex := 15, descriptorIndex := 16, attributes := #[] }])
  fields := #[{ name := "SCHEDULE", type := (.object "com/example/vestwright/vestwright/model/VestingBasis$Role"), accessFlags := 16409, slot := 0, constantValue := 0 }, { name := "EVENT", type := (.object "com/example/vestwright/vestwright/model/VestingBasis$Role"), accessFlags := 16409, slot := 1, constantValue := 0 }, { name := "NONE", type := (.object "com/example/vestwright/vestwright/model/VestingBasis$Role"), accessFlags := 16409, slot := 2, constantValue := 0 }, { name := "$VALUES", type := (.array (.object "com/example/vestwright/vestwright/model/VestingBasis$Role")), accessFlags := 4122, slot := 3, constantValue := 0 }]
  methods := #[]
  instanceTypes := #[(.object "java/lang/String"), .int, .int]
  staticTypes := #[(.object "com/example/vestwright/vestwright/model/VestingBasis$Role"), (.object "com/example/vestwright/vestwright/model/VestingBasis$Role"), (.object "com/example/vestwright/vestwright/model/VestingBasis$Role"), (.array (.object "com/example/vestwright/vestwright/model/VestingBasis$Role"))]
  resolved := Array.replicate 56 none
  statics := some 1 }

def pool8 : Array CpInfo := pool [(1, u "java/lang/Cloneable"), (0, .class_ 1), (0, u "java/lang/Object"), (0, .class_ 3)] 3

/-- java/lang/Cloneable -/
def k8 : Class := { plain "java/lang/Cloneable" (some 0) with
  accessFlags := 1537
  interfaces := #[]
  cf := some (fileOf pool8 2 #[] #[] 1537 4 #[] #[])
  fields := #[]
  methods := #[]
  instanceTypes := #[]
  staticTypes := #[]
  resolved := Array.replicate 8 none
  statics := none }

/-- the primitive byte -/
def k9 : Class := { plain "byte" none with kind := .primitive 'B', accessFlags := 0x411 }
/-- [B -/
def k10 : Class := { plain "[B" (some 0) with kind := .array 9 .byte, interfaces := #[8, 4], accessFlags := 1041 }

def heap : Heap := #[{ cls := 6, slots := #[.ref 2, .ref 7, .ref 6, .ref 5, .ref 9, .ref 13, .ref 12, .ref 8, .ref 10, .null], vm := .statics 6 },
  { cls := 7, slots := #[.ref 3, .ref 4, .ref 11, .null], vm := .statics 7 },
  { cls := 6, slots := #[.null, .int 0, .int 0, .ref 3, .null], vm := .none },
  { cls := 7, slots := #[.null, .int 0, .int 0], vm := .none },
  { cls := 7, slots := #[.null, .int 1, .int 0], vm := .none },
  { cls := 6, slots := #[.null, .int 0, .int 0, .ref 4, .null], vm := .none },
  { cls := 6, slots := #[.null, .int 0, .int 0, .ref 4, .null], vm := .none },
  { cls := 6, slots := #[.null, .int 0, .int 0, .ref 3, .null], vm := .none },
  { cls := 6, slots := #[.null, .int 0, .int 0, .ref 4, .null], vm := .none },
  { cls := 6, slots := #[.null, .int 0, .int 0, .ref 4, .null], vm := .none },
  { cls := 6, slots := #[.null, .int 0, .int 0, .ref 11, .null], vm := .none },
  { cls := 7, slots := #[.null, .int 2, .int 0], vm := .none },
  { cls := 6, slots := #[.null, .int 0, .int 0, .ref 4, .null], vm := .none },
  { cls := 6, slots := #[.null, .int 0, .int 0, .ref 4, .null], vm := .none }]
def classes : Array Class := #[k0, k1, k2, k3, k4, k5, k6, k7, k8, k9, k10]
def interned : List (Array UInt16 × Addr) := []
def slotsUsed : Nat := 68
def theMethod : MethodId := ⟨1, 2⟩
def args0 : Array Value := #[.int 5]
def aboutOver (below : List Frame) : State where
  vm := { classes := classes, interned := interned.toArray }
  heap := heap
  slotsUsed := slotsUsed
  threads := #[{ frames := .invoking theMethod args0 :: below }]
def below0 : List Frame := [.native { method := ⟨0, 0⟩, args := #[] }]
def about1 : State := aboutOver below0
def p0 : Program := .bare "" "" ""
def e0 : Env := launch0.env 0 0 0
theorem w_frames : about1.frames = Frame.invoking theMethod args0 :: below0 := rfl
set_option maxRecDepth 65536 in
theorem w_args : argsFit about1.vm theMethod args0 = true := by decide +kernel
set_option maxRecDepth 65536 in
theorem w_heap : heapFits about1 = true := by decide +kernel
set_option maxRecDepth 65536 in
theorem w_runnable : about1.curStatus? = some .runnable := by decide +kernel
set_option maxRecDepth 65536 in
theorem w_alone : about1.alone = true := by decide +kernel
set_option maxRecDepth 65536 in
theorem w_named : about1.methodNamed? x = some theMethod := by decide +kernel
set_option maxRecDepth 65536 in
theorem w_hears : about1.hears theMethod below0 = true := by decide +kernel
set_option maxRecDepth 65536 in
theorem w_ripe : about1.ripe theMethod args0 below0 = true := by decide +kernel
theorem w_running : about1.status = .running := rfl
set_option maxRecDepth 65536 in
theorem w_room : about1.hasRoom e0.platform room_1 = true :=
  launch0.hasRoom_least _ room_1 (by decide +kernel) (by decide +kernel) (by decide +kernel) (by decide +kernel) (by decide +kernel) (by decide +kernel)
theorem allAtoms_all (ts : List Jvm.Cond) (a : Array Jvm.Value) (st : Jvm.State) : (allAtoms ts).before a st = ts.all (fun c => c.before a st) := by
  induction ts with
  | nil => rfl
  | cons c t ih =>
    show (Jvm.Cond.and c (allAtoms t)).before a st = _
    rw [Jvm.Cond.before_and, ih, List.all_cons]
def words1 : List Jvm.Cond := Jvm.Cond.code x code maxLocals ret :: tables_1
/-- a 'code' word, met by the world's own term for the bytes: nothing is compared byte by byte -/
theorem code_word {y : MethodName} {bytes : ByteArray} {mx : Nat} {rt : Option FieldType} {a : Array Value} {s : State} {m : MethodId} {meth : Method} {c : Code} (h1 : s.methodNamed? y = some m) (h2 : s.vm.method? m = some meth) (h3 : meth.code = some c) (h4 : c.code = bytes)
    (h5 : (c.maxLocals == mx && c.exceptionTable.isEmpty && decide (c.maxStack ≤ mostOperands) && decide (meth.sig.returnType = rt) && !meth.locks && decide (parseMethodDescriptor y.desc = some meth.sig)) = true) : (Jvm.Cond.code y bytes mx rt).before a s = true := by
  simp only [Bool.and_eq_true, beq_iff_eq, Bool.not_eq_true', decide_eq_true_eq] at h5
  obtain ⟨⟨⟨⟨⟨g1, g2⟩, g3⟩, g4⟩, g5⟩, g6⟩ := h5
  simp [Cond.before, Cond.holds, Cond.value, h1, h2, h3, h4, g1, g2, g3, g4, g5, g6]
def isCode : Jvm.Cond → Bool
  | .code _ _ _ _ => true
  | _ => false
theorem all_split {L : List Jvm.Cond} {P : Jvm.Cond → Bool} (h1 : L.all (fun c => isCode c || P c) = true) (h2 : ∀ c ∈ L.filter isCode, P c = true) : L.all P = true := by
  refine List.all_eq_true.mpr fun c hc => ?_
  have h := List.all_eq_true.mp h1 c hc
  rcases Bool.eq_false_or_eq_true (isCode c) with hi | hi
  · exact h2 c (List.mem_filter.mpr ⟨hc, hi⟩)
  · simpa [hi] using h
set_option maxRecDepth 65536 in
theorem w_c0 : (Jvm.Cond.code x code maxLocals ret).before args0 about1 = true := code_word (m := ⟨1, 2⟩) (meth := k1m2) (c := k1c2) (by decide +kernel) rfl rfl rfl (by decide +kernel)
set_option maxRecDepth 65536 in
theorem w_c1 : (Jvm.Cond.code ({ cls := "com/example/vestwright/vestwright/model/VestingBasisIsScheduleBasisPinLaw", name := "pick", desc := "(I)Lcom/example/vestwright/vestwright/model/VestingBasis;" } : Jvm.MethodName) method_2_code (1 : Nat) (Option.some (Jvm.ClassFile.FieldType.object "com/example/vestwright/vestwright/model/VestingBasis"))).before args0 about1 = true := code_word (m := ⟨1, 1⟩) (meth := k1m1) (c := k1c1) (by decide +kernel) rfl rfl rfl (by decide +kernel)
set_option maxRecDepth 65536 in
theorem w_c2 : (Jvm.Cond.code ({ cls := "com/example/vestwright/vestwright/model/VestingBasis", name := "isScheduleBasis", desc := "()Z" } : Jvm.MethodName) prog_81_method_4_code (1 : Nat) (Option.some Jvm.ClassFile.FieldType.boolean)).before args0 about1 = true := code_word (m := ⟨6, 0⟩) (meth := k6m0) (c := k6c0) (by decide +kernel) rfl rfl rfl (by decide +kernel)
set_option maxRecDepth 65536 in
theorem w_c3 : (Jvm.Cond.code ({ cls := "com/example/vestwright/vestwright/model/VestingBasis", name := "isEvent", desc := "()Z" } : Jvm.MethodName) prog_81_method_5_code (1 : Nat) (Option.some Jvm.ClassFile.FieldType.boolean)).before args0 about1 = true := code_word (m := ⟨6, 1⟩) (meth := k6m1) (c := k6c1) (by decide +kernel) rfl rfl rfl (by decide +kernel)
def codes1 : List Jvm.Cond := [Jvm.Cond.code x code maxLocals ret, Jvm.Cond.code ({ cls := "com/example/vestwright/vestwright/model/VestingBasisIsScheduleBasisPinLaw", name := "pick", desc := "(I)Lcom/example/vestwright/vestwright/model/VestingBasis;" } : Jvm.MethodName) method_2_code (1 : Nat) (Option.some (Jvm.ClassFile.FieldType.object "com/example/vestwright/vestwright/model/VestingBasis")), Jvm.Cond.code ({ cls := "com/example/vestwright/vestwright/model/VestingBasis", name := "isScheduleBasis", desc := "()Z" } : Jvm.MethodName) prog_81_method_4_code (1 : Nat) (Option.some Jvm.ClassFile.FieldType.boolean), Jvm.Cond.code ({ cls := "com/example/vestwright/vestwright/model/VestingBasis", name := "isEvent", desc := "()Z" } : Jvm.MethodName) prog_81_method_5_code (1 : Nat) (Option.some Jvm.ClassFile.FieldType.boolean)]
set_option maxRecDepth 65536 in
theorem codes_eq : words1.filter isCode = codes1 := rfl
theorem w_codes : ∀ c ∈ words1.filter isCode, c.before args0 about1 = true := by
  rw [codes_eq]
  intro c hc
  simp only [codes1, List.mem_cons, List.not_mem_nil, or_false] at hc
  rcases hc with rfl | rfl | rfl | rfl
  · exact w_c0
  · exact w_c1
  · exact w_c2
  · exact w_c3
set_option maxRecDepth 65536 in
theorem w_t1 : (words1.take 24).all (fun c => isCode c || c.before args0 about1) = true := by decide +kernel
set_option maxRecDepth 65536 in
theorem w_t2 : (words1.drop 24).all (fun c => isCode c || c.before args0 about1) = true := by decide +kernel
theorem w_tables : (allAtoms (Jvm.Cond.code x code maxLocals ret :: tables_1)).before args0 about1 = true := by
  rw [allAtoms_all]
  show words1.all (fun c => c.before args0 about1) = true
  refine all_split ?_ w_codes
  rw [← List.take_append_drop 24 words1, List.all_append, w_t1, w_t2]
  rfl
set_option maxRecDepth 65536 in
theorem w_case : (Jvm.Cond.and given_1 narrow_1).before args0 about1 = true := by decide +kernel
theorem w_applies : (headSpec (Jvm.Cond.code x code maxLocals ret :: tables_1) room_1).applies x e0.platform about1 = true :=
  (Spec.applies_iff w_frames).mpr ⟨w_running, w_runnable, w_alone, w_named, w_hears, w_ripe, w_room, w_tables⟩
theorem atStart : AtStart classFile x code maxLocals ret World_1 tables_1 room_1 Calls_1 rest_1 Pre_1 launch0 p0 e0 about1 theMethod args0 below0 :=
  ⟨lists_1, trivial, launch0.admits_env _ _ _, launch0.least_env, fairChoices_fair.cas, fairChoices_fair.clock, w_frames, w_args, w_heap, w_applies, trivial, trivial, w_case⟩
end start1
theorem witness_1 : WitnessClaimed_1 := ⟨start1.p0, start1.e0, start1.about1, start1.theMethod, start1.args0, start1.below0, start1.atStart⟩
end Jvm.Pilot.@@N@@
