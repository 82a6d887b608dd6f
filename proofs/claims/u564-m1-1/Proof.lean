import JvmDerived
import JvmDerived.Pilot.@@N@@Statement
import JvmDerived.Pilot.@@N@@Code
set_option linter.unusedVariables false
set_option linter.unusedSimpArgs false
@@BLOCK:NumsL.lean.txt@@
namespace Jvm.RoadKit
open Sem ClassFile Op Lib Jvm.Stand Jvm.Free Jvm.LawKit
section New
variable {p : Program} {l : Launch} {e : Env} {R : Room} {s : State} {m : MethodId} {args : Array Value} {below : List Frame} {meth : Method} {c : Code} {T : State} {locs : List Loc} {cells slots : Nat}
theorem retI (X : Stand p l e R s m args below meth c T locs cells slots) (hx : p.tables.exec = Jvm.exec) {pc : Nat} {Ls : Array Slot} {z : Int32} {rest : List Value} (hret : meth.sig.returnType = some .int) (hd : decode c.code pc = .ok (.ireturn, 1)) {fs : List Frame}
    (hl : ∀ (f : JFrame) (acts : List Action), f.method = m → f.locked = none → f.entered = [] → (doReturn e (T.setTop f) acts (some (.int z))).1 = T.setFrames fs) : Steps p.tables e below (T.setTop (mkF m pc Ls (.int z :: rest))) (T.setFrames fs) := by
  have hm' : T.vm.method? m = some meth := X.method'
  have hn : narrow .int (.int z) = .int z := rfl
  show Steps p.tables e below (T.setTop { method := m, pc := pc, locals := Ls, stack := _ :: rest, locked := none }) _
  jvm_step X.here [X.here.top, hx, hd, hm', hret, hn]
  first | (intro acts; rw [hl _ acts rfl rfl rfl]) | rw [hl _ _ rfl rfl rfl]
  exact Steps.refl _
end New
end Jvm.RoadKit
namespace Jvm.Pilot.@@N@@
open Jvm Jvm.ClassFile Sem Op Lib Jvm.Free Jvm.Stand Jvm.LawKit Jvm.RoadKit Bundle Jvm.Pilot.@@N@@.Jvm.D
section Own
variable {args : Array Value} {first s : State} {o : Option Outcome} {idx : List Nat} {t u : Term} {n : Int32} {b : Addr}
theorem own_eqI (h : (Jvm.Cond.eq t (.int n)).value args first o s idx = some true) : t.eval args first o idx s = some (.int n) := by
  simp only [Cond.value, Term.eval] at h
  cases ht : t.eval args first o idx s with
  | none => simp [ht] at h
  | some x => cases x <;> simp [ht] at h ⊢; exact h
theorem own_eqR (h : (Jvm.Cond.eq t u).value args first o s idx = some true) (hu : u.eval args first o idx s = some (.ref b)) : t.eval args first o idx s = some (.ref b) := by
  simp only [Cond.value, hu] at h
  cases ht : t.eval args first o idx s with
  | none => simp [ht] at h
  | some x => cases x <;> simp [ht] at h ⊢; exact h
theorem own_len {Z : State} {args : Array Value} {t : Term} {z : Int32} {a : Addr} {ty : FieldType} (ev : t.eval args Z none [] Z = some (.ref a)) (hA : (Jvm.Cond.arrayOf t ty).value args Z none Z [] = some true) (hl : (Jvm.Cond.eq (.length t) (.int z)).value args Z none Z [] = some true) :
    ∃ c : Cell, Arr Z Z.heap a c ty ∧ c.slots.size.toInt32 = z ∧ c.slots.size < 2 ^ 31 := by
  obtain ⟨c, A⟩ := Arr.start ev hA
  have e := own_eqI hl
  have ha : Z.arrayAt? a = some c := A.fin (Vm.Alike.refl _)
  by_cases q : c.slots.size < 2 ^ 31
  · rw [len_f ev ha q] at e
    exact ⟨c, A, by injection e with e; injection e, q⟩
  · simp [Term.eval, ev, ha, q] at e
end Own
def QS (V : Value) (h0 : Heap) (n0 : Nat) (v : Option Value) (h : Heap) (L : List Loc) : Prop := v = some V ∧ Fr n0 L ∧ h = h0
def QE (V : Value) (h0 : Heap) (n0 : Nat) (v : Option Value) (h : Heap) (L : List Loc) : Prop := v = some V ∧ Fr n0 L ∧ Ext h0 h
def QL (n0 : Nat) (v : Option Value) (h : Heap) (L : List Loc) : Prop := v = some (.int (1 : Int32)) ∧ Fr n0 L
def Facts (Z : State) (ad : Nat → Addr) : Prop :=
  Exa Z Z.heap (ad 0) "com/example/gembok/gembok/LockKind" ∧
  Exa Z Z.heap (ad 1) "com/example/gembok/gembok/LockKind" ∧
  Exa Z Z.heap (ad 2) "com/example/gembok/gembok/LockKind" ∧
  Sta Z Z.heap "com/example/gembok/gembok/LockKind" "EXCLUSIVE" "Lcom/example/gembok/gembok/LockKind;" (.ref (ad 0)) ∧
  Sta Z Z.heap "com/example/gembok/gembok/LockKind" "READ" "Lcom/example/gembok/gembok/LockKind;" (.ref (ad 1)) ∧
  Sta Z Z.heap "com/example/gembok/gembok/LockKind" "WRITE" "Lcom/example/gembok/gembok/LockKind;" (.ref (ad 2)) ∧
  Fld Z Z.heap (ad 0) "java/lang/Enum" "ordinal" "I" (.int (0 : Int32)) ∧
  Fld Z Z.heap (ad 1) "java/lang/Enum" "ordinal" "I" (.int (1 : Int32)) ∧
  Fld Z Z.heap (ad 2) "java/lang/Enum" "ordinal" "I" (.int (2 : Int32)) ∧ True
theorem ft_0 {Z : State} {ad : Nat → Addr} (h : Facts Z ad) : Exa Z Z.heap (ad 0) "com/example/gembok/gembok/LockKind" := h.1
theorem ft_1 {Z : State} {ad : Nat → Addr} (h : Facts Z ad) : Exa Z Z.heap (ad 1) "com/example/gembok/gembok/LockKind" := h.2.1
theorem ft_2 {Z : State} {ad : Nat → Addr} (h : Facts Z ad) : Exa Z Z.heap (ad 2) "com/example/gembok/gembok/LockKind" := h.2.2.1
theorem ft_3 {Z : State} {ad : Nat → Addr} (h : Facts Z ad) : Sta Z Z.heap "com/example/gembok/gembok/LockKind" "EXCLUSIVE" "Lcom/example/gembok/gembok/LockKind;" (.ref (ad 0)) := h.2.2.2.1
theorem ft_4 {Z : State} {ad : Nat → Addr} (h : Facts Z ad) : Sta Z Z.heap "com/example/gembok/gembok/LockKind" "READ" "Lcom/example/gembok/gembok/LockKind;" (.ref (ad 1)) := h.2.2.2.2.1
theorem ft_5 {Z : State} {ad : Nat → Addr} (h : Facts Z ad) : Sta Z Z.heap "com/example/gembok/gembok/LockKind" "WRITE" "Lcom/example/gembok/gembok/LockKind;" (.ref (ad 2)) := h.2.2.2.2.2.1
theorem ft_6 {Z : State} {ad : Nat → Addr} (h : Facts Z ad) : Fld Z Z.heap (ad 0) "java/lang/Enum" "ordinal" "I" (.int (0 : Int32)) := h.2.2.2.2.2.2.1
theorem ft_7 {Z : State} {ad : Nat → Addr} (h : Facts Z ad) : Fld Z Z.heap (ad 1) "java/lang/Enum" "ordinal" "I" (.int (1 : Int32)) := h.2.2.2.2.2.2.2.1
theorem ft_8 {Z : State} {ad : Nat → Addr} (h : Facts Z ad) : Fld Z Z.heap (ad 2) "java/lang/Enum" "ordinal" "I" (.int (2 : Int32)) := h.2.2.2.2.2.2.2.2.1
set_option maxRecDepth 65536 in
set_option maxHeartbeats 40000000 in
theorem own_facts {s : State} {args : Array Value} (hw : ∀ d ∈ tables_1, d.before args s = true) (hfit : Fit s) (hn : narrow_1.value args s none s [] = some true) : ∃ ad, Facts s ad := by
  obtain ⟨q0, r0⟩ := and_e hn
  obtain ⟨q1, r1⟩ := and_e r0
  obtain ⟨q2, r2⟩ := and_e r1
  obtain ⟨q3, r3⟩ := and_e r2
  obtain ⟨q4, r4⟩ := and_e r3
  have q5 := r4
  obtain ⟨a0, ev0⟩ := exa_v q0
  obtain ⟨a1, ev1⟩ := exa_v q2
  obtain ⟨a2, ev2⟩ := exa_v q4
  refine ⟨fun | 0 => a0 | 1 => a1 | 2 => a2 | _ => 0, ?_⟩
  refine ⟨?_, ?_, ?_, ?_, ?_, ?_, ?_, ?_, ?_, trivial⟩
  · exact Exa.start ev0 q0
  · exact Exa.start ev1 q2
  · exact Exa.start ev2 q4
  · exact Sta.start ev0 (Or.inr ⟨(hw _ (List.mem_of_getElem? (i := 6) rfl)), (hw _ (List.mem_of_getElem? (i := 7) rfl))⟩)
  · exact Sta.start ev1 (Or.inr ⟨(hw _ (List.mem_of_getElem? (i := 6) rfl)), (hw _ (List.mem_of_getElem? (i := 24) rfl))⟩)
  · exact Sta.start ev2 (Or.inr ⟨(hw _ (List.mem_of_getElem? (i := 6) rfl)), (hw _ (List.mem_of_getElem? (i := 26) rfl))⟩)
  · exact Fld.start ((fld_at ev0).symm.trans (own_eqI q1))
  · exact Fld.start ((fld_at ev1).symm.trans (own_eqI q3))
  · exact Fld.start ((fld_at ev2).symm.trans (own_eqI q5))
theorem own_mod (x : Int32) : (x &&& (2147483647 : Int32)) % (3 : Int32) = (0 : Int32) ∨ (x &&& (2147483647 : Int32)) % (3 : Int32) = (1 : Int32) ∨ (x &&& (2147483647 : Int32)) % (3 : Int32) = (2 : Int32) := by
  have h0 : (x &&& (2147483647 : Int32)).toInt = x.toInt % 2 ^ 31 := Jvm.Kit.i32_mask x (2147483647 : Int32) (k := 31) (by decide) (by decide)
  have h1 : ((x &&& (2147483647 : Int32)) % (3 : Int32)).toInt = (x &&& (2147483647 : Int32)).toInt % (3 : Int32).toInt := Jvm.Kit.i32_rem_nonneg (by rw [h0]; omega)
  rw [h0, show (3 : Int32).toInt = 3 from rfl] at h1
  simp only [← Int32.toInt_inj, h1, Int32.reduceToInt]
  omega
theorem d1_0 : decode method_2_code 0 = .ok (.iload_n 0, 1) := by decide +kernel
theorem d1_1 : decode method_2_code 1 = .ok (.ldc 7, 2) := by decide +kernel
theorem d1_3 : decode method_2_code 3 = .ok (.iand, 1) := by decide +kernel
theorem d1_4 : decode method_2_code 4 = .ok (.iconst 3, 1) := by decide +kernel
theorem d1_5 : decode method_2_code 5 = .ok (.irem, 1) := by decide +kernel
theorem d1_6 : decode method_2_code 6 = .ok (.istore_n 1, 1) := by decide +kernel
theorem d1_7 : decode method_2_code 7 = .ok (.iload_n 1, 1) := by decide +kernel
theorem d1_8 : decode method_2_code 8 = .ok (.ifCond .ne 7, 3) := by decide +kernel
theorem d1_11 : decode method_2_code 11 = .ok (.getstatic 8, 3) := by decide +kernel
theorem d1_14 : decode method_2_code 14 = .ok (.areturn, 1) := by decide +kernel
theorem pn_1 : plainName "com/example/gembok/gembok/LockKindWaitsForPinLaw" = true := by first | (simp [plainName, overriddenIn]; done) | decide +kernel
theorem ef_1_I (m : MethodId) (x0 : Int32) : entryFrame m #[(.int x0)] 2 = mkF m 0 #[.val (.int x0), .unset] [] := by first | (simp [entryFrame, mkF, argsToLocals, Value.category]; done) | rfl
set_option maxRecDepth 65536 in
set_option maxHeartbeats 40000000 in
theorem rmk_0 (l : Launch) (Z : State) (a0 : Array Value) (hw : ∀ d ∈ tables_1, d.before a0 Z = true) (ws : List Jvm.Cond) (ad : Nat → Addr) (NF : Facts Z ad) (h0 : Heap) (n0 : Nat) (Ol : Old Z n0 h0) (p0 : Int32) (hi : (p0 &&& (2147483647 : Int32)) % (3 : Int32) = (0 : Int32)) :
    MetFree l (⟨"com/example/gembok/gembok/LockKindWaitsForPinLaw", "kind", "(I)Lcom/example/gembok/gembok/LockKind;"⟩ : MethodName) (head1 (Jvm.Cond.code (⟨"com/example/gembok/gembok/LockKindWaitsForPinLaw", "kind", "(I)Lcom/example/gembok/gembok/LockKind;"⟩ : MethodName) method_2_code 2 (some (.object "com/example/gembok/gembok/LockKind")) :: ws) ({ frames := 0, cells := 0, slots := 0, locals := 0 } : Room)) (fun a U => a = #[(.int p0)] ∧ Z.Warmed39 U.vm ∧ U.heap = h0) (fun _ _ _ _ _ => True) (fun _ U o U' => ∃ v L, o = .returned v ∧ QS (.ref (ad 0)) h0 n0 v U'.heap L ∧ FrameEnd U o U' L ({ frames := 0, cells := 0, slots := 0, locals := 0 } : Room).cells ({ frames := 0, cells := 0, slots := 0, locals := 0 } : Room).slots) := by
  refine MetFree.of_bodySF (plainFor_of_name pn_1) hisR ?_
  intro p e s m args below meth c s₁ Bd hml0 hP hK
  obtain ⟨rfl, hZ, hh⟩ := hP
  have hx := Bd.exec
  have hby := Bd.bytes
  have hml : c.maxLocals = 2 := hml0
  have hown : s.vm.findClass "com/example/gembok/gembok/LockKindWaitsForPinLaw" = some m.cls := findClass_of_methodNamed Bd.named
  have X0 : Stand p l e ({ frames := 0, cells := 0, slots := 0, locals := 0 } : Room) s m #[(.int p0)] below meth c s₁ [] 0 0 := Stand.of_body Bd
  have e0 : s₁.heap = h0 := by rw [← hh, Bd.state]; rfl
  have N0 := Fr.nil n0
  have pre0 : ∀ t, Steps p.tables e below (s₁.setTop (mkF m 0 #[.val (.int p0), .unset] [])) t → Steps p.tables e below (s₁.setTop (entryFrame m #[(.int p0)] 2)) t := fun t k => castTop (ef_1_I m (p0)) k
  obtain ⟨T1, X1, e1, st1⟩ := getS2 X0 hx hZ hown (host := "") (Or.inl (hw _ (List.mem_of_getElem? (i := 5) rfl))) Via.refl e0 ((ft_3 NF).ext Ol.2) (g := (mkF m 11 #[.val (.int p0), .val (.int (0 : Int32))] [])) rfl (hb hby d1_11)
  obtain ⟨fs, hr, hrun, hended, hW, hsame⟩ := X1.leave (v := some (.ref (ad 0))) (fun h => by rw [Bd.returns] at h; cases h)
  refine ⟨_, _, pre0 _ ?_, hrun, hended, _, _, rfl, ?_, ⟨_, rfl⟩, hW, hsame.mono (by decide) (by decide)⟩
  · show Steps p.tables e below (s₁.setTop (mkF m 0 #[.val (.int p0), .unset] [])) _
    refine XS.iloadN X0.here hx rfl (hb hby d1_0) rfl ?_
    show Steps p.tables e below (s₁.setTop (mkF m 1 #[.val (.int p0), .unset] [(.int p0)])) _
    refine X0.ldcInt hx hown (mvT hZ (hw _ (List.mem_of_getElem? (i := 4) rfl))) (g := (mkF m 1 #[.val (.int p0), .unset] [(.int p0)])) rfl (hb hby d1_1) _ ?_
    show Steps p.tables e below (s₁.setTop (mkF m 3 #[.val (.int p0), .unset] [(.int (2147483647 : Int32)), (.int p0)])) _
    refine XS.iand X0.here hx rfl (hb hby d1_3) rfl ?_
    show Steps p.tables e below (s₁.setTop (mkF m 4 #[.val (.int p0), .unset] [(.int (p0 &&& (2147483647 : Int32)))])) _
    refine XS.iconst X0.here hx rfl (hb hby d1_4) ?_
    show Steps p.tables e below (s₁.setTop (mkF m 5 #[.val (.int p0), .unset] [(.int (3 : Int32)), (.int (p0 &&& (2147483647 : Int32)))])) _
    refine iremM X0 hx rfl (hb hby d1_5) rfl (by decide) ?_
    show Steps p.tables e below (s₁.setTop (mkF m 6 #[.val (.int p0), .unset] [(.int ((p0 &&& (2147483647 : Int32)) % (3 : Int32)))])) _
    rw [hi]
    show Steps p.tables e below (s₁.setTop (mkF m 6 #[.val (.int p0), .unset] [(.int (0 : Int32))])) _
    refine XS.istoreN X0.here hx rfl (hb hby d1_6) rfl (l' := #[.val (.int p0), .val (.int (0 : Int32))]) rfl ?_
    show Steps p.tables e below (s₁.setTop (mkF m 7 #[.val (.int p0), .val (.int (0 : Int32))] [])) _
    refine XS.iloadN X0.here hx rfl (hb hby d1_7) rfl ?_
    show Steps p.tables e below (s₁.setTop (mkF m 8 #[.val (.int p0), .val (.int (0 : Int32))] [(.int (0 : Int32))])) _
    refine XS.ifNo X0.here hx rfl (hb hby d1_8) rfl ((if0 _ _).trans (teq (by decide)).2) ?_
    show Steps p.tables e below (s₁.setTop (mkF m 11 #[.val (.int p0), .val (.int (0 : Int32))] [])) _
    refine st1 _ ?_
    show Steps p.tables e below (T1.setTop (mkF m 14 #[.val (.int p0), .val (.int (0 : Int32))] [(.ref (ad 0))])) _
    exact retOut X1 hx Bd.returns (by rfl) (Or.inr (Or.inr (Or.inr (Or.inr ⟨rfl, rfl, rfl⟩)))) (hb hby d1_14) hr
  · exact ⟨rfl, N0, e1⟩
theorem d1_15 : decode method_2_code 15 = .ok (.iload_n 1, 1) := by decide +kernel
theorem d1_16 : decode method_2_code 16 = .ok (.iconst 1, 1) := by decide +kernel
theorem d1_17 : decode method_2_code 17 = .ok (.if_icmp .ne 7, 3) := by decide +kernel
theorem d1_20 : decode method_2_code 20 = .ok (.getstatic 14, 3) := by decide +kernel
theorem d1_23 : decode method_2_code 23 = .ok (.areturn, 1) := by decide +kernel
set_option maxRecDepth 65536 in
set_option maxHeartbeats 40000000 in
theorem rmk_1 (l : Launch) (Z : State) (a0 : Array Value) (hw : ∀ d ∈ tables_1, d.before a0 Z = true) (ws : List Jvm.Cond) (ad : Nat → Addr) (NF : Facts Z ad) (h0 : Heap) (n0 : Nat) (Ol : Old Z n0 h0) (p0 : Int32) (hi : (p0 &&& (2147483647 : Int32)) % (3 : Int32) = (1 : Int32)) :
    MetFree l (⟨"com/example/gembok/gembok/LockKindWaitsForPinLaw", "kind", "(I)Lcom/example/gembok/gembok/LockKind;"⟩ : MethodName) (head1 (Jvm.Cond.code (⟨"com/example/gembok/gembok/LockKindWaitsForPinLaw", "kind", "(I)Lcom/example/gembok/gembok/LockKind;"⟩ : MethodName) method_2_code 2 (some (.object "com/example/gembok/gembok/LockKind")) :: ws) ({ frames := 0, cells := 0, slots := 0, locals := 0 } : Room)) (fun a U => a = #[(.int p0)] ∧ Z.Warmed39 U.vm ∧ U.heap = h0) (fun _ _ _ _ _ => True) (fun _ U o U' => ∃ v L, o = .returned v ∧ QS (.ref (ad 1)) h0 n0 v U'.heap L ∧ FrameEnd U o U' L ({ frames := 0, cells := 0, slots := 0, locals := 0 } : Room).cells ({ frames := 0, cells := 0, slots := 0, locals := 0 } : Room).slots) := by
  refine MetFree.of_bodySF (plainFor_of_name pn_1) hisR ?_
  intro p e s m args below meth c s₁ Bd hml0 hP hK
  obtain ⟨rfl, hZ, hh⟩ := hP
  have hx := Bd.exec
  have hby := Bd.bytes
  have hml : c.maxLocals = 2 := hml0
  have hown : s.vm.findClass "com/example/gembok/gembok/LockKindWaitsForPinLaw" = some m.cls := findClass_of_methodNamed Bd.named
  have X0 : Stand p l e ({ frames := 0, cells := 0, slots := 0, locals := 0 } : Room) s m #[(.int p0)] below meth c s₁ [] 0 0 := Stand.of_body Bd
  have e0 : s₁.heap = h0 := by rw [← hh, Bd.state]; rfl
  have N0 := Fr.nil n0
  have pre0 : ∀ t, Steps p.tables e below (s₁.setTop (mkF m 0 #[.val (.int p0), .unset] [])) t → Steps p.tables e below (s₁.setTop (entryFrame m #[(.int p0)] 2)) t := fun t k => castTop (ef_1_I m (p0)) k
  obtain ⟨T1, X1, e1, st1⟩ := getS2 X0 hx hZ hown (host := "") (Or.inl (hw _ (List.mem_of_getElem? (i := 23) rfl))) Via.refl e0 ((ft_4 NF).ext Ol.2) (g := (mkF m 20 #[.val (.int p0), .val (.int (1 : Int32))] [])) rfl (hb hby d1_20)
  obtain ⟨fs, hr, hrun, hended, hW, hsame⟩ := X1.leave (v := some (.ref (ad 1))) (fun h => by rw [Bd.returns] at h; cases h)
  refine ⟨_, _, pre0 _ ?_, hrun, hended, _, _, rfl, ?_, ⟨_, rfl⟩, hW, hsame.mono (by decide) (by decide)⟩
  · show Steps p.tables e below (s₁.setTop (mkF m 0 #[.val (.int p0), .unset] [])) _
    refine XS.iloadN X0.here hx rfl (hb hby d1_0) rfl ?_
    show Steps p.tables e below (s₁.setTop (mkF m 1 #[.val (.int p0), .unset] [(.int p0)])) _
    refine X0.ldcInt hx hown (mvT hZ (hw _ (List.mem_of_getElem? (i := 4) rfl))) (g := (mkF m 1 #[.val (.int p0), .unset] [(.int p0)])) rfl (hb hby d1_1) _ ?_
    show Steps p.tables e below (s₁.setTop (mkF m 3 #[.val (.int p0), .unset] [(.int (2147483647 : Int32)), (.int p0)])) _
    refine XS.iand X0.here hx rfl (hb hby d1_3) rfl ?_
    show Steps p.tables e below (s₁.setTop (mkF m 4 #[.val (.int p0), .unset] [(.int (p0 &&& (2147483647 : Int32)))])) _
    refine XS.iconst X0.here hx rfl (hb hby d1_4) ?_
    show Steps p.tables e below (s₁.setTop (mkF m 5 #[.val (.int p0), .unset] [(.int (3 : Int32)), (.int (p0 &&& (2147483647 : Int32)))])) _
    refine iremM X0 hx rfl (hb hby d1_5) rfl (by decide) ?_
    show Steps p.tables e below (s₁.setTop (mkF m 6 #[.val (.int p0), .unset] [(.int ((p0 &&& (2147483647 : Int32)) % (3 : Int32)))])) _
    rw [hi]
    show Steps p.tables e below (s₁.setTop (mkF m 6 #[.val (.int p0), .unset] [(.int (1 : Int32))])) _
    refine XS.istoreN X0.here hx rfl (hb hby d1_6) rfl (l' := #[.val (.int p0), .val (.int (1 : Int32))]) rfl ?_
    show Steps p.tables e below (s₁.setTop (mkF m 7 #[.val (.int p0), .val (.int (1 : Int32))] [])) _
    refine XS.iloadN X0.here hx rfl (hb hby d1_7) rfl ?_
    show Steps p.tables e below (s₁.setTop (mkF m 8 #[.val (.int p0), .val (.int (1 : Int32))] [(.int (1 : Int32))])) _
    refine XS.ifYes X0.here hx rfl (pc0 := 8) (pc' := 15) rfl (hb hby d1_8) rfl ((if0 _ _).trans (feq (by decide)).2) (by decide) (by decide) ?_
    show Steps p.tables e below (s₁.setTop (mkF m 15 #[.val (.int p0), .val (.int (1 : Int32))] [])) _
    refine XS.iloadN X0.here hx rfl (hb hby d1_15) rfl ?_
    show Steps p.tables e below (s₁.setTop (mkF m 16 #[.val (.int p0), .val (.int (1 : Int32))] [(.int (1 : Int32))])) _
    refine XS.iconst X0.here hx rfl (hb hby d1_16) ?_
    show Steps p.tables e below (s₁.setTop (mkF m 17 #[.val (.int p0), .val (.int (1 : Int32))] [(.int (1 : Int32)), (.int (1 : Int32))])) _
    refine XS.icmpNo X0.here hx rfl (hb hby d1_17) rfl (teq (by decide)).2 ?_
    show Steps p.tables e below (s₁.setTop (mkF m 20 #[.val (.int p0), .val (.int (1 : Int32))] [])) _
    refine st1 _ ?_
    show Steps p.tables e below (T1.setTop (mkF m 23 #[.val (.int p0), .val (.int (1 : Int32))] [(.ref (ad 1))])) _
    exact retOut X1 hx Bd.returns (by rfl) (Or.inr (Or.inr (Or.inr (Or.inr ⟨rfl, rfl, rfl⟩)))) (hb hby d1_23) hr
  · exact ⟨rfl, N0, e1⟩
theorem d1_24 : decode method_2_code 24 = .ok (.getstatic 17, 3) := by decide +kernel
theorem d1_27 : decode method_2_code 27 = .ok (.areturn, 1) := by decide +kernel
set_option maxRecDepth 65536 in
set_option maxHeartbeats 40000000 in
theorem rmk_2 (l : Launch) (Z : State) (a0 : Array Value) (hw : ∀ d ∈ tables_1, d.before a0 Z = true) (ws : List Jvm.Cond) (ad : Nat → Addr) (NF : Facts Z ad) (h0 : Heap) (n0 : Nat) (Ol : Old Z n0 h0) (p0 : Int32) (hi : (p0 &&& (2147483647 : Int32)) % (3 : Int32) = (2 : Int32)) :
    MetFree l (⟨"com/example/gembok/gembok/LockKindWaitsForPinLaw", "kind", "(I)Lcom/example/gembok/gembok/LockKind;"⟩ : MethodName) (head1 (Jvm.Cond.code (⟨"com/example/gembok/gembok/LockKindWaitsForPinLaw", "kind", "(I)Lcom/example/gembok/gembok/LockKind;"⟩ : MethodName) method_2_code 2 (some (.object "com/example/gembok/gembok/LockKind")) :: ws) ({ frames := 0, cells := 0, slots := 0, locals := 0 } : Room)) (fun a U => a = #[(.int p0)] ∧ Z.Warmed39 U.vm ∧ U.heap = h0) (fun _ _ _ _ _ => True) (fun _ U o U' => ∃ v L, o = .returned v ∧ QS (.ref (ad 2)) h0 n0 v U'.heap L ∧ FrameEnd U o U' L ({ frames := 0, cells := 0, slots := 0, locals := 0 } : Room).cells ({ frames := 0, cells := 0, slots := 0, locals := 0 } : Room).slots) := by
  refine MetFree.of_bodySF (plainFor_of_name pn_1) hisR ?_
  intro p e s m args below meth c s₁ Bd hml0 hP hK
  obtain ⟨rfl, hZ, hh⟩ := hP
  have hx := Bd.exec
  have hby := Bd.bytes
  have hml : c.maxLocals = 2 := hml0
  have hown : s.vm.findClass "com/example/gembok/gembok/LockKindWaitsForPinLaw" = some m.cls := findClass_of_methodNamed Bd.named
  have X0 : Stand p l e ({ frames := 0, cells := 0, slots := 0, locals := 0 } : Room) s m #[(.int p0)] below meth c s₁ [] 0 0 := Stand.of_body Bd
  have e0 : s₁.heap = h0 := by rw [← hh, Bd.state]; rfl
  have N0 := Fr.nil n0
  have pre0 : ∀ t, Steps p.tables e below (s₁.setTop (mkF m 0 #[.val (.int p0), .unset] [])) t → Steps p.tables e below (s₁.setTop (entryFrame m #[(.int p0)] 2)) t := fun t k => castTop (ef_1_I m (p0)) k
  obtain ⟨T1, X1, e1, st1⟩ := getS2 X0 hx hZ hown (host := "") (Or.inl (hw _ (List.mem_of_getElem? (i := 25) rfl))) Via.refl e0 ((ft_5 NF).ext Ol.2) (g := (mkF m 24 #[.val (.int p0), .val (.int (2 : Int32))] [])) rfl (hb hby d1_24)
  obtain ⟨fs, hr, hrun, hended, hW, hsame⟩ := X1.leave (v := some (.ref (ad 2))) (fun h => by rw [Bd.returns] at h; cases h)
  refine ⟨_, _, pre0 _ ?_, hrun, hended, _, _, rfl, ?_, ⟨_, rfl⟩, hW, hsame.mono (by decide) (by decide)⟩
  · show Steps p.tables e below (s₁.setTop (mkF m 0 #[.val (.int p0), .unset] [])) _
    refine XS.iloadN X0.here hx rfl (hb hby d1_0) rfl ?_
    show Steps p.tables e below (s₁.setTop (mkF m 1 #[.val (.int p0), .unset] [(.int p0)])) _
    refine X0.ldcInt hx hown (mvT hZ (hw _ (List.mem_of_getElem? (i := 4) rfl))) (g := (mkF m 1 #[.val (.int p0), .unset] [(.int p0)])) rfl (hb hby d1_1) _ ?_
    show Steps p.tables e below (s₁.setTop (mkF m 3 #[.val (.int p0), .unset] [(.int (2147483647 : Int32)), (.int p0)])) _
    refine XS.iand X0.here hx rfl (hb hby d1_3) rfl ?_
    show Steps p.tables e below (s₁.setTop (mkF m 4 #[.val (.int p0), .unset] [(.int (p0 &&& (2147483647 : Int32)))])) _
    refine XS.iconst X0.here hx rfl (hb hby d1_4) ?_
    show Steps p.tables e below (s₁.setTop (mkF m 5 #[.val (.int p0), .unset] [(.int (3 : Int32)), (.int (p0 &&& (2147483647 : Int32)))])) _
    refine iremM X0 hx rfl (hb hby d1_5) rfl (by decide) ?_
    show Steps p.tables e below (s₁.setTop (mkF m 6 #[.val (.int p0), .unset] [(.int ((p0 &&& (2147483647 : Int32)) % (3 : Int32)))])) _
    rw [hi]
    show Steps p.tables e below (s₁.setTop (mkF m 6 #[.val (.int p0), .unset] [(.int (2 : Int32))])) _
    refine XS.istoreN X0.here hx rfl (hb hby d1_6) rfl (l' := #[.val (.int p0), .val (.int (2 : Int32))]) rfl ?_
    show Steps p.tables e below (s₁.setTop (mkF m 7 #[.val (.int p0), .val (.int (2 : Int32))] [])) _
    refine XS.iloadN X0.here hx rfl (hb hby d1_7) rfl ?_
    show Steps p.tables e below (s₁.setTop (mkF m 8 #[.val (.int p0), .val (.int (2 : Int32))] [(.int (2 : Int32))])) _
    refine XS.ifYes X0.here hx rfl (pc0 := 8) (pc' := 15) rfl (hb hby d1_8) rfl ((if0 _ _).trans (feq (by decide)).2) (by decide) (by decide) ?_
    show Steps p.tables e below (s₁.setTop (mkF m 15 #[.val (.int p0), .val (.int (2 : Int32))] [])) _
    refine XS.iloadN X0.here hx rfl (hb hby d1_15) rfl ?_
    show Steps p.tables e below (s₁.setTop (mkF m 16 #[.val (.int p0), .val (.int (2 : Int32))] [(.int (2 : Int32))])) _
    refine XS.iconst X0.here hx rfl (hb hby d1_16) ?_
    show Steps p.tables e below (s₁.setTop (mkF m 17 #[.val (.int p0), .val (.int (2 : Int32))] [(.int (1 : Int32)), (.int (2 : Int32))])) _
    refine XS.icmpYes X0.here hx rfl (pc0 := 17) (pc' := 24) rfl (hb hby d1_17) rfl (feq (by decide)).2 (by decide) (by decide) ?_
    show Steps p.tables e below (s₁.setTop (mkF m 24 #[.val (.int p0), .val (.int (2 : Int32))] [])) _
    refine st1 _ ?_
    show Steps p.tables e below (T1.setTop (mkF m 27 #[.val (.int p0), .val (.int (2 : Int32))] [(.ref (ad 2))])) _
    exact retOut X1 hx Bd.returns (by rfl) (Or.inr (Or.inr (Or.inr (Or.inr ⟨rfl, rfl, rfl⟩)))) (hb hby d1_27) hr
  · exact ⟨rfl, N0, e1⟩
theorem pd_1 : parseMethodDescriptor "(I)Lcom/example/gembok/gembok/LockKind;" = some ⟨[.int], some (.object "com/example/gembok/gembok/LockKind")⟩ := by decide +kernel
theorem d2_0 : decode prog_10_method_4_code 0 = .ok (.aload_n 0, 1) := by decide +kernel
theorem d2_1 : decode prog_10_method_4_code 1 = .ok (.invokevirtual 36, 3) := by decide +kernel
theorem d3_0 : decode jdk_37_method_2_code 0 = .ok (.aload_n 0, 1) := by decide +kernel
theorem d3_1 : decode jdk_37_method_2_code 1 = .ok (.getfield 7, 3) := by decide +kernel
theorem d3_4 : decode jdk_37_method_2_code 4 = .ok (.ireturn, 1) := by decide +kernel
theorem pn_3 : plainName "java/lang/Enum" = true := by first | (simp [plainName, overriddenIn]; done) | decide +kernel
theorem ef_3_R (m : MethodId) (x0 : Addr) : entryFrame m #[(.ref x0)] 1 = mkF m 0 #[.val (.ref x0)] [] := by first | (simp [entryFrame, mkF, argsToLocals, Value.category]; done) | rfl
set_option maxRecDepth 65536 in
set_option maxHeartbeats 40000000 in
theorem rm3_ad0 (l : Launch) (Z : State) (a0 : Array Value) (hw : ∀ d ∈ tables_1, d.before a0 Z = true) (ws : List Jvm.Cond) (ad : Nat → Addr) (NF : Facts Z ad) (h0 : Heap) (n0 : Nat) (Ol : Old Z n0 h0) :
    MetFree l (⟨"java/lang/Enum", "ordinal", "()I"⟩ : MethodName) (head1 (Jvm.Cond.code (⟨"java/lang/Enum", "ordinal", "()I"⟩ : MethodName) jdk_37_method_2_code 1 (some .int) :: ws) ({ frames := 0, cells := 0, slots := 0, locals := 0 } : Room)) (fun a U => a = #[(.ref (ad 0))] ∧ Z.Warmed39 U.vm ∧ U.heap = h0) (fun _ _ _ _ _ => True) (fun _ U o U' => ∃ v L, o = .returned v ∧ QS (.int (0 : Int32)) h0 n0 v U'.heap L ∧ FrameEnd U o U' L ({ frames := 0, cells := 0, slots := 0, locals := 0 } : Room).cells ({ frames := 0, cells := 0, slots := 0, locals := 0 } : Room).slots) := by
  refine MetFree.of_bodySF (plainFor_of_name pn_3) hisR ?_
  intro p e s m args below meth c s₁ Bd hml0 hP hK
  obtain ⟨rfl, hZ, hh⟩ := hP
  have hx := Bd.exec
  have hby := Bd.bytes
  have hml : c.maxLocals = 1 := hml0
  have hown : s.vm.findClass "java/lang/Enum" = some m.cls := findClass_of_methodNamed Bd.named
  have X0 : Stand p l e ({ frames := 0, cells := 0, slots := 0, locals := 0 } : Room) s m #[(.ref (ad 0))] below meth c s₁ [] 0 0 := Stand.of_body Bd
  have e0 : s₁.heap = h0 := by rw [← hh, Bd.state]; rfl
  have N0 := Fr.nil n0
  have pre0 : ∀ t, Steps p.tables e below (s₁.setTop (mkF m 0 #[.val (.ref (ad 0))] [])) t → Steps p.tables e below (s₁.setTop (entryFrame m #[(.ref (ad 0))] 1)) t := fun t k => castTop (ef_3_R m (ad 0)) k
  obtain ⟨T1, X1, e1, st1⟩ := getF X0 hx hZ hown (host := "") (Or.inl (hw _ (List.mem_of_getElem? (i := 20) rfl))) Via.refl e0 ((ft_6 NF).ext Ol.2) (g := (mkF m 1 #[.val (.ref (ad 0))] [(.ref (ad 0))])) rfl rfl (hb hby d3_1)
  obtain ⟨fs, hr, hrun, hended, hW, hsame⟩ := X1.leave (v := some (.int (0 : Int32))) (fun h => by rw [Bd.returns] at h; cases h)
  refine ⟨_, _, pre0 _ ?_, hrun, hended, _, _, rfl, ?_, ⟨_, rfl⟩, hW, hsame.mono (by decide) (by decide)⟩
  · show Steps p.tables e below (s₁.setTop (mkF m 0 #[.val (.ref (ad 0))] [])) _
    refine XS.aloadN X0.here hx rfl (hb hby d3_0) rfl rfl ?_
    show Steps p.tables e below (s₁.setTop (mkF m 1 #[.val (.ref (ad 0))] [(.ref (ad 0))])) _
    refine st1 _ ?_
    show Steps p.tables e below (T1.setTop (mkF m 4 #[.val (.ref (ad 0))] [(.int (0 : Int32))])) _
    exact retI X1 hx Bd.returns (hb hby d3_4) hr
  · exact ⟨rfl, N0, e1⟩
theorem pd_2 : parseMethodDescriptor "()I" = some ⟨[], some .int⟩ := by decide +kernel
theorem d2_4 : decode prog_10_method_4_code 4 = .ok (.tableswitch 28 0 2 #[38, 53, 68], 28) := by decide +kernel
theorem d2_42 : decode prog_10_method_4_code 42 = .ok (.aload_n 1, 1) := by decide +kernel
theorem d2_43 : decode prog_10_method_4_code 43 = .ok (.getstatic 3, 3) := by decide +kernel
theorem d2_46 : decode prog_10_method_4_code 46 = .ok (.if_acmp .ne 7, 3) := by decide +kernel
theorem d2_49 : decode prog_10_method_4_code 49 = .ok (.iconst 1, 1) := by decide +kernel
theorem d2_50 : decode prog_10_method_4_code 50 = .ok (.goto 41, 3) := by decide +kernel
theorem d2_91 : decode prog_10_method_4_code 91 = .ok (.ireturn, 1) := by decide +kernel
theorem pn_2 : plainName "com/example/gembok/gembok/LockKind" = true := by first | (simp [plainName, overriddenIn]; done) | decide +kernel
theorem ef_2_RR (m : MethodId) (x0 : Addr) (x1 : Addr) : entryFrame m #[(.ref x0), (.ref x1)] 2 = mkF m 0 #[.val (.ref x0), .val (.ref x1)] [] := by first | (simp [entryFrame, mkF, argsToLocals, Value.category]; done) | rfl
set_option maxRecDepth 65536 in
set_option maxHeartbeats 40000000 in
theorem rm2_ad0_ad0 (l : Launch) (Z : State) (a0 : Array Value) (hw : ∀ d ∈ tables_1, d.before a0 Z = true) (ws : List Jvm.Cond) (ad : Nat → Addr) (NF : Facts Z ad) (h0 : Heap) (n0 : Nat) (Ol : Old Z n0 h0) :
    MetFree l (⟨"com/example/gembok/gembok/LockKind", "waitsFor", "(Lcom/example/gembok/gembok/LockKind;)Z"⟩ : MethodName) (head1 (Jvm.Cond.code (⟨"com/example/gembok/gembok/LockKind", "waitsFor", "(Lcom/example/gembok/gembok/LockKind;)Z"⟩ : MethodName) prog_10_method_4_code 2 (some .boolean) :: ws) ({ frames := 1, cells := 0, slots := 0, locals := 12 } : Room)) (fun a U => a = #[(.ref (ad 0)), (.ref (ad 0))] ∧ Z.Warmed39 U.vm ∧ U.heap = h0) (fun _ _ _ _ _ => True) (fun _ U o U' => ∃ v L, o = .returned v ∧ QS (.int (1 : Int32)) h0 n0 v U'.heap L ∧ FrameEnd U o U' L ({ frames := 1, cells := 0, slots := 0, locals := 12 } : Room).cells ({ frames := 1, cells := 0, slots := 0, locals := 12 } : Room).slots) := by
  refine MetFree.of_bodySF (plainFor_of_name pn_2) hisR ?_
  intro p e s m args below meth c s₁ Bd hml0 hP hK
  obtain ⟨rfl, hZ, hh⟩ := hP
  have hx := Bd.exec
  have hby := Bd.bytes
  have hml : c.maxLocals = 2 := hml0
  have hown : s.vm.findClass "com/example/gembok/gembok/LockKind" = some m.cls := findClass_of_methodNamed Bd.named
  have X0 : Stand p l e ({ frames := 1, cells := 0, slots := 0, locals := 12 } : Room) s m #[(.ref (ad 0)), (.ref (ad 0))] below meth c s₁ [] 0 0 := Stand.of_body Bd
  have e0 : s₁.heap = h0 := by rw [← hh, Bd.state]; rfl
  have N0 := Fr.nil n0
  have pre0 : ∀ t, Steps p.tables e below (s₁.setTop (mkF m 0 #[.val (.ref (ad 0)), .val (.ref (ad 0))] [])) t → Steps p.tables e below (s₁.setTop (entryFrame m #[(.ref (ad 0)), (.ref (ad 0))] 2)) t := fun t k => castTop (ef_2_RR m (ad 0) (ad 0)) k
  obtain ⟨cq1, kq1, qa1, qb1, qc1⟩ := isOf hZ e0 ((ft_0 NF).ext Ol.2)
  obtain ⟨_, _, ⟨T1, L1, k1, n1⟩, -, X1, ⟨Lc1, hQ1, l1, y1, z1⟩, st1⟩ := X0.virtualBackUp hx (owner := "java/lang/Enum") (x := (⟨"com/example/gembok/gembok/LockKind", "ordinal", "()I"⟩ : MethodName)) (y := (⟨"java/lang/Enum", "ordinal", "()I"⟩ : MethodName)) hown (mvT hZ (hw _ (List.mem_of_getElem? (i := 13) rfl))) (mvT hZ (hw _ (List.mem_of_getElem? (i := 14) rfl))) (mvT hZ (hw _ (List.mem_of_getElem? (i := 15) rfl))) (by decide) (mvT hZ (hw _ (List.mem_of_getElem? (i := 17) rfl))) (mvT hZ (hw _ (List.mem_of_getElem? (i := 16) rfl))) (backOf (W := 0) (rm3_ad0 l Z a0 hw [] ad NF h0 n0 Ol) hZ (hw _ (List.mem_of_getElem? (i := 19) rfl)) (hw _ (List.mem_of_getElem? (i := 18) rfl)) (by decide) (by decide)) qa1 qc1 (g := (mkF m 1 #[.val (.ref (ad 0)), .val (.ref (ad 0))] [(.ref (ad 0))])) rfl (by rw [hml]; rfl) (Steps.refl _) (argsL := []) (rest := []) (lenOf pd_2 rfl) rfl (by show 2 * 0 + _ ≤ _; exact Nat.le_of_eq rfl) (hb hby d2_1) (fun _ _ => ⟨rfl, e0, (by decide : 0 + 0 ≤ _), (by decide : 0 + 0 ≤ _)⟩)
  dsimp only [Pt.U, Pt.locs, Pt.cells, Pt.slots] at X1 l1 y1 z1 st1 hQ1
  subst l1 y1 z1
  obtain ⟨rfl, Nq1, e1⟩ := hQ1
  have N1 := Fr.app N0 Nq1
  obtain ⟨T2, X2, e2, st2⟩ := getS2 X1 hx hZ hown (host := "") (Or.inl (hw _ (List.mem_of_getElem? (i := 22) rfl))) Via.refl e1 ((ft_3 NF).ext Ol.2) (g := (mkF m 43 #[.val (.ref (ad 0)), .val (.ref (ad 0))] [(.ref (ad 0))])) rfl (hb hby d2_43)
  obtain ⟨fs, hr, hrun, hended, hW, hsame⟩ := X2.leave (v := some (.int (1 : Int32))) (fun h => by rw [Bd.returns] at h; cases h)
  refine ⟨_, _, pre0 _ ?_, hrun, hended, _, _, rfl, ?_, ⟨_, rfl⟩, hW, hsame.mono (by decide) (by decide)⟩
  · show Steps p.tables e below (s₁.setTop (mkF m 0 #[.val (.ref (ad 0)), .val (.ref (ad 0))] [])) _
    refine XS.aloadN X0.here hx rfl (hb hby d2_0) rfl rfl ?_
    show Steps p.tables e below (s₁.setTop (mkF m 1 #[.val (.ref (ad 0)), .val (.ref (ad 0))] [(.ref (ad 0))])) _
    refine st1.trans ?_
    show Steps p.tables e below (T1.setTop (mkF m 4 #[.val (.ref (ad 0)), .val (.ref (ad 0))] [(.int (0 : Int32))])) _
    refine XS.tswIn X1.here hx rfl (pc0 := 4) (pc' := 42) rfl (hb hby d2_4) (i := (0 : Int32)) rfl (by decide) (o := 38) (by decide) (by decide) (by decide) ?_
    show Steps p.tables e below (T1.setTop (mkF m 42 #[.val (.ref (ad 0)), .val (.ref (ad 0))] [])) _
    refine XS.aloadN X1.here hx rfl (hb hby d2_42) rfl rfl ?_
    show Steps p.tables e below (T1.setTop (mkF m 43 #[.val (.ref (ad 0)), .val (.ref (ad 0))] [(.ref (ad 0))])) _
    refine st2 _ ?_
    show Steps p.tables e below (T2.setTop (mkF m 46 #[.val (.ref (ad 0)), .val (.ref (ad 0))] [(.ref (ad 0)), (.ref (ad 0))])) _
    refine acmp X2 hx rfl (x := (.ref (ad 0))) (y := (.ref (ad 0))) rfl rfl (pc0 := 46) (pc' := 49) (same := true) rfl (hb hby d2_46) rfl (decide_eq_true rfl) (by decide) (by decide) ?_
    show Steps p.tables e below (T2.setTop (mkF m 49 #[.val (.ref (ad 0)), .val (.ref (ad 0))] [])) _
    refine XS.iconst X2.here hx rfl (hb hby d2_49) ?_
    show Steps p.tables e below (T2.setTop (mkF m 50 #[.val (.ref (ad 0)), .val (.ref (ad 0))] [(.int (1 : Int32))])) _
    refine XS.goto X2.here hx rfl (pc0 := 50) (pc' := 91) rfl (hb hby d2_50) (by decide) (by decide) ?_
    show Steps p.tables e below (T2.setTop (mkF m 91 #[.val (.ref (ad 0)), .val (.ref (ad 0))] [(.int (1 : Int32))])) _
    exact retN X2 hx (t := .boolean) Bd.returns (by simp) (hb hby d2_91) hr
  · exact ⟨rfl, N1, e2⟩
theorem pd_3 : parseMethodDescriptor "(Lcom/example/gembok/gembok/LockKind;)Z" = some ⟨[(.object "com/example/gembok/gembok/LockKind")], some .boolean⟩ := by decide +kernel
theorem ef_0_II (m : MethodId) (x0 : Int32) (x1 : Int32) : entryFrame m #[(.int x0), (.int x1)] maxLocals = mkF m 0 #[.val (.int x0), .val (.int x1), .unset, .unset, .unset, .unset, .unset] [] := by first | (simp [entryFrame, mkF, argsToLocals, Value.category, maxLocals]; done) | rfl
set_option maxRecDepth 65536 in
set_option maxHeartbeats 40000000 in
theorem rm0_0_0 (l : Launch) (Z : State) (a0 : Array Value) (hw : ∀ d ∈ tables_1, d.before a0 Z = true) (ws : List Jvm.Cond) (ad : Nat → Addr) (NF : Facts Z ad) (h0 : Heap) (n0 : Nat) (Ol : Old Z n0 h0) (p0 p1 : Int32) (hi0 : (p0 &&& (2147483647 : Int32)) % (3 : Int32) = (0 : Int32)) (hi1 : (p1 &&& (2147483647 : Int32)) % (3 : Int32) = (0 : Int32)) :
    MetFree l x (head1 (Jvm.Cond.code x code maxLocals ret :: ws) room_1) (fun a U => a = #[(.int p0), (.int p1)] ∧ Z.Warmed39 U.vm ∧ U.heap = h0) (fun _ _ _ _ _ => True) (fun _ U o U' => ∃ v L, o = .returned v ∧ QL n0 v U'.heap L ∧ FrameEnd U o U' L room_1.cells room_1.slots) := by
  refine MetFree.of_bodySF (plainFor_of_name pn_1) hisR ?_
  intro p e s m args below meth c s₁ Bd hml0 hP hK
  obtain ⟨rfl, hZ, hh⟩ := hP
  have hx := Bd.exec
  have hby := Bd.bytes
  have hml : c.maxLocals = 7 := hml0
  have hown : s.vm.findClass "com/example/gembok/gembok/LockKindWaitsForPinLaw" = some m.cls := findClass_of_methodNamed Bd.named
  have X0 : Stand p l e room_1 s m #[(.int p0), (.int p1)] below meth c s₁ [] 0 0 := Stand.of_body Bd
  have e0 : s₁.heap = h0 := by rw [← hh, Bd.state]; rfl
  have N0 := Fr.nil n0
  have pre0 : ∀ t, Steps p.tables e below (s₁.setTop (mkF m 0 #[.val (.int p0), .val (.int p1), .unset, .unset, .unset, .unset, .unset] [])) t → Steps p.tables e below (s₁.setTop (entryFrame m #[(.int p0), (.int p1)] maxLocals)) t := fun t k => castTop (ef_0_II m (p0) (p1)) k
  obtain ⟨_, _, ⟨T1, L1, k1, n1⟩, -, X1, ⟨Lc1, hQ1, l1, y1, z1⟩, st1⟩ := Jvm.LawKit.callS X0 hx (y := (⟨"com/example/gembok/gembok/LockKindWaitsForPinLaw", "kind", "(I)Lcom/example/gembok/gembok/LockKind;"⟩ : MethodName)) hown (mvT hZ (hw _ (List.mem_of_getElem? (i := 0) rfl))) (mvT hZ (hw _ (List.mem_of_getElem? (i := 1) rfl))) (mvT hZ (hw _ (List.mem_of_getElem? (i := 2) rfl))) (mvT hZ (hw _ (List.mem_of_getElem? (i := 3) rfl))) (by decide) (backOf (W := 0) (rmk_0 l Z a0 hw [] ad NF h0 n0 Ol p0 hi0) hZ (hw _ (List.mem_of_getElem? (i := 3) rfl)) (hw _ (List.mem_of_getElem? (i := 2) rfl)) (by decide) (by decide)) (g := (mkF m 1 #[.val (.int p0), .val (.int p1), .unset, .unset, .unset, .unset, .unset] [(.int p0)])) rfl (by rw [hml]; rfl) (argsL := [(.int p0)]) (rest := []) (lenOf pd_1 rfl) rfl (by show 2 * 0 + _ ≤ _; exact Nat.le_of_eq rfl) (hb hby at_1) (fun _ _ => ⟨rfl, e0, (by decide : 0 + 0 ≤ _), (by decide : 0 + 0 ≤ _)⟩)
  dsimp only [Pt.U, Pt.locs, Pt.cells, Pt.slots] at X1 l1 y1 z1 st1 hQ1
  subst l1 y1 z1
  obtain ⟨rfl, Nq1, e1⟩ := hQ1
  have N1 := Fr.app N0 Nq1
  obtain ⟨_, _, ⟨T2, L2, k2, n2⟩, -, X2, ⟨Lc2, hQ2, l2, y2, z2⟩, st2⟩ := Jvm.LawKit.callS X1 hx (y := (⟨"com/example/gembok/gembok/LockKindWaitsForPinLaw", "kind", "(I)Lcom/example/gembok/gembok/LockKind;"⟩ : MethodName)) hown (mvT hZ (hw _ (List.mem_of_getElem? (i := 0) rfl))) (mvT hZ (hw _ (List.mem_of_getElem? (i := 1) rfl))) (mvT hZ (hw _ (List.mem_of_getElem? (i := 2) rfl))) (mvT hZ (hw _ (List.mem_of_getElem? (i := 3) rfl))) (by decide) (backOf (W := 0) (rmk_0 l Z a0 hw [] ad NF h0 n0 Ol p1 hi1) hZ (hw _ (List.mem_of_getElem? (i := 3) rfl)) (hw _ (List.mem_of_getElem? (i := 2) rfl)) (by decide) (by decide)) (g := (mkF m 6 #[.val (.int p0), .val (.int p1), .val (.ref (ad 0)), .unset, .unset, .unset, .unset] [(.int p1)])) rfl (by rw [hml]; rfl) (argsL := [(.int p1)]) (rest := []) (lenOf pd_1 rfl) rfl (by show 2 * 0 + _ ≤ _; exact Nat.le_of_eq rfl) (hb hby at_6) (fun _ _ => ⟨rfl, e1, (by decide : 0 + 0 ≤ _), (by decide : 0 + 0 ≤ _)⟩)
  dsimp only [Pt.U, Pt.locs, Pt.cells, Pt.slots] at X2 l2 y2 z2 st2 hQ2
  subst l2 y2 z2
  obtain ⟨rfl, Nq2, e2⟩ := hQ2
  have N2 := Fr.app N1 Nq2
  obtain ⟨cq3, kq3, qa3, qb3, qc3⟩ := isOf hZ e2 ((ft_0 NF).ext Ol.2)
  obtain ⟨_, _, ⟨T3, L3, k3, n3⟩, -, X3, ⟨Lc3, hQ3, l3, y3, z3⟩, st3⟩ := X2.virtualBack hx (y := (⟨"com/example/gembok/gembok/LockKind", "waitsFor", "(Lcom/example/gembok/gembok/LockKind;)Z"⟩ : MethodName)) (z := (⟨"com/example/gembok/gembok/LockKind", "waitsFor", "(Lcom/example/gembok/gembok/LockKind;)Z"⟩ : MethodName)) hown (mvT hZ (hw _ (List.mem_of_getElem? (i := 8) rfl))) (mvT hZ (hw _ (List.mem_of_getElem? (i := 9) rfl))) (notFace_of_selects (args := #[]) (mvT hZ (hw _ (List.mem_of_getElem? (i := 11) rfl)))) (mvT hZ (hw _ (List.mem_of_getElem? (i := 11) rfl))) (mvT hZ (hw _ (List.mem_of_getElem? (i := 10) rfl))) (by decide) (backOf (W := 0) (rm2_ad0_ad0 l Z a0 hw [] ad NF h0 n0 Ol) hZ (hw _ (List.mem_of_getElem? (i := 12) rfl)) (hw _ (List.mem_of_getElem? (i := 6) rfl)) (by decide) (by decide)) qa3 qc3 (g := (mkF m 12 #[.val (.int p0), .val (.int p1), .val (.ref (ad 0)), .val (.ref (ad 0)), .unset, .unset, .unset] [(.ref (ad 0)), (.ref (ad 0))])) rfl (by rw [hml]; rfl) (Steps.refl _) (argsL := [(.ref (ad 0))]) (rest := []) (lenOf pd_3 rfl) rfl (by show 2 * 0 + _ ≤ _; exact Nat.le_of_eq rfl) (hb hby at_12) (fun _ _ => ⟨rfl, e2, (by decide : 0 + 0 ≤ _), (by decide : 0 + 0 ≤ _)⟩)
  dsimp only [Pt.U, Pt.locs, Pt.cells, Pt.slots] at X3 l3 y3 z3 st3 hQ3
  subst l3 y3 z3
  obtain ⟨rfl, Nq3, e3⟩ := hQ3
  have N3 := Fr.app N2 Nq3
  obtain ⟨cq4, kq4, qa4, qb4, qc4⟩ := isOf hZ e3 ((ft_0 NF).ext Ol.2)
  obtain ⟨_, _, ⟨T4, L4, k4, n4⟩, -, X4, ⟨Lc4, hQ4, l4, y4, z4⟩, st4⟩ := X3.virtualBack hx (y := (⟨"com/example/gembok/gembok/LockKind", "waitsFor", "(Lcom/example/gembok/gembok/LockKind;)Z"⟩ : MethodName)) (z := (⟨"com/example/gembok/gembok/LockKind", "waitsFor", "(Lcom/example/gembok/gembok/LockKind;)Z"⟩ : MethodName)) hown (mvT hZ (hw _ (List.mem_of_getElem? (i := 8) rfl))) (mvT hZ (hw _ (List.mem_of_getElem? (i := 9) rfl))) (notFace_of_selects (args := #[]) (mvT hZ (hw _ (List.mem_of_getElem? (i := 11) rfl)))) (mvT hZ (hw _ (List.mem_of_getElem? (i := 11) rfl))) (mvT hZ (hw _ (List.mem_of_getElem? (i := 10) rfl))) (by decide) (backOf (W := 0) (rm2_ad0_ad0 l Z a0 hw [] ad NF h0 n0 Ol) hZ (hw _ (List.mem_of_getElem? (i := 12) rfl)) (hw _ (List.mem_of_getElem? (i := 6) rfl)) (by decide) (by decide)) qa4 qc4 (g := (mkF m 19 #[.val (.int p0), .val (.int p1), .val (.ref (ad 0)), .val (.ref (ad 0)), .val (.int (1 : Int32)), .unset, .unset] [(.ref (ad 0)), (.ref (ad 0))])) rfl (by rw [hml]; rfl) (Steps.refl _) (argsL := [(.ref (ad 0))]) (rest := []) (lenOf pd_3 rfl) rfl (by show 2 * 0 + _ ≤ _; exact Nat.le_of_eq rfl) (hb hby at_19) (fun _ _ => ⟨rfl, e3, (by decide : 0 + 0 ≤ _), (by decide : 0 + 0 ≤ _)⟩)
  dsimp only [Pt.U, Pt.locs, Pt.cells, Pt.slots] at X4 l4 y4 z4 st4 hQ4
  subst l4 y4 z4
  obtain ⟨rfl, Nq4, e4⟩ := hQ4
  have N4 := Fr.app N3 Nq4
  obtain ⟨T5, X5, e5, st5⟩ := getS2 X4 hx hZ hown (host := "") (Or.inl (hw _ (List.mem_of_getElem? (i := 23) rfl))) Via.refl e4 ((ft_4 NF).ext Ol.2) (g := (mkF m 30 #[.val (.int p0), .val (.int p1), .val (.ref (ad 0)), .val (.ref (ad 0)), .val (.int (1 : Int32)), .val (.int (1 : Int32)), .unset] [(.ref (ad 0))])) rfl (hb hby at_30)
  obtain ⟨fs, hr, hrun, hended, hW, hsame⟩ := X5.leave (v := some (.int (1 : Int32))) (fun h => by rw [Bd.returns] at h; cases h)
  refine ⟨_, _, pre0 _ ?_, hrun, hended, _, _, rfl, ?_, ⟨_, rfl⟩, hW, hsame.mono (by decide) (by decide)⟩
  · show Steps p.tables e below (s₁.setTop (mkF m 0 #[.val (.int p0), .val (.int p1), .unset, .unset, .unset, .unset, .unset] [])) _
    refine XS.iloadN X0.here hx rfl (hb hby at_0) rfl ?_
    show Steps p.tables e below (s₁.setTop (mkF m 1 #[.val (.int p0), .val (.int p1), .unset, .unset, .unset, .unset, .unset] [(.int p0)])) _
    refine st1 _ ?_
    show Steps p.tables e below (T1.setTop (mkF m 4 #[.val (.int p0), .val (.int p1), .unset, .unset, .unset, .unset, .unset] [(.ref (ad 0))])) _
    refine XS.astoreN X1.here hx rfl (hb hby at_4) rfl rfl (l' := #[.val (.int p0), .val (.int p1), .val (.ref (ad 0)), .unset, .unset, .unset, .unset]) rfl ?_
    show Steps p.tables e below (T1.setTop (mkF m 5 #[.val (.int p0), .val (.int p1), .val (.ref (ad 0)), .unset, .unset, .unset, .unset] [])) _
    refine XS.iloadN X1.here hx rfl (hb hby at_5) rfl ?_
    show Steps p.tables e below (T1.setTop (mkF m 6 #[.val (.int p0), .val (.int p1), .val (.ref (ad 0)), .unset, .unset, .unset, .unset] [(.int p1)])) _
    refine st2 _ ?_
    show Steps p.tables e below (T2.setTop (mkF m 9 #[.val (.int p0), .val (.int p1), .val (.ref (ad 0)), .unset, .unset, .unset, .unset] [(.ref (ad 0))])) _
    refine XS.astoreN X2.here hx rfl (hb hby at_9) rfl rfl (l' := #[.val (.int p0), .val (.int p1), .val (.ref (ad 0)), .val (.ref (ad 0)), .unset, .unset, .unset]) rfl ?_
    show Steps p.tables e below (T2.setTop (mkF m 10 #[.val (.int p0), .val (.int p1), .val (.ref (ad 0)), .val (.ref (ad 0)), .unset, .unset, .unset] [])) _
    refine XS.aloadN X2.here hx rfl (hb hby at_10) rfl rfl ?_
    show Steps p.tables e below (T2.setTop (mkF m 11 #[.val (.int p0), .val (.int p1), .val (.ref (ad 0)), .val (.ref (ad 0)), .unset, .unset, .unset] [(.ref (ad 0))])) _
    refine XS.aloadN X2.here hx rfl (hb hby at_11) rfl rfl ?_
    show Steps p.tables e below (T2.setTop (mkF m 12 #[.val (.int p0), .val (.int p1), .val (.ref (ad 0)), .val (.ref (ad 0)), .unset, .unset, .unset] [(.ref (ad 0)), (.ref (ad 0))])) _
    refine st3.trans ?_
    show Steps p.tables e below (T3.setTop (mkF m 15 #[.val (.int p0), .val (.int p1), .val (.ref (ad 0)), .val (.ref (ad 0)), .unset, .unset, .unset] [(.int (1 : Int32))])) _
    refine XS.istore X3.here hx rfl (hb hby at_15) rfl (l' := #[.val (.int p0), .val (.int p1), .val (.ref (ad 0)), .val (.ref (ad 0)), .val (.int (1 : Int32)), .unset, .unset]) rfl ?_
    show Steps p.tables e below (T3.setTop (mkF m 17 #[.val (.int p0), .val (.int p1), .val (.ref (ad 0)), .val (.ref (ad 0)), .val (.int (1 : Int32)), .unset, .unset] [])) _
    refine XS.aloadN X3.here hx rfl (hb hby at_17) rfl rfl ?_
    show Steps p.tables e below (T3.setTop (mkF m 18 #[.val (.int p0), .val (.int p1), .val (.ref (ad 0)), .val (.ref (ad 0)), .val (.int (1 : Int32)), .unset, .unset] [(.ref (ad 0))])) _
    refine XS.aloadN X3.here hx rfl (hb hby at_18) rfl rfl ?_
    show Steps p.tables e below (T3.setTop (mkF m 19 #[.val (.int p0), .val (.int p1), .val (.ref (ad 0)), .val (.ref (ad 0)), .val (.int (1 : Int32)), .unset, .unset] [(.ref (ad 0)), (.ref (ad 0))])) _
    refine st4.trans ?_
    show Steps p.tables e below (T4.setTop (mkF m 22 #[.val (.int p0), .val (.int p1), .val (.ref (ad 0)), .val (.ref (ad 0)), .val (.int (1 : Int32)), .unset, .unset] [(.int (1 : Int32))])) _
    refine XS.istore X4.here hx rfl (hb hby at_22) rfl (l' := #[.val (.int p0), .val (.int p1), .val (.ref (ad 0)), .val (.ref (ad 0)), .val (.int (1 : Int32)), .val (.int (1 : Int32)), .unset]) rfl ?_
    show Steps p.tables e below (T4.setTop (mkF m 24 #[.val (.int p0), .val (.int p1), .val (.ref (ad 0)), .val (.ref (ad 0)), .val (.int (1 : Int32)), .val (.int (1 : Int32)), .unset] [])) _
    refine XS.aloadN X4.here hx rfl (hb hby at_24) rfl rfl ?_
    show Steps p.tables e below (T4.setTop (mkF m 25 #[.val (.int p0), .val (.int p1), .val (.ref (ad 0)), .val (.ref (ad 0)), .val (.int (1 : Int32)), .val (.int (1 : Int32)), .unset] [(.ref (ad 0))])) _
    refine XS.aloadN X4.here hx rfl (hb hby at_25) rfl rfl ?_
    show Steps p.tables e below (T4.setTop (mkF m 26 #[.val (.int p0), .val (.int p1), .val (.ref (ad 0)), .val (.ref (ad 0)), .val (.int (1 : Int32)), .val (.int (1 : Int32)), .unset] [(.ref (ad 0)), (.ref (ad 0))])) _
    refine acmp X4 hx rfl (x := (.ref (ad 0))) (y := (.ref (ad 0))) rfl rfl (pc0 := 26) (pc' := 29) (same := true) rfl (hb hby at_26) rfl (decide_eq_true rfl) (by decide) (by decide) ?_
    show Steps p.tables e below (T4.setTop (mkF m 29 #[.val (.int p0), .val (.int p1), .val (.ref (ad 0)), .val (.ref (ad 0)), .val (.int (1 : Int32)), .val (.int (1 : Int32)), .unset] [])) _
    refine XS.aloadN X4.here hx rfl (hb hby at_29) rfl rfl ?_
    show Steps p.tables e below (T4.setTop (mkF m 30 #[.val (.int p0), .val (.int p1), .val (.ref (ad 0)), .val (.ref (ad 0)), .val (.int (1 : Int32)), .val (.int (1 : Int32)), .unset] [(.ref (ad 0))])) _
    refine st5 _ ?_
    show Steps p.tables e below (T5.setTop (mkF m 33 #[.val (.int p0), .val (.int p1), .val (.ref (ad 0)), .val (.ref (ad 0)), .val (.int (1 : Int32)), .val (.int (1 : Int32)), .unset] [(.ref (ad 1)), (.ref (ad 0))])) _
    refine acmp X5 hx rfl (x := (.ref (ad 0))) (y := (.ref (ad 1))) rfl rfl (pc0 := 33) (pc' := 36) (same := false) rfl (hb hby at_33) rfl (decide_eq_false (fun h => (Fld.ne (ft_6 NF) (ft_7 NF) (by decide)) (Value.ref.inj h))) (by decide) (by decide) ?_
    show Steps p.tables e below (T5.setTop (mkF m 36 #[.val (.int p0), .val (.int p1), .val (.ref (ad 0)), .val (.ref (ad 0)), .val (.int (1 : Int32)), .val (.int (1 : Int32)), .unset] [])) _
    refine XS.iconst X5.here hx rfl (hb hby at_36) ?_
    show Steps p.tables e below (T5.setTop (mkF m 37 #[.val (.int p0), .val (.int p1), .val (.ref (ad 0)), .val (.ref (ad 0)), .val (.int (1 : Int32)), .val (.int (1 : Int32)), .unset] [(.int (1 : Int32))])) _
    refine XS.goto X5.here hx rfl (pc0 := 37) (pc' := 41) rfl (hb hby at_37) (by decide) (by decide) ?_
    show Steps p.tables e below (T5.setTop (mkF m 41 #[.val (.int p0), .val (.int p1), .val (.ref (ad 0)), .val (.ref (ad 0)), .val (.int (1 : Int32)), .val (.int (1 : Int32)), .unset] [(.int (1 : Int32))])) _
    refine XS.istore X5.here hx rfl (hb hby at_41) rfl (l' := #[.val (.int p0), .val (.int p1), .val (.ref (ad 0)), .val (.ref (ad 0)), .val (.int (1 : Int32)), .val (.int (1 : Int32)), .val (.int (1 : Int32))]) rfl ?_
    show Steps p.tables e below (T5.setTop (mkF m 43 #[.val (.int p0), .val (.int p1), .val (.ref (ad 0)), .val (.ref (ad 0)), .val (.int (1 : Int32)), .val (.int (1 : Int32)), .val (.int (1 : Int32))] [])) _
    refine XS.goto X5.here hx rfl (pc0 := 43) (pc' := 67) rfl (hb hby at_43) (by decide) (by decide) ?_
    show Steps p.tables e below (T5.setTop (mkF m 67 #[.val (.int p0), .val (.int p1), .val (.ref (ad 0)), .val (.ref (ad 0)), .val (.int (1 : Int32)), .val (.int (1 : Int32)), .val (.int (1 : Int32))] [])) _
    refine XS.iload X5.here hx rfl (hb hby at_67) rfl ?_
    show Steps p.tables e below (T5.setTop (mkF m 69 #[.val (.int p0), .val (.int p1), .val (.ref (ad 0)), .val (.ref (ad 0)), .val (.int (1 : Int32)), .val (.int (1 : Int32)), .val (.int (1 : Int32))] [(.int (1 : Int32))])) _
    refine XS.iload X5.here hx rfl (hb hby at_69) rfl ?_
    show Steps p.tables e below (T5.setTop (mkF m 71 #[.val (.int p0), .val (.int p1), .val (.ref (ad 0)), .val (.ref (ad 0)), .val (.int (1 : Int32)), .val (.int (1 : Int32)), .val (.int (1 : Int32))] [(.int (1 : Int32)), (.int (1 : Int32))])) _
    refine XS.icmpNo X5.here hx rfl (hb hby at_71) rfl (teq (by decide)).2 ?_
    show Steps p.tables e below (T5.setTop (mkF m 74 #[.val (.int p0), .val (.int p1), .val (.ref (ad 0)), .val (.ref (ad 0)), .val (.int (1 : Int32)), .val (.int (1 : Int32)), .val (.int (1 : Int32))] [])) _
    refine XS.iload X5.here hx rfl (hb hby at_74) rfl ?_
    show Steps p.tables e below (T5.setTop (mkF m 76 #[.val (.int p0), .val (.int p1), .val (.ref (ad 0)), .val (.ref (ad 0)), .val (.int (1 : Int32)), .val (.int (1 : Int32)), .val (.int (1 : Int32))] [(.int (1 : Int32))])) _
    refine XS.iload X5.here hx rfl (hb hby at_76) rfl ?_
    show Steps p.tables e below (T5.setTop (mkF m 78 #[.val (.int p0), .val (.int p1), .val (.ref (ad 0)), .val (.ref (ad 0)), .val (.int (1 : Int32)), .val (.int (1 : Int32)), .val (.int (1 : Int32))] [(.int (1 : Int32)), (.int (1 : Int32))])) _
    refine XS.icmpNo X5.here hx rfl (hb hby at_78) rfl (teq (by decide)).2 ?_
    show Steps p.tables e below (T5.setTop (mkF m 81 #[.val (.int p0), .val (.int p1), .val (.ref (ad 0)), .val (.ref (ad 0)), .val (.int (1 : Int32)), .val (.int (1 : Int32)), .val (.int (1 : Int32))] [])) _
    refine XS.iconst X5.here hx rfl (hb hby at_81) ?_
    show Steps p.tables e below (T5.setTop (mkF m 82 #[.val (.int p0), .val (.int p1), .val (.ref (ad 0)), .val (.ref (ad 0)), .val (.int (1 : Int32)), .val (.int (1 : Int32)), .val (.int (1 : Int32))] [(.int (1 : Int32))])) _
    refine XS.goto X5.here hx rfl (pc0 := 82) (pc' := 86) rfl (hb hby at_82) (by decide) (by decide) ?_
    show Steps p.tables e below (T5.setTop (mkF m 86 #[.val (.int p0), .val (.int p1), .val (.ref (ad 0)), .val (.ref (ad 0)), .val (.int (1 : Int32)), .val (.int (1 : Int32)), .val (.int (1 : Int32))] [(.int (1 : Int32))])) _
    exact retN X5 hx (t := .boolean) Bd.returns (by simp) (hb hby at_86) hr
  · exact ⟨rfl, N4⟩
theorem d2_53 : decode prog_10_method_4_code 53 = .ok (.iconst 0, 1) := by decide +kernel
theorem d2_54 : decode prog_10_method_4_code 54 = .ok (.goto 37, 3) := by decide +kernel
set_option maxRecDepth 65536 in
set_option maxHeartbeats 40000000 in
theorem rm2_ad0_ad1 (l : Launch) (Z : State) (a0 : Array Value) (hw : ∀ d ∈ tables_1, d.before a0 Z = true) (ws : List Jvm.Cond) (ad : Nat → Addr) (NF : Facts Z ad) (h0 : Heap) (n0 : Nat) (Ol : Old Z n0 h0) :
    MetFree l (⟨"com/example/gembok/gembok/LockKind", "waitsFor", "(Lcom/example/gembok/gembok/LockKind;)Z"⟩ : MethodName) (head1 (Jvm.Cond.code (⟨"com/example/gembok/gembok/LockKind", "waitsFor", "(Lcom/example/gembok/gembok/LockKind;)Z"⟩ : MethodName) prog_10_method_4_code 2 (some .boolean) :: ws) ({ frames := 1, cells := 0, slots := 0, locals := 12 } : Room)) (fun a U => a = #[(.ref (ad 0)), (.ref (ad 1))] ∧ Z.Warmed39 U.vm ∧ U.heap = h0) (fun _ _ _ _ _ => True) (fun _ U o U' => ∃ v L, o = .returned v ∧ QS (.int (0 : Int32)) h0 n0 v U'.heap L ∧ FrameEnd U o U' L ({ frames := 1, cells := 0, slots := 0, locals := 12 } : Room).cells ({ frames := 1, cells := 0, slots := 0, locals := 12 } : Room).slots) := by
  refine MetFree.of_bodySF (plainFor_of_name pn_2) hisR ?_
  intro p e s m args below meth c s₁ Bd hml0 hP hK
  obtain ⟨rfl, hZ, hh⟩ := hP
  have hx := Bd.exec
  have hby := Bd.bytes
  have hml : c.maxLocals = 2 := hml0
  have hown : s.vm.findClass "com/example/gembok/gembok/LockKind" = some m.cls := findClass_of_methodNamed Bd.named
  have X0 : Stand p l e ({ frames := 1, cells := 0, slots := 0, locals := 12 } : Room) s m #[(.ref (ad 0)), (.ref (ad 1))] below meth c s₁ [] 0 0 := Stand.of_body Bd
  have e0 : s₁.heap = h0 := by rw [← hh, Bd.state]; rfl
  have N0 := Fr.nil n0
  have pre0 : ∀ t, Steps p.tables e below (s₁.setTop (mkF m 0 #[.val (.ref (ad 0)), .val (.ref (ad 1))] [])) t → Steps p.tables e below (s₁.setTop (entryFrame m #[(.ref (ad 0)), (.ref (ad 1))] 2)) t := fun t k => castTop (ef_2_RR m (ad 0) (ad 1)) k
  obtain ⟨cq1, kq1, qa1, qb1, qc1⟩ := isOf hZ e0 ((ft_0 NF).ext Ol.2)
  obtain ⟨_, _, ⟨T1, L1, k1, n1⟩, -, X1, ⟨Lc1, hQ1, l1, y1, z1⟩, st1⟩ := X0.virtualBackUp hx (owner := "java/lang/Enum") (x := (⟨"com/example/gembok/gembok/LockKind", "ordinal", "()I"⟩ : MethodName)) (y := (⟨"java/lang/Enum", "ordinal", "()I"⟩ : MethodName)) hown (mvT hZ (hw _ (List.mem_of_getElem? (i := 13) rfl))) (mvT hZ (hw _ (List.mem_of_getElem? (i := 14) rfl))) (mvT hZ (hw _ (List.mem_of_getElem? (i := 15) rfl))) (by decide) (mvT hZ (hw _ (List.mem_of_getElem? (i := 17) rfl))) (mvT hZ (hw _ (List.mem_of_getElem? (i := 16) rfl))) (backOf (W := 0) (rm3_ad0 l Z a0 hw [] ad NF h0 n0 Ol) hZ (hw _ (List.mem_of_getElem? (i := 19) rfl)) (hw _ (List.mem_of_getElem? (i := 18) rfl)) (by decide) (by decide)) qa1 qc1 (g := (mkF m 1 #[.val (.ref (ad 0)), .val (.ref (ad 1))] [(.ref (ad 0))])) rfl (by rw [hml]; rfl) (Steps.refl _) (argsL := []) (rest := []) (lenOf pd_2 rfl) rfl (by show 2 * 0 + _ ≤ _; exact Nat.le_of_eq rfl) (hb hby d2_1) (fun _ _ => ⟨rfl, e0, (by decide : 0 + 0 ≤ _), (by decide : 0 + 0 ≤ _)⟩)
  dsimp only [Pt.U, Pt.locs, Pt.cells, Pt.slots] at X1 l1 y1 z1 st1 hQ1
  subst l1 y1 z1
  obtain ⟨rfl, Nq1, e1⟩ := hQ1
  have N1 := Fr.app N0 Nq1
  obtain ⟨T2, X2, e2, st2⟩ := getS2 X1 hx hZ hown (host := "") (Or.inl (hw _ (List.mem_of_getElem? (i := 22) rfl))) Via.refl e1 ((ft_3 NF).ext Ol.2) (g := (mkF m 43 #[.val (.ref (ad 0)), .val (.ref (ad 1))] [(.ref (ad 1))])) rfl (hb hby d2_43)
  obtain ⟨fs, hr, hrun, hended, hW, hsame⟩ := X2.leave (v := some (.int (0 : Int32))) (fun h => by rw [Bd.returns] at h; cases h)
  refine ⟨_, _, pre0 _ ?_, hrun, hended, _, _, rfl, ?_, ⟨_, rfl⟩, hW, hsame.mono (by decide) (by decide)⟩
  · show Steps p.tables e below (s₁.setTop (mkF m 0 #[.val (.ref (ad 0)), .val (.ref (ad 1))] [])) _
    refine XS.aloadN X0.here hx rfl (hb hby d2_0) rfl rfl ?_
    show Steps p.tables e below (s₁.setTop (mkF m 1 #[.val (.ref (ad 0)), .val (.ref (ad 1))] [(.ref (ad 0))])) _
    refine st1.trans ?_
    show Steps p.tables e below (T1.setTop (mkF m 4 #[.val (.ref (ad 0)), .val (.ref (ad 1))] [(.int (0 : Int32))])) _
    refine XS.tswIn X1.here hx rfl (pc0 := 4) (pc' := 42) rfl (hb hby d2_4) (i := (0 : Int32)) rfl (by decide) (o := 38) (by decide) (by decide) (by decide) ?_
    show Steps p.tables e below (T1.setTop (mkF m 42 #[.val (.ref (ad 0)), .val (.ref (ad 1))] [])) _
    refine XS.aloadN X1.here hx rfl (hb hby d2_42) rfl rfl ?_
    show Steps p.tables e below (T1.setTop (mkF m 43 #[.val (.ref (ad 0)), .val (.ref (ad 1))] [(.ref (ad 1))])) _
    refine st2 _ ?_
    show Steps p.tables e below (T2.setTop (mkF m 46 #[.val (.ref (ad 0)), .val (.ref (ad 1))] [(.ref (ad 0)), (.ref (ad 1))])) _
    refine acmp X2 hx rfl (x := (.ref (ad 1))) (y := (.ref (ad 0))) rfl rfl (pc0 := 46) (pc' := 53) (same := false) rfl (hb hby d2_46) rfl (decide_eq_false (fun h => (Fld.ne (ft_7 NF) (ft_6 NF) (by decide)) (Value.ref.inj h))) (by decide) (by decide) ?_
    show Steps p.tables e below (T2.setTop (mkF m 53 #[.val (.ref (ad 0)), .val (.ref (ad 1))] [])) _
    refine XS.iconst X2.here hx rfl (hb hby d2_53) ?_
    show Steps p.tables e below (T2.setTop (mkF m 54 #[.val (.ref (ad 0)), .val (.ref (ad 1))] [(.int (0 : Int32))])) _
    refine XS.goto X2.here hx rfl (pc0 := 54) (pc' := 91) rfl (hb hby d2_54) (by decide) (by decide) ?_
    show Steps p.tables e below (T2.setTop (mkF m 91 #[.val (.ref (ad 0)), .val (.ref (ad 1))] [(.int (0 : Int32))])) _
    exact retN X2 hx (t := .boolean) Bd.returns (by simp) (hb hby d2_91) hr
  · exact ⟨rfl, N1, e2⟩
set_option maxRecDepth 65536 in
set_option maxHeartbeats 40000000 in
theorem rm3_ad1 (l : Launch) (Z : State) (a0 : Array Value) (hw : ∀ d ∈ tables_1, d.before a0 Z = true) (ws : List Jvm.Cond) (ad : Nat → Addr) (NF : Facts Z ad) (h0 : Heap) (n0 : Nat) (Ol : Old Z n0 h0) :
    MetFree l (⟨"java/lang/Enum", "ordinal", "()I"⟩ : MethodName) (head1 (Jvm.Cond.code (⟨"java/lang/Enum", "ordinal", "()I"⟩ : MethodName) jdk_37_method_2_code 1 (some .int) :: ws) ({ frames := 0, cells := 0, slots := 0, locals := 0 } : Room)) (fun a U => a = #[(.ref (ad 1))] ∧ Z.Warmed39 U.vm ∧ U.heap = h0) (fun _ _ _ _ _ => True) (fun _ U o U' => ∃ v L, o = .returned v ∧ QS (.int (1 : Int32)) h0 n0 v U'.heap L ∧ FrameEnd U o U' L ({ frames := 0, cells := 0, slots := 0, locals := 0 } : Room).cells ({ frames := 0, cells := 0, slots := 0, locals := 0 } : Room).slots) := by
  refine MetFree.of_bodySF (plainFor_of_name pn_3) hisR ?_
  intro p e s m args below meth c s₁ Bd hml0 hP hK
  obtain ⟨rfl, hZ, hh⟩ := hP
  have hx := Bd.exec
  have hby := Bd.bytes
  have hml : c.maxLocals = 1 := hml0
  have hown : s.vm.findClass "java/lang/Enum" = some m.cls := findClass_of_methodNamed Bd.named
  have X0 : Stand p l e ({ frames := 0, cells := 0, slots := 0, locals := 0 } : Room) s m #[(.ref (ad 1))] below meth c s₁ [] 0 0 := Stand.of_body Bd
  have e0 : s₁.heap = h0 := by rw [← hh, Bd.state]; rfl
  have N0 := Fr.nil n0
  have pre0 : ∀ t, Steps p.tables e below (s₁.setTop (mkF m 0 #[.val (.ref (ad 1))] [])) t → Steps p.tables e below (s₁.setTop (entryFrame m #[(.ref (ad 1))] 1)) t := fun t k => castTop (ef_3_R m (ad 1)) k
  obtain ⟨T1, X1, e1, st1⟩ := getF X0 hx hZ hown (host := "") (Or.inl (hw _ (List.mem_of_getElem? (i := 20) rfl))) Via.refl e0 ((ft_7 NF).ext Ol.2) (g := (mkF m 1 #[.val (.ref (ad 1))] [(.ref (ad 1))])) rfl rfl (hb hby d3_1)
  obtain ⟨fs, hr, hrun, hended, hW, hsame⟩ := X1.leave (v := some (.int (1 : Int32))) (fun h => by rw [Bd.returns] at h; cases h)
  refine ⟨_, _, pre0 _ ?_, hrun, hended, _, _, rfl, ?_, ⟨_, rfl⟩, hW, hsame.mono (by decide) (by decide)⟩
  · show Steps p.tables e below (s₁.setTop (mkF m 0 #[.val (.ref (ad 1))] [])) _
    refine XS.aloadN X0.here hx rfl (hb hby d3_0) rfl rfl ?_
    show Steps p.tables e below (s₁.setTop (mkF m 1 #[.val (.ref (ad 1))] [(.ref (ad 1))])) _
    refine st1 _ ?_
    show Steps p.tables e below (T1.setTop (mkF m 4 #[.val (.ref (ad 1))] [(.int (1 : Int32))])) _
    exact retI X1 hx Bd.returns (hb hby d3_4) hr
  · exact ⟨rfl, N0, e1⟩
theorem d2_57 : decode prog_10_method_4_code 57 = .ok (.aload_n 1, 1) := by decide +kernel
theorem d2_58 : decode prog_10_method_4_code 58 = .ok (.getstatic 10, 3) := by decide +kernel
theorem d2_61 : decode prog_10_method_4_code 61 = .ok (.if_acmp .ne 7, 3) := by decide +kernel
theorem d2_68 : decode prog_10_method_4_code 68 = .ok (.iconst 0, 1) := by decide +kernel
theorem d2_69 : decode prog_10_method_4_code 69 = .ok (.goto 22, 3) := by decide +kernel
set_option maxRecDepth 65536 in
set_option maxHeartbeats 40000000 in
theorem rm2_ad1_ad0 (l : Launch) (Z : State) (a0 : Array Value) (hw : ∀ d ∈ tables_1, d.before a0 Z = true) (ws : List Jvm.Cond) (ad : Nat → Addr) (NF : Facts Z ad) (h0 : Heap) (n0 : Nat) (Ol : Old Z n0 h0) :
    MetFree l (⟨"com/example/gembok/gembok/LockKind", "waitsFor", "(Lcom/example/gembok/gembok/LockKind;)Z"⟩ : MethodName) (head1 (Jvm.Cond.code (⟨"com/example/gembok/gembok/LockKind", "waitsFor", "(Lcom/example/gembok/gembok/LockKind;)Z"⟩ : MethodName) prog_10_method_4_code 2 (some .boolean) :: ws) ({ frames := 1, cells := 0, slots := 0, locals := 12 } : Room)) (fun a U => a = #[(.ref (ad 1)), (.ref (ad 0))] ∧ Z.Warmed39 U.vm ∧ U.heap = h0) (fun _ _ _ _ _ => True) (fun _ U o U' => ∃ v L, o = .returned v ∧ QS (.int (0 : Int32)) h0 n0 v U'.heap L ∧ FrameEnd U o U' L ({ frames := 1, cells := 0, slots := 0, locals := 12 } : Room).cells ({ frames := 1, cells := 0, slots := 0, locals := 12 } : Room).slots) := by
  refine MetFree.of_bodySF (plainFor_of_name pn_2) hisR ?_
  intro p e s m args below meth c s₁ Bd hml0 hP hK
  obtain ⟨rfl, hZ, hh⟩ := hP
  have hx := Bd.exec
  have hby := Bd.bytes
  have hml : c.maxLocals = 2 := hml0
  have hown : s.vm.findClass "com/example/gembok/gembok/LockKind" = some m.cls := findClass_of_methodNamed Bd.named
  have X0 : Stand p l e ({ frames := 1, cells := 0, slots := 0, locals := 12 } : Room) s m #[(.ref (ad 1)), (.ref (ad 0))] below meth c s₁ [] 0 0 := Stand.of_body Bd
  have e0 : s₁.heap = h0 := by rw [← hh, Bd.state]; rfl
  have N0 := Fr.nil n0
  have pre0 : ∀ t, Steps p.tables e below (s₁.setTop (mkF m 0 #[.val (.ref (ad 1)), .val (.ref (ad 0))] [])) t → Steps p.tables e below (s₁.setTop (entryFrame m #[(.ref (ad 1)), (.ref (ad 0))] 2)) t := fun t k => castTop (ef_2_RR m (ad 1) (ad 0)) k
  obtain ⟨cq1, kq1, qa1, qb1, qc1⟩ := isOf hZ e0 ((ft_1 NF).ext Ol.2)
  obtain ⟨_, _, ⟨T1, L1, k1, n1⟩, -, X1, ⟨Lc1, hQ1, l1, y1, z1⟩, st1⟩ := X0.virtualBackUp hx (owner := "java/lang/Enum") (x := (⟨"com/example/gembok/gembok/LockKind", "ordinal", "()I"⟩ : MethodName)) (y := (⟨"java/lang/Enum", "ordinal", "()I"⟩ : MethodName)) hown (mvT hZ (hw _ (List.mem_of_getElem? (i := 13) rfl))) (mvT hZ (hw _ (List.mem_of_getElem? (i := 14) rfl))) (mvT hZ (hw _ (List.mem_of_getElem? (i := 15) rfl))) (by decide) (mvT hZ (hw _ (List.mem_of_getElem? (i := 17) rfl))) (mvT hZ (hw _ (List.mem_of_getElem? (i := 16) rfl))) (backOf (W := 0) (rm3_ad1 l Z a0 hw [] ad NF h0 n0 Ol) hZ (hw _ (List.mem_of_getElem? (i := 19) rfl)) (hw _ (List.mem_of_getElem? (i := 18) rfl)) (by decide) (by decide)) qa1 qc1 (g := (mkF m 1 #[.val (.ref (ad 1)), .val (.ref (ad 0))] [(.ref (ad 1))])) rfl (by rw [hml]; rfl) (Steps.refl _) (argsL := []) (rest := []) (lenOf pd_2 rfl) rfl (by show 2 * 0 + _ ≤ _; exact Nat.le_of_eq rfl) (hb hby d2_1) (fun _ _ => ⟨rfl, e0, (by decide : 0 + 0 ≤ _), (by decide : 0 + 0 ≤ _)⟩)
  dsimp only [Pt.U, Pt.locs, Pt.cells, Pt.slots] at X1 l1 y1 z1 st1 hQ1
  subst l1 y1 z1
  obtain ⟨rfl, Nq1, e1⟩ := hQ1
  have N1 := Fr.app N0 Nq1
  obtain ⟨T2, X2, e2, st2⟩ := getS2 X1 hx hZ hown (host := "") (Or.inl (hw _ (List.mem_of_getElem? (i := 28) rfl))) Via.refl e1 ((ft_5 NF).ext Ol.2) (g := (mkF m 58 #[.val (.ref (ad 1)), .val (.ref (ad 0))] [(.ref (ad 0))])) rfl (hb hby d2_58)
  obtain ⟨fs, hr, hrun, hended, hW, hsame⟩ := X2.leave (v := some (.int (0 : Int32))) (fun h => by rw [Bd.returns] at h; cases h)
  refine ⟨_, _, pre0 _ ?_, hrun, hended, _, _, rfl, ?_, ⟨_, rfl⟩, hW, hsame.mono (by decide) (by decide)⟩
  · show Steps p.tables e below (s₁.setTop (mkF m 0 #[.val (.ref (ad 1)), .val (.ref (ad 0))] [])) _
    refine XS.aloadN X0.here hx rfl (hb hby d2_0) rfl rfl ?_
    show Steps p.tables e below (s₁.setTop (mkF m 1 #[.val (.ref (ad 1)), .val (.ref (ad 0))] [(.ref (ad 1))])) _
    refine st1.trans ?_
    show Steps p.tables e below (T1.setTop (mkF m 4 #[.val (.ref (ad 1)), .val (.ref (ad 0))] [(.int (1 : Int32))])) _
    refine XS.tswIn X1.here hx rfl (pc0 := 4) (pc' := 57) rfl (hb hby d2_4) (i := (1 : Int32)) rfl (by decide) (o := 53) (by decide) (by decide) (by decide) ?_
    show Steps p.tables e below (T1.setTop (mkF m 57 #[.val (.ref (ad 1)), .val (.ref (ad 0))] [])) _
    refine XS.aloadN X1.here hx rfl (hb hby d2_57) rfl rfl ?_
    show Steps p.tables e below (T1.setTop (mkF m 58 #[.val (.ref (ad 1)), .val (.ref (ad 0))] [(.ref (ad 0))])) _
    refine st2 _ ?_
    show Steps p.tables e below (T2.setTop (mkF m 61 #[.val (.ref (ad 1)), .val (.ref (ad 0))] [(.ref (ad 2)), (.ref (ad 0))])) _
    refine acmp X2 hx rfl (x := (.ref (ad 0))) (y := (.ref (ad 2))) rfl rfl (pc0 := 61) (pc' := 68) (same := false) rfl (hb hby d2_61) rfl (decide_eq_false (fun h => (Fld.ne (ft_6 NF) (ft_8 NF) (by decide)) (Value.ref.inj h))) (by decide) (by decide) ?_
    show Steps p.tables e below (T2.setTop (mkF m 68 #[.val (.ref (ad 1)), .val (.ref (ad 0))] [])) _
    refine XS.iconst X2.here hx rfl (hb hby d2_68) ?_
    show Steps p.tables e below (T2.setTop (mkF m 69 #[.val (.ref (ad 1)), .val (.ref (ad 0))] [(.int (0 : Int32))])) _
    refine XS.goto X2.here hx rfl (pc0 := 69) (pc' := 91) rfl (hb hby d2_69) (by decide) (by decide) ?_
    show Steps p.tables e below (T2.setTop (mkF m 91 #[.val (.ref (ad 1)), .val (.ref (ad 0))] [(.int (0 : Int32))])) _
    exact retN X2 hx (t := .boolean) Bd.returns (by simp) (hb hby d2_91) hr
  · exact ⟨rfl, N1, e2⟩
set_option maxRecDepth 65536 in
set_option maxHeartbeats 40000000 in
theorem rm0_0_1 (l : Launch) (Z : State) (a0 : Array Value) (hw : ∀ d ∈ tables_1, d.before a0 Z = true) (ws : List Jvm.Cond) (ad : Nat → Addr) (NF : Facts Z ad) (h0 : Heap) (n0 : Nat) (Ol : Old Z n0 h0) (p0 p1 : Int32) (hi0 : (p0 &&& (2147483647 : Int32)) % (3 : Int32) = (0 : Int32)) (hi1 : (p1 &&& (2147483647 : Int32)) % (3 : Int32) = (1 : Int32)) :
    MetFree l x (head1 (Jvm.Cond.code x code maxLocals ret :: ws) room_1) (fun a U => a = #[(.int p0), (.int p1)] ∧ Z.Warmed39 U.vm ∧ U.heap = h0) (fun _ _ _ _ _ => True) (fun _ U o U' => ∃ v L, o = .returned v ∧ QL n0 v U'.heap L ∧ FrameEnd U o U' L room_1.cells room_1.slots) := by
  refine MetFree.of_bodySF (plainFor_of_name pn_1) hisR ?_
  intro p e s m args below meth c s₁ Bd hml0 hP hK
  obtain ⟨rfl, hZ, hh⟩ := hP
  have hx := Bd.exec
  have hby := Bd.bytes
  have hml : c.maxLocals = 7 := hml0
  have hown : s.vm.findClass "com/example/gembok/gembok/LockKindWaitsForPinLaw" = some m.cls := findClass_of_methodNamed Bd.named
  have X0 : Stand p l e room_1 s m #[(.int p0), (.int p1)] below meth c s₁ [] 0 0 := Stand.of_body Bd
  have e0 : s₁.heap = h0 := by rw [← hh, Bd.state]; rfl
  have N0 := Fr.nil n0
  have pre0 : ∀ t, Steps p.tables e below (s₁.setTop (mkF m 0 #[.val (.int p0), .val (.int p1), .unset, .unset, .unset, .unset, .unset] [])) t → Steps p.tables e below (s₁.setTop (entryFrame m #[(.int p0), (.int p1)] maxLocals)) t := fun t k => castTop (ef_0_II m (p0) (p1)) k
  obtain ⟨_, _, ⟨T1, L1, k1, n1⟩, -, X1, ⟨Lc1, hQ1, l1, y1, z1⟩, st1⟩ := Jvm.LawKit.callS X0 hx (y := (⟨"com/example/gembok/gembok/LockKindWaitsForPinLaw", "kind", "(I)Lcom/example/gembok/gembok/LockKind;"⟩ : MethodName)) hown (mvT hZ (hw _ (List.mem_of_getElem? (i := 0) rfl))) (mvT hZ (hw _ (List.mem_of_getElem? (i := 1) rfl))) (mvT hZ (hw _ (List.mem_of_getElem? (i := 2) rfl))) (mvT hZ (hw _ (List.mem_of_getElem? (i := 3) rfl))) (by decide) (backOf (W := 0) (rmk_0 l Z a0 hw [] ad NF h0 n0 Ol p0 hi0) hZ (hw _ (List.mem_of_getElem? (i := 3) rfl)) (hw _ (List.mem_of_getElem? (i := 2) rfl)) (by decide) (by decide)) (g := (mkF m 1 #[.val (.int p0), .val (.int p1), .unset, .unset, .unset, .unset, .unset] [(.int p0)])) rfl (by rw [hml]; rfl) (argsL := [(.int p0)]) (rest := []) (lenOf pd_1 rfl) rfl (by show 2 * 0 + _ ≤ _; exact Nat.le_of_eq rfl) (hb hby at_1) (fun _ _ => ⟨rfl, e0, (by decide : 0 + 0 ≤ _), (by decide : 0 + 0 ≤ _)⟩)
  dsimp only [Pt.U, Pt.locs, Pt.cells, Pt.slots] at X1 l1 y1 z1 st1 hQ1
  subst l1 y1 z1
  obtain ⟨rfl, Nq1, e1⟩ := hQ1
  have N1 := Fr.app N0 Nq1
  obtain ⟨_, _, ⟨T2, L2, k2, n2⟩, -, X2, ⟨Lc2, hQ2, l2, y2, z2⟩, st2⟩ := Jvm.LawKit.callS X1 hx (y := (⟨"com/example/gembok/gembok/LockKindWaitsForPinLaw", "kind", "(I)Lcom/example/gembok/gembok/LockKind;"⟩ : MethodName)) hown (mvT hZ (hw _ (List.mem_of_getElem? (i := 0) rfl))) (mvT hZ (hw _ (List.mem_of_getElem? (i := 1) rfl))) (mvT hZ (hw _ (List.mem_of_getElem? (i := 2) rfl))) (mvT hZ (hw _ (List.mem_of_getElem? (i := 3) rfl))) (by decide) (backOf (W := 0) (rmk_1 l Z a0 hw [] ad NF h0 n0 Ol p1 hi1) hZ (hw _ (List.mem_of_getElem? (i := 3) rfl)) (hw _ (List.mem_of_getElem? (i := 2) rfl)) (by decide) (by decide)) (g := (mkF m 6 #[.val (.int p0), .val (.int p1), .val (.ref (ad 0)), .unset, .unset, .unset, .unset] [(.int p1)])) rfl (by rw [hml]; rfl) (argsL := [(.int p1)]) (rest := []) (lenOf pd_1 rfl) rfl (by show 2 * 0 + _ ≤ _; exact Nat.le_of_eq rfl) (hb hby at_6) (fun _ _ => ⟨rfl, e1, (by decide : 0 + 0 ≤ _), (by decide : 0 + 0 ≤ _)⟩)
  dsimp only [Pt.U, Pt.locs, Pt.cells, Pt.slots] at X2 l2 y2 z2 st2 hQ2
  subst l2 y2 z2
  obtain ⟨rfl, Nq2, e2⟩ := hQ2
  have N2 := Fr.app N1 Nq2
  obtain ⟨cq3, kq3, qa3, qb3, qc3⟩ := isOf hZ e2 ((ft_0 NF).ext Ol.2)
  obtain ⟨_, _, ⟨T3, L3, k3, n3⟩, -, X3, ⟨Lc3, hQ3, l3, y3, z3⟩, st3⟩ := X2.virtualBack hx (y := (⟨"com/example/gembok/gembok/LockKind", "waitsFor", "(Lcom/example/gembok/gembok/LockKind;)Z"⟩ : MethodName)) (z := (⟨"com/example/gembok/gembok/LockKind", "waitsFor", "(Lcom/example/gembok/gembok/LockKind;)Z"⟩ : MethodName)) hown (mvT hZ (hw _ (List.mem_of_getElem? (i := 8) rfl))) (mvT hZ (hw _ (List.mem_of_getElem? (i := 9) rfl))) (notFace_of_selects (args := #[]) (mvT hZ (hw _ (List.mem_of_getElem? (i := 11) rfl)))) (mvT hZ (hw _ (List.mem_of_getElem? (i := 11) rfl))) (mvT hZ (hw _ (List.mem_of_getElem? (i := 10) rfl))) (by decide) (backOf (W := 0) (rm2_ad0_ad1 l Z a0 hw [] ad NF h0 n0 Ol) hZ (hw _ (List.mem_of_getElem? (i := 12) rfl)) (hw _ (List.mem_of_getElem? (i := 6) rfl)) (by decide) (by decide)) qa3 qc3 (g := (mkF m 12 #[.val (.int p0), .val (.int p1), .val (.ref (ad 0)), .val (.ref (ad 1)), .unset, .unset, .unset] [(.ref (ad 1)), (.ref (ad 0))])) rfl (by rw [hml]; rfl) (Steps.refl _) (argsL := [(.ref (ad 1))]) (rest := []) (lenOf pd_3 rfl) rfl (by show 2 * 0 + _ ≤ _; exact Nat.le_of_eq rfl) (hb hby at_12) (fun _ _ => ⟨rfl, e2, (by decide : 0 + 0 ≤ _), (by decide : 0 + 0 ≤ _)⟩)
  dsimp only [Pt.U, Pt.locs, Pt.cells, Pt.slots] at X3 l3 y3 z3 st3 hQ3
  subst l3 y3 z3
  obtain ⟨rfl, Nq3, e3⟩ := hQ3
  have N3 := Fr.app N2 Nq3
  obtain ⟨cq4, kq4, qa4, qb4, qc4⟩ := isOf hZ e3 ((ft_1 NF).ext Ol.2)
  obtain ⟨_, _, ⟨T4, L4, k4, n4⟩, -, X4, ⟨Lc4, hQ4, l4, y4, z4⟩, st4⟩ := X3.virtualBack hx (y := (⟨"com/example/gembok/gembok/LockKind", "waitsFor", "(Lcom/example/gembok/gembok/LockKind;)Z"⟩ : MethodName)) (z := (⟨"com/example/gembok/gembok/LockKind", "waitsFor", "(Lcom/example/gembok/gembok/LockKind;)Z"⟩ : MethodName)) hown (mvT hZ (hw _ (List.mem_of_getElem? (i := 8) rfl))) (mvT hZ (hw _ (List.mem_of_getElem? (i := 9) rfl))) (notFace_of_selects (args := #[]) (mvT hZ (hw _ (List.mem_of_getElem? (i := 11) rfl)))) (mvT hZ (hw _ (List.mem_of_getElem? (i := 11) rfl))) (mvT hZ (hw _ (List.mem_of_getElem? (i := 10) rfl))) (by decide) (backOf (W := 0) (rm2_ad1_ad0 l Z a0 hw [] ad NF h0 n0 Ol) hZ (hw _ (List.mem_of_getElem? (i := 12) rfl)) (hw _ (List.mem_of_getElem? (i := 6) rfl)) (by decide) (by decide)) qa4 qc4 (g := (mkF m 19 #[.val (.int p0), .val (.int p1), .val (.ref (ad 0)), .val (.ref (ad 1)), .val (.int (0 : Int32)), .unset, .unset] [(.ref (ad 0)), (.ref (ad 1))])) rfl (by rw [hml]; rfl) (Steps.refl _) (argsL := [(.ref (ad 0))]) (rest := []) (lenOf pd_3 rfl) rfl (by show 2 * 0 + _ ≤ _; exact Nat.le_of_eq rfl) (hb hby at_19) (fun _ _ => ⟨rfl, e3, (by decide : 0 + 0 ≤ _), (by decide : 0 + 0 ≤ _)⟩)
  dsimp only [Pt.U, Pt.locs, Pt.cells, Pt.slots] at X4 l4 y4 z4 st4 hQ4
  subst l4 y4 z4
  obtain ⟨rfl, Nq4, e4⟩ := hQ4
  have N4 := Fr.app N3 Nq4
  obtain ⟨T5, X5, e5, st5⟩ := getS2 X4 hx hZ hown (host := "") (Or.inl (hw _ (List.mem_of_getElem? (i := 5) rfl))) Via.refl e4 ((ft_3 NF).ext Ol.2) (g := (mkF m 47 #[.val (.int p0), .val (.int p1), .val (.ref (ad 0)), .val (.ref (ad 1)), .val (.int (0 : Int32)), .val (.int (0 : Int32)), .unset] [(.ref (ad 0))])) rfl (hb hby at_47)
  obtain ⟨fs, hr, hrun, hended, hW, hsame⟩ := X5.leave (v := some (.int (1 : Int32))) (fun h => by rw [Bd.returns] at h; cases h)
  refine ⟨_, _, pre0 _ ?_, hrun, hended, _, _, rfl, ?_, ⟨_, rfl⟩, hW, hsame.mono (by decide) (by decide)⟩
  · show Steps p.tables e below (s₁.setTop (mkF m 0 #[.val (.int p0), .val (.int p1), .unset, .unset, .unset, .unset, .unset] [])) _
    refine XS.iloadN X0.here hx rfl (hb hby at_0) rfl ?_
    show Steps p.tables e below (s₁.setTop (mkF m 1 #[.val (.int p0), .val (.int p1), .unset, .unset, .unset, .unset, .unset] [(.int p0)])) _
    refine st1 _ ?_
    show Steps p.tables e below (T1.setTop (mkF m 4 #[.val (.int p0), .val (.int p1), .unset, .unset, .unset, .unset, .unset] [(.ref (ad 0))])) _
    refine XS.astoreN X1.here hx rfl (hb hby at_4) rfl rfl (l' := #[.val (.int p0), .val (.int p1), .val (.ref (ad 0)), .unset, .unset, .unset, .unset]) rfl ?_
    show Steps p.tables e below (T1.setTop (mkF m 5 #[.val (.int p0), .val (.int p1), .val (.ref (ad 0)), .unset, .unset, .unset, .unset] [])) _
    refine XS.iloadN X1.here hx rfl (hb hby at_5) rfl ?_
    show Steps p.tables e below (T1.setTop (mkF m 6 #[.val (.int p0), .val (.int p1), .val (.ref (ad 0)), .unset, .unset, .unset, .unset] [(.int p1)])) _
    refine st2 _ ?_
    show Steps p.tables e below (T2.setTop (mkF m 9 #[.val (.int p0), .val (.int p1), .val (.ref (ad 0)), .unset, .unset, .unset, .unset] [(.ref (ad 1))])) _
    refine XS.astoreN X2.here hx rfl (hb hby at_9) rfl rfl (l' := #[.val (.int p0), .val (.int p1), .val (.ref (ad 0)), .val (.ref (ad 1)), .unset, .unset, .unset]) rfl ?_
    show Steps p.tables e below (T2.setTop (mkF m 10 #[.val (.int p0), .val (.int p1), .val (.ref (ad 0)), .val (.ref (ad 1)), .unset, .unset, .unset] [])) _
    refine XS.aloadN X2.here hx rfl (hb hby at_10) rfl rfl ?_
    show Steps p.tables e below (T2.setTop (mkF m 11 #[.val (.int p0), .val (.int p1), .val (.ref (ad 0)), .val (.ref (ad 1)), .unset, .unset, .unset] [(.ref (ad 0))])) _
    refine XS.aloadN X2.here hx rfl (hb hby at_11) rfl rfl ?_
    show Steps p.tables e below (T2.setTop (mkF m 12 #[.val (.int p0), .val (.int p1), .val (.ref (ad 0)), .val (.ref (ad 1)), .unset, .unset, .unset] [(.ref (ad 1)), (.ref (ad 0))])) _
    refine st3.trans ?_
    show Steps p.tables e below (T3.setTop (mkF m 15 #[.val (.int p0), .val (.int p1), .val (.ref (ad 0)), .val (.ref (ad 1)), .unset, .unset, .unset] [(.int (0 : Int32))])) _
    refine XS.istore X3.here hx rfl (hb hby at_15) rfl (l' := #[.val (.int p0), .val (.int p1), .val (.ref (ad 0)), .val (.ref (ad 1)), .val (.int (0 : Int32)), .unset, .unset]) rfl ?_
    show Steps p.tables e below (T3.setTop (mkF m 17 #[.val (.int p0), .val (.int p1), .val (.ref (ad 0)), .val (.ref (ad 1)), .val (.int (0 : Int32)), .unset, .unset] [])) _
    refine XS.aloadN X3.here hx rfl (hb hby at_17) rfl rfl ?_
    show Steps p.tables e below (T3.setTop (mkF m 18 #[.val (.int p0), .val (.int p1), .val (.ref (ad 0)), .val (.ref (ad 1)), .val (.int (0 : Int32)), .unset, .unset] [(.ref (ad 1))])) _
    refine XS.aloadN X3.here hx rfl (hb hby at_18) rfl rfl ?_
    show Steps p.tables e below (T3.setTop (mkF m 19 #[.val (.int p0), .val (.int p1), .val (.ref (ad 0)), .val (.ref (ad 1)), .val (.int (0 : Int32)), .unset, .unset] [(.ref (ad 0)), (.ref (ad 1))])) _
    refine st4.trans ?_
    show Steps p.tables e below (T4.setTop (mkF m 22 #[.val (.int p0), .val (.int p1), .val (.ref (ad 0)), .val (.ref (ad 1)), .val (.int (0 : Int32)), .unset, .unset] [(.int (0 : Int32))])) _
    refine XS.istore X4.here hx rfl (hb hby at_22) rfl (l' := #[.val (.int p0), .val (.int p1), .val (.ref (ad 0)), .val (.ref (ad 1)), .val (.int (0 : Int32)), .val (.int (0 : Int32)), .unset]) rfl ?_
    show Steps p.tables e below (T4.setTop (mkF m 24 #[.val (.int p0), .val (.int p1), .val (.ref (ad 0)), .val (.ref (ad 1)), .val (.int (0 : Int32)), .val (.int (0 : Int32)), .unset] [])) _
    refine XS.aloadN X4.here hx rfl (hb hby at_24) rfl rfl ?_
    show Steps p.tables e below (T4.setTop (mkF m 25 #[.val (.int p0), .val (.int p1), .val (.ref (ad 0)), .val (.ref (ad 1)), .val (.int (0 : Int32)), .val (.int (0 : Int32)), .unset] [(.ref (ad 0))])) _
    refine XS.aloadN X4.here hx rfl (hb hby at_25) rfl rfl ?_
    show Steps p.tables e below (T4.setTop (mkF m 26 #[.val (.int p0), .val (.int p1), .val (.ref (ad 0)), .val (.ref (ad 1)), .val (.int (0 : Int32)), .val (.int (0 : Int32)), .unset] [(.ref (ad 1)), (.ref (ad 0))])) _
    refine acmp X4 hx rfl (x := (.ref (ad 0))) (y := (.ref (ad 1))) rfl rfl (pc0 := 26) (pc' := 46) (same := false) rfl (hb hby at_26) rfl (decide_eq_false (fun h => (Fld.ne (ft_6 NF) (ft_7 NF) (by decide)) (Value.ref.inj h))) (by decide) (by decide) ?_
    show Steps p.tables e below (T4.setTop (mkF m 46 #[.val (.int p0), .val (.int p1), .val (.ref (ad 0)), .val (.ref (ad 1)), .val (.int (0 : Int32)), .val (.int (0 : Int32)), .unset] [])) _
    refine XS.aloadN X4.here hx rfl (hb hby at_46) rfl rfl ?_
    show Steps p.tables e below (T4.setTop (mkF m 47 #[.val (.int p0), .val (.int p1), .val (.ref (ad 0)), .val (.ref (ad 1)), .val (.int (0 : Int32)), .val (.int (0 : Int32)), .unset] [(.ref (ad 0))])) _
    refine st5 _ ?_
    show Steps p.tables e below (T5.setTop (mkF m 50 #[.val (.int p0), .val (.int p1), .val (.ref (ad 0)), .val (.ref (ad 1)), .val (.int (0 : Int32)), .val (.int (0 : Int32)), .unset] [(.ref (ad 0)), (.ref (ad 0))])) _
    refine acmp X5 hx rfl (x := (.ref (ad 0))) (y := (.ref (ad 0))) rfl rfl (pc0 := 50) (pc' := 64) (same := true) rfl (hb hby at_50) rfl (decide_eq_true rfl) (by decide) (by decide) ?_
    show Steps p.tables e below (T5.setTop (mkF m 64 #[.val (.int p0), .val (.int p1), .val (.ref (ad 0)), .val (.ref (ad 1)), .val (.int (0 : Int32)), .val (.int (0 : Int32)), .unset] [])) _
    refine XS.iconst X5.here hx rfl (hb hby at_64) ?_
    show Steps p.tables e below (T5.setTop (mkF m 65 #[.val (.int p0), .val (.int p1), .val (.ref (ad 0)), .val (.ref (ad 1)), .val (.int (0 : Int32)), .val (.int (0 : Int32)), .unset] [(.int (0 : Int32))])) _
    refine XS.istore X5.here hx rfl (hb hby at_65) rfl (l' := #[.val (.int p0), .val (.int p1), .val (.ref (ad 0)), .val (.ref (ad 1)), .val (.int (0 : Int32)), .val (.int (0 : Int32)), .val (.int (0 : Int32))]) rfl ?_
    show Steps p.tables e below (T5.setTop (mkF m 67 #[.val (.int p0), .val (.int p1), .val (.ref (ad 0)), .val (.ref (ad 1)), .val (.int (0 : Int32)), .val (.int (0 : Int32)), .val (.int (0 : Int32))] [])) _
    refine XS.iload X5.here hx rfl (hb hby at_67) rfl ?_
    show Steps p.tables e below (T5.setTop (mkF m 69 #[.val (.int p0), .val (.int p1), .val (.ref (ad 0)), .val (.ref (ad 1)), .val (.int (0 : Int32)), .val (.int (0 : Int32)), .val (.int (0 : Int32))] [(.int (0 : Int32))])) _
    refine XS.iload X5.here hx rfl (hb hby at_69) rfl ?_
    show Steps p.tables e below (T5.setTop (mkF m 71 #[.val (.int p0), .val (.int p1), .val (.ref (ad 0)), .val (.ref (ad 1)), .val (.int (0 : Int32)), .val (.int (0 : Int32)), .val (.int (0 : Int32))] [(.int (0 : Int32)), (.int (0 : Int32))])) _
    refine XS.icmpNo X5.here hx rfl (hb hby at_71) rfl (teq (by decide)).2 ?_
    show Steps p.tables e below (T5.setTop (mkF m 74 #[.val (.int p0), .val (.int p1), .val (.ref (ad 0)), .val (.ref (ad 1)), .val (.int (0 : Int32)), .val (.int (0 : Int32)), .val (.int (0 : Int32))] [])) _
    refine XS.iload X5.here hx rfl (hb hby at_74) rfl ?_
    show Steps p.tables e below (T5.setTop (mkF m 76 #[.val (.int p0), .val (.int p1), .val (.ref (ad 0)), .val (.ref (ad 1)), .val (.int (0 : Int32)), .val (.int (0 : Int32)), .val (.int (0 : Int32))] [(.int (0 : Int32))])) _
    refine XS.iload X5.here hx rfl (hb hby at_76) rfl ?_
    show Steps p.tables e below (T5.setTop (mkF m 78 #[.val (.int p0), .val (.int p1), .val (.ref (ad 0)), .val (.ref (ad 1)), .val (.int (0 : Int32)), .val (.int (0 : Int32)), .val (.int (0 : Int32))] [(.int (0 : Int32)), (.int (0 : Int32))])) _
    refine XS.icmpNo X5.here hx rfl (hb hby at_78) rfl (teq (by decide)).2 ?_
    show Steps p.tables e below (T5.setTop (mkF m 81 #[.val (.int p0), .val (.int p1), .val (.ref (ad 0)), .val (.ref (ad 1)), .val (.int (0 : Int32)), .val (.int (0 : Int32)), .val (.int (0 : Int32))] [])) _
    refine XS.iconst X5.here hx rfl (hb hby at_81) ?_
    show Steps p.tables e below (T5.setTop (mkF m 82 #[.val (.int p0), .val (.int p1), .val (.ref (ad 0)), .val (.ref (ad 1)), .val (.int (0 : Int32)), .val (.int (0 : Int32)), .val (.int (0 : Int32))] [(.int (1 : Int32))])) _
    refine XS.goto X5.here hx rfl (pc0 := 82) (pc' := 86) rfl (hb hby at_82) (by decide) (by decide) ?_
    show Steps p.tables e below (T5.setTop (mkF m 86 #[.val (.int p0), .val (.int p1), .val (.ref (ad 0)), .val (.ref (ad 1)), .val (.int (0 : Int32)), .val (.int (0 : Int32)), .val (.int (0 : Int32))] [(.int (1 : Int32))])) _
    exact retN X5 hx (t := .boolean) Bd.returns (by simp) (hb hby at_86) hr
  · exact ⟨rfl, N4⟩
set_option maxRecDepth 65536 in
set_option maxHeartbeats 40000000 in
theorem rm2_ad0_ad2 (l : Launch) (Z : State) (a0 : Array Value) (hw : ∀ d ∈ tables_1, d.before a0 Z = true) (ws : List Jvm.Cond) (ad : Nat → Addr) (NF : Facts Z ad) (h0 : Heap) (n0 : Nat) (Ol : Old Z n0 h0) :
    MetFree l (⟨"com/example/gembok/gembok/LockKind", "waitsFor", "(Lcom/example/gembok/gembok/LockKind;)Z"⟩ : MethodName) (head1 (Jvm.Cond.code (⟨"com/example/gembok/gembok/LockKind", "waitsFor", "(Lcom/example/gembok/gembok/LockKind;)Z"⟩ : MethodName) prog_10_method_4_code 2 (some .boolean) :: ws) ({ frames := 1, cells := 0, slots := 0, locals := 12 } : Room)) (fun a U => a = #[(.ref (ad 0)), (.ref (ad 2))] ∧ Z.Warmed39 U.vm ∧ U.heap = h0) (fun _ _ _ _ _ => True) (fun _ U o U' => ∃ v L, o = .returned v ∧ QS (.int (0 : Int32)) h0 n0 v U'.heap L ∧ FrameEnd U o U' L ({ frames := 1, cells := 0, slots := 0, locals := 12 } : Room).cells ({ frames := 1, cells := 0, slots := 0, locals := 12 } : Room).slots) := by
  refine MetFree.of_bodySF (plainFor_of_name pn_2) hisR ?_
  intro p e s m args below meth c s₁ Bd hml0 hP hK
  obtain ⟨rfl, hZ, hh⟩ := hP
  have hx := Bd.exec
  have hby := Bd.bytes
  have hml : c.maxLocals = 2 := hml0
  have hown : s.vm.findClass "com/example/gembok/gembok/LockKind" = some m.cls := findClass_of_methodNamed Bd.named
  have X0 : Stand p l e ({ frames := 1, cells := 0, slots := 0, locals := 12 } : Room) s m #[(.ref (ad 0)), (.ref (ad 2))] below meth c s₁ [] 0 0 := Stand.of_body Bd
  have e0 : s₁.heap = h0 := by rw [← hh, Bd.state]; rfl
  have N0 := Fr.nil n0
  have pre0 : ∀ t, Steps p.tables e below (s₁.setTop (mkF m 0 #[.val (.ref (ad 0)), .val (.ref (ad 2))] [])) t → Steps p.tables e below (s₁.setTop (entryFrame m #[(.ref (ad 0)), (.ref (ad 2))] 2)) t := fun t k => castTop (ef_2_RR m (ad 0) (ad 2)) k
  obtain ⟨cq1, kq1, qa1, qb1, qc1⟩ := isOf hZ e0 ((ft_0 NF).ext Ol.2)
  obtain ⟨_, _, ⟨T1, L1, k1, n1⟩, -, X1, ⟨Lc1, hQ1, l1, y1, z1⟩, st1⟩ := X0.virtualBackUp hx (owner := "java/lang/Enum") (x := (⟨"com/example/gembok/gembok/LockKind", "ordinal", "()I"⟩ : MethodName)) (y := (⟨"java/lang/Enum", "ordinal", "()I"⟩ : MethodName)) hown (mvT hZ (hw _ (List.mem_of_getElem? (i := 13) rfl))) (mvT hZ (hw _ (List.mem_of_getElem? (i := 14) rfl))) (mvT hZ (hw _ (List.mem_of_getElem? (i := 15) rfl))) (by decide) (mvT hZ (hw _ (List.mem_of_getElem? (i := 17) rfl))) (mvT hZ (hw _ (List.mem_of_getElem? (i := 16) rfl))) (backOf (W := 0) (rm3_ad0 l Z a0 hw [] ad NF h0 n0 Ol) hZ (hw _ (List.mem_of_getElem? (i := 19) rfl)) (hw _ (List.mem_of_getElem? (i := 18) rfl)) (by decide) (by decide)) qa1 qc1 (g := (mkF m 1 #[.val (.ref (ad 0)), .val (.ref (ad 2))] [(.ref (ad 0))])) rfl (by rw [hml]; rfl) (Steps.refl _) (argsL := []) (rest := []) (lenOf pd_2 rfl) rfl (by show 2 * 0 + _ ≤ _; exact Nat.le_of_eq rfl) (hb hby d2_1) (fun _ _ => ⟨rfl, e0, (by decide : 0 + 0 ≤ _), (by decide : 0 + 0 ≤ _)⟩)
  dsimp only [Pt.U, Pt.locs, Pt.cells, Pt.slots] at X1 l1 y1 z1 st1 hQ1
  subst l1 y1 z1
  obtain ⟨rfl, Nq1, e1⟩ := hQ1
  have N1 := Fr.app N0 Nq1
  obtain ⟨T2, X2, e2, st2⟩ := getS2 X1 hx hZ hown (host := "") (Or.inl (hw _ (List.mem_of_getElem? (i := 22) rfl))) Via.refl e1 ((ft_3 NF).ext Ol.2) (g := (mkF m 43 #[.val (.ref (ad 0)), .val (.ref (ad 2))] [(.ref (ad 2))])) rfl (hb hby d2_43)
  obtain ⟨fs, hr, hrun, hended, hW, hsame⟩ := X2.leave (v := some (.int (0 : Int32))) (fun h => by rw [Bd.returns] at h; cases h)
  refine ⟨_, _, pre0 _ ?_, hrun, hended, _, _, rfl, ?_, ⟨_, rfl⟩, hW, hsame.mono (by decide) (by decide)⟩
  · show Steps p.tables e below (s₁.setTop (mkF m 0 #[.val (.ref (ad 0)), .val (.ref (ad 2))] [])) _
    refine XS.aloadN X0.here hx rfl (hb hby d2_0) rfl rfl ?_
    show Steps p.tables e below (s₁.setTop (mkF m 1 #[.val (.ref (ad 0)), .val (.ref (ad 2))] [(.ref (ad 0))])) _
    refine st1.trans ?_
    show Steps p.tables e below (T1.setTop (mkF m 4 #[.val (.ref (ad 0)), .val (.ref (ad 2))] [(.int (0 : Int32))])) _
    refine XS.tswIn X1.here hx rfl (pc0 := 4) (pc' := 42) rfl (hb hby d2_4) (i := (0 : Int32)) rfl (by decide) (o := 38) (by decide) (by decide) (by decide) ?_
    show Steps p.tables e below (T1.setTop (mkF m 42 #[.val (.ref (ad 0)), .val (.ref (ad 2))] [])) _
    refine XS.aloadN X1.here hx rfl (hb hby d2_42) rfl rfl ?_
    show Steps p.tables e below (T1.setTop (mkF m 43 #[.val (.ref (ad 0)), .val (.ref (ad 2))] [(.ref (ad 2))])) _
    refine st2 _ ?_
    show Steps p.tables e below (T2.setTop (mkF m 46 #[.val (.ref (ad 0)), .val (.ref (ad 2))] [(.ref (ad 0)), (.ref (ad 2))])) _
    refine acmp X2 hx rfl (x := (.ref (ad 2))) (y := (.ref (ad 0))) rfl rfl (pc0 := 46) (pc' := 53) (same := false) rfl (hb hby d2_46) rfl (decide_eq_false (fun h => (Fld.ne (ft_8 NF) (ft_6 NF) (by decide)) (Value.ref.inj h))) (by decide) (by decide) ?_
    show Steps p.tables e below (T2.setTop (mkF m 53 #[.val (.ref (ad 0)), .val (.ref (ad 2))] [])) _
    refine XS.iconst X2.here hx rfl (hb hby d2_53) ?_
    show Steps p.tables e below (T2.setTop (mkF m 54 #[.val (.ref (ad 0)), .val (.ref (ad 2))] [(.int (0 : Int32))])) _
    refine XS.goto X2.here hx rfl (pc0 := 54) (pc' := 91) rfl (hb hby d2_54) (by decide) (by decide) ?_
    show Steps p.tables e below (T2.setTop (mkF m 91 #[.val (.ref (ad 0)), .val (.ref (ad 2))] [(.int (0 : Int32))])) _
    exact retN X2 hx (t := .boolean) Bd.returns (by simp) (hb hby d2_91) hr
  · exact ⟨rfl, N1, e2⟩
set_option maxRecDepth 65536 in
set_option maxHeartbeats 40000000 in
theorem rm3_ad2 (l : Launch) (Z : State) (a0 : Array Value) (hw : ∀ d ∈ tables_1, d.before a0 Z = true) (ws : List Jvm.Cond) (ad : Nat → Addr) (NF : Facts Z ad) (h0 : Heap) (n0 : Nat) (Ol : Old Z n0 h0) :
    MetFree l (⟨"java/lang/Enum", "ordinal", "()I"⟩ : MethodName) (head1 (Jvm.Cond.code (⟨"java/lang/Enum", "ordinal", "()I"⟩ : MethodName) jdk_37_method_2_code 1 (some .int) :: ws) ({ frames := 0, cells := 0, slots := 0, locals := 0 } : Room)) (fun a U => a = #[(.ref (ad 2))] ∧ Z.Warmed39 U.vm ∧ U.heap = h0) (fun _ _ _ _ _ => True) (fun _ U o U' => ∃ v L, o = .returned v ∧ QS (.int (2 : Int32)) h0 n0 v U'.heap L ∧ FrameEnd U o U' L ({ frames := 0, cells := 0, slots := 0, locals := 0 } : Room).cells ({ frames := 0, cells := 0, slots := 0, locals := 0 } : Room).slots) := by
  refine MetFree.of_bodySF (plainFor_of_name pn_3) hisR ?_
  intro p e s m args below meth c s₁ Bd hml0 hP hK
  obtain ⟨rfl, hZ, hh⟩ := hP
  have hx := Bd.exec
  have hby := Bd.bytes
  have hml : c.maxLocals = 1 := hml0
  have hown : s.vm.findClass "java/lang/Enum" = some m.cls := findClass_of_methodNamed Bd.named
  have X0 : Stand p l e ({ frames := 0, cells := 0, slots := 0, locals := 0 } : Room) s m #[(.ref (ad 2))] below meth c s₁ [] 0 0 := Stand.of_body Bd
  have e0 : s₁.heap = h0 := by rw [← hh, Bd.state]; rfl
  have N0 := Fr.nil n0
  have pre0 : ∀ t, Steps p.tables e below (s₁.setTop (mkF m 0 #[.val (.ref (ad 2))] [])) t → Steps p.tables e below (s₁.setTop (entryFrame m #[(.ref (ad 2))] 1)) t := fun t k => castTop (ef_3_R m (ad 2)) k
  obtain ⟨T1, X1, e1, st1⟩ := getF X0 hx hZ hown (host := "") (Or.inl (hw _ (List.mem_of_getElem? (i := 20) rfl))) Via.refl e0 ((ft_8 NF).ext Ol.2) (g := (mkF m 1 #[.val (.ref (ad 2))] [(.ref (ad 2))])) rfl rfl (hb hby d3_1)
  obtain ⟨fs, hr, hrun, hended, hW, hsame⟩ := X1.leave (v := some (.int (2 : Int32))) (fun h => by rw [Bd.returns] at h; cases h)
  refine ⟨_, _, pre0 _ ?_, hrun, hended, _, _, rfl, ?_, ⟨_, rfl⟩, hW, hsame.mono (by decide) (by decide)⟩
  · show Steps p.tables e below (s₁.setTop (mkF m 0 #[.val (.ref (ad 2))] [])) _
    refine XS.aloadN X0.here hx rfl (hb hby d3_0) rfl rfl ?_
    show Steps p.tables e below (s₁.setTop (mkF m 1 #[.val (.ref (ad 2))] [(.ref (ad 2))])) _
    refine st1 _ ?_
    show Steps p.tables e below (T1.setTop (mkF m 4 #[.val (.ref (ad 2))] [(.int (2 : Int32))])) _
    exact retI X1 hx Bd.returns (hb hby d3_4) hr
  · exact ⟨rfl, N0, e1⟩
theorem d2_72 : decode prog_10_method_4_code 72 = .ok (.aload_n 1, 1) := by decide +kernel
theorem d2_73 : decode prog_10_method_4_code 73 = .ok (.getstatic 7, 3) := by decide +kernel
theorem d2_76 : decode prog_10_method_4_code 76 = .ok (.if_acmp .eq 10, 3) := by decide +kernel
theorem d2_79 : decode prog_10_method_4_code 79 = .ok (.aload_n 1, 1) := by decide +kernel
theorem d2_80 : decode prog_10_method_4_code 80 = .ok (.getstatic 10, 3) := by decide +kernel
theorem d2_83 : decode prog_10_method_4_code 83 = .ok (.if_acmp .ne 7, 3) := by decide +kernel
theorem d2_90 : decode prog_10_method_4_code 90 = .ok (.iconst 0, 1) := by decide +kernel
set_option maxRecDepth 65536 in
set_option maxHeartbeats 40000000 in
theorem rm2_ad2_ad0 (l : Launch) (Z : State) (a0 : Array Value) (hw : ∀ d ∈ tables_1, d.before a0 Z = true) (ws : List Jvm.Cond) (ad : Nat → Addr) (NF : Facts Z ad) (h0 : Heap) (n0 : Nat) (Ol : Old Z n0 h0) :
    MetFree l (⟨"com/example/gembok/gembok/LockKind", "waitsFor", "(Lcom/example/gembok/gembok/LockKind;)Z"⟩ : MethodName) (head1 (Jvm.Cond.code (⟨"com/example/gembok/gembok/LockKind", "waitsFor", "(Lcom/example/gembok/gembok/LockKind;)Z"⟩ : MethodName) prog_10_method_4_code 2 (some .boolean) :: ws) ({ frames := 1, cells := 0, slots := 0, locals := 12 } : Room)) (fun a U => a = #[(.ref (ad 2)), (.ref (ad 0))] ∧ Z.Warmed39 U.vm ∧ U.heap = h0) (fun _ _ _ _ _ => True) (fun _ U o U' => ∃ v L, o = .returned v ∧ QS (.int (0 : Int32)) h0 n0 v U'.heap L ∧ FrameEnd U o U' L ({ frames := 1, cells := 0, slots := 0, locals := 12 } : Room).cells ({ frames := 1, cells := 0, slots := 0, locals := 12 } : Room).slots) := by
  refine MetFree.of_bodySF (plainFor_of_name pn_2) hisR ?_
  intro p e s m args below meth c s₁ Bd hml0 hP hK
  obtain ⟨rfl, hZ, hh⟩ := hP
  have hx := Bd.exec
  have hby := Bd.bytes
  have hml : c.maxLocals = 2 := hml0
  have hown : s.vm.findClass "com/example/gembok/gembok/LockKind" = some m.cls := findClass_of_methodNamed Bd.named
  have X0 : Stand p l e ({ frames := 1, cells := 0, slots := 0, locals := 12 } : Room) s m #[(.ref (ad 2)), (.ref (ad 0))] below meth c s₁ [] 0 0 := Stand.of_body Bd
  have e0 : s₁.heap = h0 := by rw [← hh, Bd.state]; rfl
  have N0 := Fr.nil n0
  have pre0 : ∀ t, Steps p.tables e below (s₁.setTop (mkF m 0 #[.val (.ref (ad 2)), .val (.ref (ad 0))] [])) t → Steps p.tables e below (s₁.setTop (entryFrame m #[(.ref (ad 2)), (.ref (ad 0))] 2)) t := fun t k => castTop (ef_2_RR m (ad 2) (ad 0)) k
  obtain ⟨cq1, kq1, qa1, qb1, qc1⟩ := isOf hZ e0 ((ft_2 NF).ext Ol.2)
  obtain ⟨_, _, ⟨T1, L1, k1, n1⟩, -, X1, ⟨Lc1, hQ1, l1, y1, z1⟩, st1⟩ := X0.virtualBackUp hx (owner := "java/lang/Enum") (x := (⟨"com/example/gembok/gembok/LockKind", "ordinal", "()I"⟩ : MethodName)) (y := (⟨"java/lang/Enum", "ordinal", "()I"⟩ : MethodName)) hown (mvT hZ (hw _ (List.mem_of_getElem? (i := 13) rfl))) (mvT hZ (hw _ (List.mem_of_getElem? (i := 14) rfl))) (mvT hZ (hw _ (List.mem_of_getElem? (i := 15) rfl))) (by decide) (mvT hZ (hw _ (List.mem_of_getElem? (i := 17) rfl))) (mvT hZ (hw _ (List.mem_of_getElem? (i := 16) rfl))) (backOf (W := 0) (rm3_ad2 l Z a0 hw [] ad NF h0 n0 Ol) hZ (hw _ (List.mem_of_getElem? (i := 19) rfl)) (hw _ (List.mem_of_getElem? (i := 18) rfl)) (by decide) (by decide)) qa1 qc1 (g := (mkF m 1 #[.val (.ref (ad 2)), .val (.ref (ad 0))] [(.ref (ad 2))])) rfl (by rw [hml]; rfl) (Steps.refl _) (argsL := []) (rest := []) (lenOf pd_2 rfl) rfl (by show 2 * 0 + _ ≤ _; exact Nat.le_of_eq rfl) (hb hby d2_1) (fun _ _ => ⟨rfl, e0, (by decide : 0 + 0 ≤ _), (by decide : 0 + 0 ≤ _)⟩)
  dsimp only [Pt.U, Pt.locs, Pt.cells, Pt.slots] at X1 l1 y1 z1 st1 hQ1
  subst l1 y1 z1
  obtain ⟨rfl, Nq1, e1⟩ := hQ1
  have N1 := Fr.app N0 Nq1
  obtain ⟨T2, X2, e2, st2⟩ := getS2 X1 hx hZ hown (host := "") (Or.inl (hw _ (List.mem_of_getElem? (i := 27) rfl))) Via.refl e1 ((ft_4 NF).ext Ol.2) (g := (mkF m 73 #[.val (.ref (ad 2)), .val (.ref (ad 0))] [(.ref (ad 0))])) rfl (hb hby d2_73)
  obtain ⟨T3, X3, e3, st3⟩ := getS2 X2 hx hZ hown (host := "") (Or.inl (hw _ (List.mem_of_getElem? (i := 28) rfl))) Via.refl e2 ((ft_5 NF).ext Ol.2) (g := (mkF m 80 #[.val (.ref (ad 2)), .val (.ref (ad 0))] [(.ref (ad 0))])) rfl (hb hby d2_80)
  obtain ⟨fs, hr, hrun, hended, hW, hsame⟩ := X3.leave (v := some (.int (0 : Int32))) (fun h => by rw [Bd.returns] at h; cases h)
  refine ⟨_, _, pre0 _ ?_, hrun, hended, _, _, rfl, ?_, ⟨_, rfl⟩, hW, hsame.mono (by decide) (by decide)⟩
  · show Steps p.tables e below (s₁.setTop (mkF m 0 #[.val (.ref (ad 2)), .val (.ref (ad 0))] [])) _
    refine XS.aloadN X0.here hx rfl (hb hby d2_0) rfl rfl ?_
    show Steps p.tables e below (s₁.setTop (mkF m 1 #[.val (.ref (ad 2)), .val (.ref (ad 0))] [(.ref (ad 2))])) _
    refine st1.trans ?_
    show Steps p.tables e below (T1.setTop (mkF m 4 #[.val (.ref (ad 2)), .val (.ref (ad 0))] [(.int (2 : Int32))])) _
    refine XS.tswIn X1.here hx rfl (pc0 := 4) (pc' := 72) rfl (hb hby d2_4) (i := (2 : Int32)) rfl (by decide) (o := 68) (by decide) (by decide) (by decide) ?_
    show Steps p.tables e below (T1.setTop (mkF m 72 #[.val (.ref (ad 2)), .val (.ref (ad 0))] [])) _
    refine XS.aloadN X1.here hx rfl (hb hby d2_72) rfl rfl ?_
    show Steps p.tables e below (T1.setTop (mkF m 73 #[.val (.ref (ad 2)), .val (.ref (ad 0))] [(.ref (ad 0))])) _
    refine st2 _ ?_
    show Steps p.tables e below (T2.setTop (mkF m 76 #[.val (.ref (ad 2)), .val (.ref (ad 0))] [(.ref (ad 1)), (.ref (ad 0))])) _
    refine acmp X2 hx rfl (x := (.ref (ad 0))) (y := (.ref (ad 1))) rfl rfl (pc0 := 76) (pc' := 79) (same := false) rfl (hb hby d2_76) rfl (decide_eq_false (fun h => (Fld.ne (ft_6 NF) (ft_7 NF) (by decide)) (Value.ref.inj h))) (by decide) (by decide) ?_
    show Steps p.tables e below (T2.setTop (mkF m 79 #[.val (.ref (ad 2)), .val (.ref (ad 0))] [])) _
    refine XS.aloadN X2.here hx rfl (hb hby d2_79) rfl rfl ?_
    show Steps p.tables e below (T2.setTop (mkF m 80 #[.val (.ref (ad 2)), .val (.ref (ad 0))] [(.ref (ad 0))])) _
    refine st3 _ ?_
    show Steps p.tables e below (T3.setTop (mkF m 83 #[.val (.ref (ad 2)), .val (.ref (ad 0))] [(.ref (ad 2)), (.ref (ad 0))])) _
    refine acmp X3 hx rfl (x := (.ref (ad 0))) (y := (.ref (ad 2))) rfl rfl (pc0 := 83) (pc' := 90) (same := false) rfl (hb hby d2_83) rfl (decide_eq_false (fun h => (Fld.ne (ft_6 NF) (ft_8 NF) (by decide)) (Value.ref.inj h))) (by decide) (by decide) ?_
    show Steps p.tables e below (T3.setTop (mkF m 90 #[.val (.ref (ad 2)), .val (.ref (ad 0))] [])) _
    refine XS.iconst X3.here hx rfl (hb hby d2_90) ?_
    show Steps p.tables e below (T3.setTop (mkF m 91 #[.val (.ref (ad 2)), .val (.ref (ad 0))] [(.int (0 : Int32))])) _
    exact retN X3 hx (t := .boolean) Bd.returns (by simp) (hb hby d2_91) hr
  · exact ⟨rfl, N1, e3⟩
set_option maxRecDepth 65536 in
set_option maxHeartbeats 40000000 in
theorem rm0_0_2 (l : Launch) (Z : State) (a0 : Array Value) (hw : ∀ d ∈ tables_1, d.before a0 Z = true) (ws : List Jvm.Cond) (ad : Nat → Addr) (NF : Facts Z ad) (h0 : Heap) (n0 : Nat) (Ol : Old Z n0 h0) (p0 p1 : Int32) (hi0 : (p0 &&& (2147483647 : Int32)) % (3 : Int32) = (0 : Int32)) (hi1 : (p1 &&& (2147483647 : Int32)) % (3 : Int32) = (2 : Int32)) :
    MetFree l x (head1 (Jvm.Cond.code x code maxLocals ret :: ws) room_1) (fun a U => a = #[(.int p0), (.int p1)] ∧ Z.Warmed39 U.vm ∧ U.heap = h0) (fun _ _ _ _ _ => True) (fun _ U o U' => ∃ v L, o = .returned v ∧ QL n0 v U'.heap L ∧ FrameEnd U o U' L room_1.cells room_1.slots) := by
  refine MetFree.of_bodySF (plainFor_of_name pn_1) hisR ?_
  intro p e s m args below meth c s₁ Bd hml0 hP hK
  obtain ⟨rfl, hZ, hh⟩ := hP
  have hx := Bd.exec
  have hby := Bd.bytes
  have hml : c.maxLocals = 7 := hml0
  have hown : s.vm.findClass "com/example/gembok/gembok/LockKindWaitsForPinLaw" = some m.cls := findClass_of_methodNamed Bd.named
  have X0 : Stand p l e room_1 s m #[(.int p0), (.int p1)] below meth c s₁ [] 0 0 := Stand.of_body Bd
  have e0 : s₁.heap = h0 := by rw [← hh, Bd.state]; rfl
  have N0 := Fr.nil n0
  have pre0 : ∀ t, Steps p.tables e below (s₁.setTop (mkF m 0 #[.val (.int p0), .val (.int p1), .unset, .unset, .unset, .unset, .unset] [])) t → Steps p.tables e below (s₁.setTop (entryFrame m #[(.int p0), (.int p1)] maxLocals)) t := fun t k => castTop (ef_0_II m (p0) (p1)) k
  obtain ⟨_, _, ⟨T1, L1, k1, n1⟩, -, X1, ⟨Lc1, hQ1, l1, y1, z1⟩, st1⟩ := Jvm.LawKit.callS X0 hx (y := (⟨"com/example/gembok/gembok/LockKindWaitsForPinLaw", "kind", "(I)Lcom/example/gembok/gembok/LockKind;"⟩ : MethodName)) hown (mvT hZ (hw _ (List.mem_of_getElem? (i := 0) rfl))) (mvT hZ (hw _ (List.mem_of_getElem? (i := 1) rfl))) (mvT hZ (hw _ (List.mem_of_getElem? (i := 2) rfl))) (mvT hZ (hw _ (List.mem_of_getElem? (i := 3) rfl))) (by decide) (backOf (W := 0) (rmk_0 l Z a0 hw [] ad NF h0 n0 Ol p0 hi0) hZ (hw _ (List.mem_of_getElem? (i := 3) rfl)) (hw _ (List.mem_of_getElem? (i := 2) rfl)) (by decide) (by decide)) (g := (mkF m 1 #[.val (.int p0), .val (.int p1), .unset, .unset, .unset, .unset, .unset] [(.int p0)])) rfl (by rw [hml]; rfl) (argsL := [(.int p0)]) (rest := []) (lenOf pd_1 rfl) rfl (by show 2 * 0 + _ ≤ _; exact Nat.le_of_eq rfl) (hb hby at_1) (fun _ _ => ⟨rfl, e0, (by decide : 0 + 0 ≤ _), (by decide : 0 + 0 ≤ _)⟩)
  dsimp only [Pt.U, Pt.locs, Pt.cells, Pt.slots] at X1 l1 y1 z1 st1 hQ1
  subst l1 y1 z1
  obtain ⟨rfl, Nq1, e1⟩ := hQ1
  have N1 := Fr.app N0 Nq1
  obtain ⟨_, _, ⟨T2, L2, k2, n2⟩, -, X2, ⟨Lc2, hQ2, l2, y2, z2⟩, st2⟩ := Jvm.LawKit.callS X1 hx (y := (⟨"com/example/gembok/gembok/LockKindWaitsForPinLaw", "kind", "(I)Lcom/example/gembok/gembok/LockKind;"⟩ : MethodName)) hown (mvT hZ (hw _ (List.mem_of_getElem? (i := 0) rfl))) (mvT hZ (hw _ (List.mem_of_getElem? (i := 1) rfl))) (mvT hZ (hw _ (List.mem_of_getElem? (i := 2) rfl))) (mvT hZ (hw _ (List.mem_of_getElem? (i := 3) rfl))) (by decide) (backOf (W := 0) (rmk_2 l Z a0 hw [] ad NF h0 n0 Ol p1 hi1) hZ (hw _ (List.mem_of_getElem? (i := 3) rfl)) (hw _ (List.mem_of_getElem? (i := 2) rfl)) (by decide) (by decide)) (g := (mkF m 6 #[.val (.int p0), .val (.int p1), .val (.ref (ad 0)), .unset, .unset, .unset, .unset] [(.int p1)])) rfl (by rw [hml]; rfl) (argsL := [(.int p1)]) (rest := []) (lenOf pd_1 rfl) rfl (by show 2 * 0 + _ ≤ _; exact Nat.le_of_eq rfl) (hb hby at_6) (fun _ _ => ⟨rfl, e1, (by decide : 0 + 0 ≤ _), (by decide : 0 + 0 ≤ _)⟩)
  dsimp only [Pt.U, Pt.locs, Pt.cells, Pt.slots] at X2 l2 y2 z2 st2 hQ2
  subst l2 y2 z2
  obtain ⟨rfl, Nq2, e2⟩ := hQ2
  have N2 := Fr.app N1 Nq2
  obtain ⟨cq3, kq3, qa3, qb3, qc3⟩ := isOf hZ e2 ((ft_0 NF).ext Ol.2)
  obtain ⟨_, _, ⟨T3, L3, k3, n3⟩, -, X3, ⟨Lc3, hQ3, l3, y3, z3⟩, st3⟩ := X2.virtualBack hx (y := (⟨"com/example/gembok/gembok/LockKind", "waitsFor", "(Lcom/example/gembok/gembok/LockKind;)Z"⟩ : MethodName)) (z := (⟨"com/example/gembok/gembok/LockKind", "waitsFor", "(Lcom/example/gembok/gembok/LockKind;)Z"⟩ : MethodName)) hown (mvT hZ (hw _ (List.mem_of_getElem? (i := 8) rfl))) (mvT hZ (hw _ (List.mem_of_getElem? (i := 9) rfl))) (notFace_of_selects (args := #[]) (mvT hZ (hw _ (List.mem_of_getElem? (i := 11) rfl)))) (mvT hZ (hw _ (List.mem_of_getElem? (i := 11) rfl))) (mvT hZ (hw _ (List.mem_of_getElem? (i := 10) rfl))) (by decide) (backOf (W := 0) (rm2_ad0_ad2 l Z a0 hw [] ad NF h0 n0 Ol) hZ (hw _ (List.mem_of_getElem? (i := 12) rfl)) (hw _ (List.mem_of_getElem? (i := 6) rfl)) (by decide) (by decide)) qa3 qc3 (g := (mkF m 12 #[.val (.int p0), .val (.int p1), .val (.ref (ad 0)), .val (.ref (ad 2)), .unset, .unset, .unset] [(.ref (ad 2)), (.ref (ad 0))])) rfl (by rw [hml]; rfl) (Steps.refl _) (argsL := [(.ref (ad 2))]) (rest := []) (lenOf pd_3 rfl) rfl (by show 2 * 0 + _ ≤ _; exact Nat.le_of_eq rfl) (hb hby at_12) (fun _ _ => ⟨rfl, e2, (by decide : 0 + 0 ≤ _), (by decide : 0 + 0 ≤ _)⟩)
  dsimp only [Pt.U, Pt.locs, Pt.cells, Pt.slots] at X3 l3 y3 z3 st3 hQ3
  subst l3 y3 z3
  obtain ⟨rfl, Nq3, e3⟩ := hQ3
  have N3 := Fr.app N2 Nq3
  obtain ⟨cq4, kq4, qa4, qb4, qc4⟩ := isOf hZ e3 ((ft_2 NF).ext Ol.2)
  obtain ⟨_, _, ⟨T4, L4, k4, n4⟩, -, X4, ⟨Lc4, hQ4, l4, y4, z4⟩, st4⟩ := X3.virtualBack hx (y := (⟨"com/example/gembok/gembok/LockKind", "waitsFor", "(Lcom/example/gembok/gembok/LockKind;)Z"⟩ : MethodName)) (z := (⟨"com/example/gembok/gembok/LockKind", "waitsFor", "(Lcom/example/gembok/gembok/LockKind;)Z"⟩ : MethodName)) hown (mvT hZ (hw _ (List.mem_of_getElem? (i := 8) rfl))) (mvT hZ (hw _ (List.mem_of_getElem? (i := 9) rfl))) (notFace_of_selects (args := #[]) (mvT hZ (hw _ (List.mem_of_getElem? (i := 11) rfl)))) (mvT hZ (hw _ (List.mem_of_getElem? (i := 11) rfl))) (mvT hZ (hw _ (List.mem_of_getElem? (i := 10) rfl))) (by decide) (backOf (W := 0) (rm2_ad2_ad0 l Z a0 hw [] ad NF h0 n0 Ol) hZ (hw _ (List.mem_of_getElem? (i := 12) rfl)) (hw _ (List.mem_of_getElem? (i := 6) rfl)) (by decide) (by decide)) qa4 qc4 (g := (mkF m 19 #[.val (.int p0), .val (.int p1), .val (.ref (ad 0)), .val (.ref (ad 2)), .val (.int (0 : Int32)), .unset, .unset] [(.ref (ad 0)), (.ref (ad 2))])) rfl (by rw [hml]; rfl) (Steps.refl _) (argsL := [(.ref (ad 0))]) (rest := []) (lenOf pd_3 rfl) rfl (by show 2 * 0 + _ ≤ _; exact Nat.le_of_eq rfl) (hb hby at_19) (fun _ _ => ⟨rfl, e3, (by decide : 0 + 0 ≤ _), (by decide : 0 + 0 ≤ _)⟩)
  dsimp only [Pt.U, Pt.locs, Pt.cells, Pt.slots] at X4 l4 y4 z4 st4 hQ4
  subst l4 y4 z4
  obtain ⟨rfl, Nq4, e4⟩ := hQ4
  have N4 := Fr.app N3 Nq4
  obtain ⟨T5, X5, e5, st5⟩ := getS2 X4 hx hZ hown (host := "") (Or.inl (hw _ (List.mem_of_getElem? (i := 5) rfl))) Via.refl e4 ((ft_3 NF).ext Ol.2) (g := (mkF m 47 #[.val (.int p0), .val (.int p1), .val (.ref (ad 0)), .val (.ref (ad 2)), .val (.int (0 : Int32)), .val (.int (0 : Int32)), .unset] [(.ref (ad 0))])) rfl (hb hby at_47)
  obtain ⟨fs, hr, hrun, hended, hW, hsame⟩ := X5.leave (v := some (.int (1 : Int32))) (fun h => by rw [Bd.returns] at h; cases h)
  refine ⟨_, _, pre0 _ ?_, hrun, hended, _, _, rfl, ?_, ⟨_, rfl⟩, hW, hsame.mono (by decide) (by decide)⟩
  · show Steps p.tables e below (s₁.setTop (mkF m 0 #[.val (.int p0), .val (.int p1), .unset, .unset, .unset, .unset, .unset] [])) _
    refine XS.iloadN X0.here hx rfl (hb hby at_0) rfl ?_
    show Steps p.tables e below (s₁.setTop (mkF m 1 #[.val (.int p0), .val (.int p1), .unset, .unset, .unset, .unset, .unset] [(.int p0)])) _
    refine st1 _ ?_
    show Steps p.tables e below (T1.setTop (mkF m 4 #[.val (.int p0), .val (.int p1), .unset, .unset, .unset, .unset, .unset] [(.ref (ad 0))])) _
    refine XS.astoreN X1.here hx rfl (hb hby at_4) rfl rfl (l' := #[.val (.int p0), .val (.int p1), .val (.ref (ad 0)), .unset, .unset, .unset, .unset]) rfl ?_
    show Steps p.tables e below (T1.setTop (mkF m 5 #[.val (.int p0), .val (.int p1), .val (.ref (ad 0)), .unset, .unset, .unset, .unset] [])) _
    refine XS.iloadN X1.here hx rfl (hb hby at_5) rfl ?_
    show Steps p.tables e below (T1.setTop (mkF m 6 #[.val (.int p0), .val (.int p1), .val (.ref (ad 0)), .unset, .unset, .unset, .unset] [(.int p1)])) _
    refine st2 _ ?_
    show Steps p.tables e below (T2.setTop (mkF m 9 #[.val (.int p0), .val (.int p1), .val (.ref (ad 0)), .unset, .unset, .unset, .unset] [(.ref (ad 2))])) _
    refine XS.astoreN X2.here hx rfl (hb hby at_9) rfl rfl (l' := #[.val (.int p0), .val (.int p1), .val (.ref (ad 0)), .val (.ref (ad 2)), .unset, .unset, .unset]) rfl ?_
    show Steps p.tables e below (T2.setTop (mkF m 10 #[.val (.int p0), .val (.int p1), .val (.ref (ad 0)), .val (.ref (ad 2)), .unset, .unset, .unset] [])) _
    refine XS.aloadN X2.here hx rfl (hb hby at_10) rfl rfl ?_
    show Steps p.tables e below (T2.setTop (mkF m 11 #[.val (.int p0), .val (.int p1), .val (.ref (ad 0)), .val (.ref (ad 2)), .unset, .unset, .unset] [(.ref (ad 0))])) _
    refine XS.aloadN X2.here hx rfl (hb hby at_11) rfl rfl ?_
    show Steps p.tables e below (T2.setTop (mkF m 12 #[.val (.int p0), .val (.int p1), .val (.ref (ad 0)), .val (.ref (ad 2)), .unset, .unset, .unset] [(.ref (ad 2)), (.ref (ad 0))])) _
    refine st3.trans ?_
    show Steps p.tables e below (T3.setTop (mkF m 15 #[.val (.int p0), .val (.int p1), .val (.ref (ad 0)), .val (.ref (ad 2)), .unset, .unset, .unset] [(.int (0 : Int32))])) _
    refine XS.istore X3.here hx rfl (hb hby at_15) rfl (l' := #[.val (.int p0), .val (.int p1), .val (.ref (ad 0)), .val (.ref (ad 2)), .val (.int (0 : Int32)), .unset, .unset]) rfl ?_
    show Steps p.tables e below (T3.setTop (mkF m 17 #[.val (.int p0), .val (.int p1), .val (.ref (ad 0)), .val (.ref (ad 2)), .val (.int (0 : Int32)), .unset, .unset] [])) _
    refine XS.aloadN X3.here hx rfl (hb hby at_17) rfl rfl ?_
    show Steps p.tables e below (T3.setTop (mkF m 18 #[.val (.int p0), .val (.int p1), .val (.ref (ad 0)), .val (.ref (ad 2)), .val (.int (0 : Int32)), .unset, .unset] [(.ref (ad 2))])) _
    refine XS.aloadN X3.here hx rfl (hb hby at_18) rfl rfl ?_
    show Steps p.tables e below (T3.setTop (mkF m 19 #[.val (.int p0), .val (.int p1), .val (.ref (ad 0)), .val (.ref (ad 2)), .val (.int (0 : Int32)), .unset, .unset] [(.ref (ad 0)), (.ref (ad 2))])) _
    refine st4.trans ?_
    show Steps p.tables e below (T4.setTop (mkF m 22 #[.val (.int p0), .val (.int p1), .val (.ref (ad 0)), .val (.ref (ad 2)), .val (.int (0 : Int32)), .unset, .unset] [(.int (0 : Int32))])) _
    refine XS.istore X4.here hx rfl (hb hby at_22) rfl (l' := #[.val (.int p0), .val (.int p1), .val (.ref (ad 0)), .val (.ref (ad 2)), .val (.int (0 : Int32)), .val (.int (0 : Int32)), .unset]) rfl ?_
    show Steps p.tables e below (T4.setTop (mkF m 24 #[.val (.int p0), .val (.int p1), .val (.ref (ad 0)), .val (.ref (ad 2)), .val (.int (0 : Int32)), .val (.int (0 : Int32)), .unset] [])) _
    refine XS.aloadN X4.here hx rfl (hb hby at_24) rfl rfl ?_
    show Steps p.tables e below (T4.setTop (mkF m 25 #[.val (.int p0), .val (.int p1), .val (.ref (ad 0)), .val (.ref (ad 2)), .val (.int (0 : Int32)), .val (.int (0 : Int32)), .unset] [(.ref (ad 0))])) _
    refine XS.aloadN X4.here hx rfl (hb hby at_25) rfl rfl ?_
    show Steps p.tables e below (T4.setTop (mkF m 26 #[.val (.int p0), .val (.int p1), .val (.ref (ad 0)), .val (.ref (ad 2)), .val (.int (0 : Int32)), .val (.int (0 : Int32)), .unset] [(.ref (ad 2)), (.ref (ad 0))])) _
    refine acmp X4 hx rfl (x := (.ref (ad 0))) (y := (.ref (ad 2))) rfl rfl (pc0 := 26) (pc' := 46) (same := false) rfl (hb hby at_26) rfl (decide_eq_false (fun h => (Fld.ne (ft_6 NF) (ft_8 NF) (by decide)) (Value.ref.inj h))) (by decide) (by decide) ?_
    show Steps p.tables e below (T4.setTop (mkF m 46 #[.val (.int p0), .val (.int p1), .val (.ref (ad 0)), .val (.ref (ad 2)), .val (.int (0 : Int32)), .val (.int (0 : Int32)), .unset] [])) _
    refine XS.aloadN X4.here hx rfl (hb hby at_46) rfl rfl ?_
    show Steps p.tables e below (T4.setTop (mkF m 47 #[.val (.int p0), .val (.int p1), .val (.ref (ad 0)), .val (.ref (ad 2)), .val (.int (0 : Int32)), .val (.int (0 : Int32)), .unset] [(.ref (ad 0))])) _
    refine st5 _ ?_
    show Steps p.tables e below (T5.setTop (mkF m 50 #[.val (.int p0), .val (.int p1), .val (.ref (ad 0)), .val (.ref (ad 2)), .val (.int (0 : Int32)), .val (.int (0 : Int32)), .unset] [(.ref (ad 0)), (.ref (ad 0))])) _
    refine acmp X5 hx rfl (x := (.ref (ad 0))) (y := (.ref (ad 0))) rfl rfl (pc0 := 50) (pc' := 64) (same := true) rfl (hb hby at_50) rfl (decide_eq_true rfl) (by decide) (by decide) ?_
    show Steps p.tables e below (T5.setTop (mkF m 64 #[.val (.int p0), .val (.int p1), .val (.ref (ad 0)), .val (.ref (ad 2)), .val (.int (0 : Int32)), .val (.int (0 : Int32)), .unset] [])) _
    refine XS.iconst X5.here hx rfl (hb hby at_64) ?_
    show Steps p.tables e below (T5.setTop (mkF m 65 #[.val (.int p0), .val (.int p1), .val (.ref (ad 0)), .val (.ref (ad 2)), .val (.int (0 : Int32)), .val (.int (0 : Int32)), .unset] [(.int (0 : Int32))])) _
    refine XS.istore X5.here hx rfl (hb hby at_65) rfl (l' := #[.val (.int p0), .val (.int p1), .val (.ref (ad 0)), .val (.ref (ad 2)), .val (.int (0 : Int32)), .val (.int (0 : Int32)), .val (.int (0 : Int32))]) rfl ?_
    show Steps p.tables e below (T5.setTop (mkF m 67 #[.val (.int p0), .val (.int p1), .val (.ref (ad 0)), .val (.ref (ad 2)), .val (.int (0 : Int32)), .val (.int (0 : Int32)), .val (.int (0 : Int32))] [])) _
    refine XS.iload X5.here hx rfl (hb hby at_67) rfl ?_
    show Steps p.tables e below (T5.setTop (mkF m 69 #[.val (.int p0), .val (.int p1), .val (.ref (ad 0)), .val (.ref (ad 2)), .val (.int (0 : Int32)), .val (.int (0 : Int32)), .val (.int (0 : Int32))] [(.int (0 : Int32))])) _
    refine XS.iload X5.here hx rfl (hb hby at_69) rfl ?_
    show Steps p.tables e below (T5.setTop (mkF m 71 #[.val (.int p0), .val (.int p1), .val (.ref (ad 0)), .val (.ref (ad 2)), .val (.int (0 : Int32)), .val (.int (0 : Int32)), .val (.int (0 : Int32))] [(.int (0 : Int32)), (.int (0 : Int32))])) _
    refine XS.icmpNo X5.here hx rfl (hb hby at_71) rfl (teq (by decide)).2 ?_
    show Steps p.tables e below (T5.setTop (mkF m 74 #[.val (.int p0), .val (.int p1), .val (.ref (ad 0)), .val (.ref (ad 2)), .val (.int (0 : Int32)), .val (.int (0 : Int32)), .val (.int (0 : Int32))] [])) _
    refine XS.iload X5.here hx rfl (hb hby at_74) rfl ?_
    show Steps p.tables e below (T5.setTop (mkF m 76 #[.val (.int p0), .val (.int p1), .val (.ref (ad 0)), .val (.ref (ad 2)), .val (.int (0 : Int32)), .val (.int (0 : Int32)), .val (.int (0 : Int32))] [(.int (0 : Int32))])) _
    refine XS.iload X5.here hx rfl (hb hby at_76) rfl ?_
    show Steps p.tables e below (T5.setTop (mkF m 78 #[.val (.int p0), .val (.int p1), .val (.ref (ad 0)), .val (.ref (ad 2)), .val (.int (0 : Int32)), .val (.int (0 : Int32)), .val (.int (0 : Int32))] [(.int (0 : Int32)), (.int (0 : Int32))])) _
    refine XS.icmpNo X5.here hx rfl (hb hby at_78) rfl (teq (by decide)).2 ?_
    show Steps p.tables e below (T5.setTop (mkF m 81 #[.val (.int p0), .val (.int p1), .val (.ref (ad 0)), .val (.ref (ad 2)), .val (.int (0 : Int32)), .val (.int (0 : Int32)), .val (.int (0 : Int32))] [])) _
    refine XS.iconst X5.here hx rfl (hb hby at_81) ?_
    show Steps p.tables e below (T5.setTop (mkF m 82 #[.val (.int p0), .val (.int p1), .val (.ref (ad 0)), .val (.ref (ad 2)), .val (.int (0 : Int32)), .val (.int (0 : Int32)), .val (.int (0 : Int32))] [(.int (1 : Int32))])) _
    refine XS.goto X5.here hx rfl (pc0 := 82) (pc' := 86) rfl (hb hby at_82) (by decide) (by decide) ?_
    show Steps p.tables e below (T5.setTop (mkF m 86 #[.val (.int p0), .val (.int p1), .val (.ref (ad 0)), .val (.ref (ad 2)), .val (.int (0 : Int32)), .val (.int (0 : Int32)), .val (.int (0 : Int32))] [(.int (1 : Int32))])) _
    exact retN X5 hx (t := .boolean) Bd.returns (by simp) (hb hby at_86) hr
  · exact ⟨rfl, N4⟩
set_option maxRecDepth 65536 in
set_option maxHeartbeats 40000000 in
theorem rm0_1_0 (l : Launch) (Z : State) (a0 : Array Value) (hw : ∀ d ∈ tables_1, d.before a0 Z = true) (ws : List Jvm.Cond) (ad : Nat → Addr) (NF : Facts Z ad) (h0 : Heap) (n0 : Nat) (Ol : Old Z n0 h0) (p0 p1 : Int32) (hi0 : (p0 &&& (2147483647 : Int32)) % (3 : Int32) = (1 : Int32)) (hi1 : (p1 &&& (2147483647 : Int32)) % (3 : Int32) = (0 : Int32)) :
    MetFree l x (head1 (Jvm.Cond.code x code maxLocals ret :: ws) room_1) (fun a U => a = #[(.int p0), (.int p1)] ∧ Z.Warmed39 U.vm ∧ U.heap = h0) (fun _ _ _ _ _ => True) (fun _ U o U' => ∃ v L, o = .returned v ∧ QL n0 v U'.heap L ∧ FrameEnd U o U' L room_1.cells room_1.slots) := by
  refine MetFree.of_bodySF (plainFor_of_name pn_1) hisR ?_
  intro p e s m args below meth c s₁ Bd hml0 hP hK
  obtain ⟨rfl, hZ, hh⟩ := hP
  have hx := Bd.exec
  have hby := Bd.bytes
  have hml : c.maxLocals = 7 := hml0
  have hown : s.vm.findClass "com/example/gembok/gembok/LockKindWaitsForPinLaw" = some m.cls := findClass_of_methodNamed Bd.named
  have X0 : Stand p l e room_1 s m #[(.int p0), (.int p1)] below meth c s₁ [] 0 0 := Stand.of_body Bd
  have e0 : s₁.heap = h0 := by rw [← hh, Bd.state]; rfl
  have N0 := Fr.nil n0
  have pre0 : ∀ t, Steps p.tables e below (s₁.setTop (mkF m 0 #[.val (.int p0), .val (.int p1), .unset, .unset, .unset, .unset, .unset] [])) t → Steps p.tables e below (s₁.setTop (entryFrame m #[(.int p0), (.int p1)] maxLocals)) t := fun t k => castTop (ef_0_II m (p0) (p1)) k
  obtain ⟨_, _, ⟨T1, L1, k1, n1⟩, -, X1, ⟨Lc1, hQ1, l1, y1, z1⟩, st1⟩ := Jvm.LawKit.callS X0 hx (y := (⟨"com/example/gembok/gembok/LockKindWaitsForPinLaw", "kind", "(I)Lcom/example/gembok/gembok/LockKind;"⟩ : MethodName)) hown (mvT hZ (hw _ (List.mem_of_getElem? (i := 0) rfl))) (mvT hZ (hw _ (List.mem_of_getElem? (i := 1) rfl))) (mvT hZ (hw _ (List.mem_of_getElem? (i := 2) rfl))) (mvT hZ (hw _ (List.mem_of_getElem? (i := 3) rfl))) (by decide) (backOf (W := 0) (rmk_1 l Z a0 hw [] ad NF h0 n0 Ol p0 hi0) hZ (hw _ (List.mem_of_getElem? (i := 3) rfl)) (hw _ (List.mem_of_getElem? (i := 2) rfl)) (by decide) (by decide)) (g := (mkF m 1 #[.val (.int p0), .val (.int p1), .unset, .unset, .unset, .unset, .unset] [(.int p0)])) rfl (by rw [hml]; rfl) (argsL := [(.int p0)]) (rest := []) (lenOf pd_1 rfl) rfl (by show 2 * 0 + _ ≤ _; exact Nat.le_of_eq rfl) (hb hby at_1) (fun _ _ => ⟨rfl, e0, (by decide : 0 + 0 ≤ _), (by decide : 0 + 0 ≤ _)⟩)
  dsimp only [Pt.U, Pt.locs, Pt.cells, Pt.slots] at X1 l1 y1 z1 st1 hQ1
  subst l1 y1 z1
  obtain ⟨rfl, Nq1, e1⟩ := hQ1
  have N1 := Fr.app N0 Nq1
  obtain ⟨_, _, ⟨T2, L2, k2, n2⟩, -, X2, ⟨Lc2, hQ2, l2, y2, z2⟩, st2⟩ := Jvm.LawKit.callS X1 hx (y := (⟨"com/example/gembok/gembok/LockKindWaitsForPinLaw", "kind", "(I)Lcom/example/gembok/gembok/LockKind;"⟩ : MethodName)) hown (mvT hZ (hw _ (List.mem_of_getElem? (i := 0) rfl))) (mvT hZ (hw _ (List.mem_of_getElem? (i := 1) rfl))) (mvT hZ (hw _ (List.mem_of_getElem? (i := 2) rfl))) (mvT hZ (hw _ (List.mem_of_getElem? (i := 3) rfl))) (by decide) (backOf (W := 0) (rmk_0 l Z a0 hw [] ad NF h0 n0 Ol p1 hi1) hZ (hw _ (List.mem_of_getElem? (i := 3) rfl)) (hw _ (List.mem_of_getElem? (i := 2) rfl)) (by decide) (by decide)) (g := (mkF m 6 #[.val (.int p0), .val (.int p1), .val (.ref (ad 1)), .unset, .unset, .unset, .unset] [(.int p1)])) rfl (by rw [hml]; rfl) (argsL := [(.int p1)]) (rest := []) (lenOf pd_1 rfl) rfl (by show 2 * 0 + _ ≤ _; exact Nat.le_of_eq rfl) (hb hby at_6) (fun _ _ => ⟨rfl, e1, (by decide : 0 + 0 ≤ _), (by decide : 0 + 0 ≤ _)⟩)
  dsimp only [Pt.U, Pt.locs, Pt.cells, Pt.slots] at X2 l2 y2 z2 st2 hQ2
  subst l2 y2 z2
  obtain ⟨rfl, Nq2, e2⟩ := hQ2
  have N2 := Fr.app N1 Nq2
  obtain ⟨cq3, kq3, qa3, qb3, qc3⟩ := isOf hZ e2 ((ft_1 NF).ext Ol.2)
  obtain ⟨_, _, ⟨T3, L3, k3, n3⟩, -, X3, ⟨Lc3, hQ3, l3, y3, z3⟩, st3⟩ := X2.virtualBack hx (y := (⟨"com/example/gembok/gembok/LockKind", "waitsFor", "(Lcom/example/gembok/gembok/LockKind;)Z"⟩ : MethodName)) (z := (⟨"com/example/gembok/gembok/LockKind", "waitsFor", "(Lcom/example/gembok/gembok/LockKind;)Z"⟩ : MethodName)) hown (mvT hZ (hw _ (List.mem_of_getElem? (i := 8) rfl))) (mvT hZ (hw _ (List.mem_of_getElem? (i := 9) rfl))) (notFace_of_selects (args := #[]) (mvT hZ (hw _ (List.mem_of_getElem? (i := 11) rfl)))) (mvT hZ (hw _ (List.mem_of_getElem? (i := 11) rfl))) (mvT hZ (hw _ (List.mem_of_getElem? (i := 10) rfl))) (by decide) (backOf (W := 0) (rm2_ad1_ad0 l Z a0 hw [] ad NF h0 n0 Ol) hZ (hw _ (List.mem_of_getElem? (i := 12) rfl)) (hw _ (List.mem_of_getElem? (i := 6) rfl)) (by decide) (by decide)) qa3 qc3 (g := (mkF m 12 #[.val (.int p0), .val (.int p1), .val (.ref (ad 1)), .val (.ref (ad 0)), .unset, .unset, .unset] [(.ref (ad 0)), (.ref (ad 1))])) rfl (by rw [hml]; rfl) (Steps.refl _) (argsL := [(.ref (ad 0))]) (rest := []) (lenOf pd_3 rfl) rfl (by show 2 * 0 + _ ≤ _; exact Nat.le_of_eq rfl) (hb hby at_12) (fun _ _ => ⟨rfl, e2, (by decide : 0 + 0 ≤ _), (by decide : 0 + 0 ≤ _)⟩)
  dsimp only [Pt.U, Pt.locs, Pt.cells, Pt.slots] at X3 l3 y3 z3 st3 hQ3
  subst l3 y3 z3
  obtain ⟨rfl, Nq3, e3⟩ := hQ3
  have N3 := Fr.app N2 Nq3
  obtain ⟨cq4, kq4, qa4, qb4, qc4⟩ := isOf hZ e3 ((ft_0 NF).ext Ol.2)
  obtain ⟨_, _, ⟨T4, L4, k4, n4⟩, -, X4, ⟨Lc4, hQ4, l4, y4, z4⟩, st4⟩ := X3.virtualBack hx (y := (⟨"com/example/gembok/gembok/LockKind", "waitsFor", "(Lcom/example/gembok/gembok/LockKind;)Z"⟩ : MethodName)) (z := (⟨"com/example/gembok/gembok/LockKind", "waitsFor", "(Lcom/example/gembok/gembok/LockKind;)Z"⟩ : MethodName)) hown (mvT hZ (hw _ (List.mem_of_getElem? (i := 8) rfl))) (mvT hZ (hw _ (List.mem_of_getElem? (i := 9) rfl))) (notFace_of_selects (args := #[]) (mvT hZ (hw _ (List.mem_of_getElem? (i := 11) rfl)))) (mvT hZ (hw _ (List.mem_of_getElem? (i := 11) rfl))) (mvT hZ (hw _ (List.mem_of_getElem? (i := 10) rfl))) (by decide) (backOf (W := 0) (rm2_ad0_ad1 l Z a0 hw [] ad NF h0 n0 Ol) hZ (hw _ (List.mem_of_getElem? (i := 12) rfl)) (hw _ (List.mem_of_getElem? (i := 6) rfl)) (by decide) (by decide)) qa4 qc4 (g := (mkF m 19 #[.val (.int p0), .val (.int p1), .val (.ref (ad 1)), .val (.ref (ad 0)), .val (.int (0 : Int32)), .unset, .unset] [(.ref (ad 1)), (.ref (ad 0))])) rfl (by rw [hml]; rfl) (Steps.refl _) (argsL := [(.ref (ad 1))]) (rest := []) (lenOf pd_3 rfl) rfl (by show 2 * 0 + _ ≤ _; exact Nat.le_of_eq rfl) (hb hby at_19) (fun _ _ => ⟨rfl, e3, (by decide : 0 + 0 ≤ _), (by decide : 0 + 0 ≤ _)⟩)
  dsimp only [Pt.U, Pt.locs, Pt.cells, Pt.slots] at X4 l4 y4 z4 st4 hQ4
  subst l4 y4 z4
  obtain ⟨rfl, Nq4, e4⟩ := hQ4
  have N4 := Fr.app N3 Nq4
  obtain ⟨T5, X5, e5, st5⟩ := getS2 X4 hx hZ hown (host := "") (Or.inl (hw _ (List.mem_of_getElem? (i := 5) rfl))) Via.refl e4 ((ft_3 NF).ext Ol.2) (g := (mkF m 47 #[.val (.int p0), .val (.int p1), .val (.ref (ad 1)), .val (.ref (ad 0)), .val (.int (0 : Int32)), .val (.int (0 : Int32)), .unset] [(.ref (ad 1))])) rfl (hb hby at_47)
  obtain ⟨T6, X6, e6, st6⟩ := getS2 X5 hx hZ hown (host := "") (Or.inl (hw _ (List.mem_of_getElem? (i := 5) rfl))) Via.refl e5 ((ft_3 NF).ext Ol.2) (g := (mkF m 54 #[.val (.int p0), .val (.int p1), .val (.ref (ad 1)), .val (.ref (ad 0)), .val (.int (0 : Int32)), .val (.int (0 : Int32)), .unset] [(.ref (ad 0))])) rfl (hb hby at_54)
  obtain ⟨fs, hr, hrun, hended, hW, hsame⟩ := X6.leave (v := some (.int (1 : Int32))) (fun h => by rw [Bd.returns] at h; cases h)
  refine ⟨_, _, pre0 _ ?_, hrun, hended, _, _, rfl, ?_, ⟨_, rfl⟩, hW, hsame.mono (by decide) (by decide)⟩
  · show Steps p.tables e below (s₁.setTop (mkF m 0 #[.val (.int p0), .val (.int p1), .unset, .unset, .unset, .unset, .unset] [])) _
    refine XS.iloadN X0.here hx rfl (hb hby at_0) rfl ?_
    show Steps p.tables e below (s₁.setTop (mkF m 1 #[.val (.int p0), .val (.int p1), .unset, .unset, .unset, .unset, .unset] [(.int p0)])) _
    refine st1 _ ?_
    show Steps p.tables e below (T1.setTop (mkF m 4 #[.val (.int p0), .val (.int p1), .unset, .unset, .unset, .unset, .unset] [(.ref (ad 1))])) _
    refine XS.astoreN X1.here hx rfl (hb hby at_4) rfl rfl (l' := #[.val (.int p0), .val (.int p1), .val (.ref (ad 1)), .unset, .unset, .unset, .unset]) rfl ?_
    show Steps p.tables e below (T1.setTop (mkF m 5 #[.val (.int p0), .val (.int p1), .val (.ref (ad 1)), .unset, .unset, .unset, .unset] [])) _
    refine XS.iloadN X1.here hx rfl (hb hby at_5) rfl ?_
    show Steps p.tables e below (T1.setTop (mkF m 6 #[.val (.int p0), .val (.int p1), .val (.ref (ad 1)), .unset, .unset, .unset, .unset] [(.int p1)])) _
    refine st2 _ ?_
    show Steps p.tables e below (T2.setTop (mkF m 9 #[.val (.int p0), .val (.int p1), .val (.ref (ad 1)), .unset, .unset, .unset, .unset] [(.ref (ad 0))])) _
    refine XS.astoreN X2.here hx rfl (hb hby at_9) rfl rfl (l' := #[.val (.int p0), .val (.int p1), .val (.ref (ad 1)), .val (.ref (ad 0)), .unset, .unset, .unset]) rfl ?_
    show Steps p.tables e below (T2.setTop (mkF m 10 #[.val (.int p0), .val (.int p1), .val (.ref (ad 1)), .val (.ref (ad 0)), .unset, .unset, .unset] [])) _
    refine XS.aloadN X2.here hx rfl (hb hby at_10) rfl rfl ?_
    show Steps p.tables e below (T2.setTop (mkF m 11 #[.val (.int p0), .val (.int p1), .val (.ref (ad 1)), .val (.ref (ad 0)), .unset, .unset, .unset] [(.ref (ad 1))])) _
    refine XS.aloadN X2.here hx rfl (hb hby at_11) rfl rfl ?_
    show Steps p.tables e below (T2.setTop (mkF m 12 #[.val (.int p0), .val (.int p1), .val (.ref (ad 1)), .val (.ref (ad 0)), .unset, .unset, .unset] [(.ref (ad 0)), (.ref (ad 1))])) _
    refine st3.trans ?_
    show Steps p.tables e below (T3.setTop (mkF m 15 #[.val (.int p0), .val (.int p1), .val (.ref (ad 1)), .val (.ref (ad 0)), .unset, .unset, .unset] [(.int (0 : Int32))])) _
    refine XS.istore X3.here hx rfl (hb hby at_15) rfl (l' := #[.val (.int p0), .val (.int p1), .val (.ref (ad 1)), .val (.ref (ad 0)), .val (.int (0 : Int32)), .unset, .unset]) rfl ?_
    show Steps p.tables e below (T3.setTop (mkF m 17 #[.val (.int p0), .val (.int p1), .val (.ref (ad 1)), .val (.ref (ad 0)), .val (.int (0 : Int32)), .unset, .unset] [])) _
    refine XS.aloadN X3.here hx rfl (hb hby at_17) rfl rfl ?_
    show Steps p.tables e below (T3.setTop (mkF m 18 #[.val (.int p0), .val (.int p1), .val (.ref (ad 1)), .val (.ref (ad 0)), .val (.int (0 : Int32)), .unset, .unset] [(.ref (ad 0))])) _
    refine XS.aloadN X3.here hx rfl (hb hby at_18) rfl rfl ?_
    show Steps p.tables e below (T3.setTop (mkF m 19 #[.val (.int p0), .val (.int p1), .val (.ref (ad 1)), .val (.ref (ad 0)), .val (.int (0 : Int32)), .unset, .unset] [(.ref (ad 1)), (.ref (ad 0))])) _
    refine st4.trans ?_
    show Steps p.tables e below (T4.setTop (mkF m 22 #[.val (.int p0), .val (.int p1), .val (.ref (ad 1)), .val (.ref (ad 0)), .val (.int (0 : Int32)), .unset, .unset] [(.int (0 : Int32))])) _
    refine XS.istore X4.here hx rfl (hb hby at_22) rfl (l' := #[.val (.int p0), .val (.int p1), .val (.ref (ad 1)), .val (.ref (ad 0)), .val (.int (0 : Int32)), .val (.int (0 : Int32)), .unset]) rfl ?_
    show Steps p.tables e below (T4.setTop (mkF m 24 #[.val (.int p0), .val (.int p1), .val (.ref (ad 1)), .val (.ref (ad 0)), .val (.int (0 : Int32)), .val (.int (0 : Int32)), .unset] [])) _
    refine XS.aloadN X4.here hx rfl (hb hby at_24) rfl rfl ?_
    show Steps p.tables e below (T4.setTop (mkF m 25 #[.val (.int p0), .val (.int p1), .val (.ref (ad 1)), .val (.ref (ad 0)), .val (.int (0 : Int32)), .val (.int (0 : Int32)), .unset] [(.ref (ad 1))])) _
    refine XS.aloadN X4.here hx rfl (hb hby at_25) rfl rfl ?_
    show Steps p.tables e below (T4.setTop (mkF m 26 #[.val (.int p0), .val (.int p1), .val (.ref (ad 1)), .val (.ref (ad 0)), .val (.int (0 : Int32)), .val (.int (0 : Int32)), .unset] [(.ref (ad 0)), (.ref (ad 1))])) _
    refine acmp X4 hx rfl (x := (.ref (ad 1))) (y := (.ref (ad 0))) rfl rfl (pc0 := 26) (pc' := 46) (same := false) rfl (hb hby at_26) rfl (decide_eq_false (fun h => (Fld.ne (ft_7 NF) (ft_6 NF) (by decide)) (Value.ref.inj h))) (by decide) (by decide) ?_
    show Steps p.tables e below (T4.setTop (mkF m 46 #[.val (.int p0), .val (.int p1), .val (.ref (ad 1)), .val (.ref (ad 0)), .val (.int (0 : Int32)), .val (.int (0 : Int32)), .unset] [])) _
    refine XS.aloadN X4.here hx rfl (hb hby at_46) rfl rfl ?_
    show Steps p.tables e below (T4.setTop (mkF m 47 #[.val (.int p0), .val (.int p1), .val (.ref (ad 1)), .val (.ref (ad 0)), .val (.int (0 : Int32)), .val (.int (0 : Int32)), .unset] [(.ref (ad 1))])) _
    refine st5 _ ?_
    show Steps p.tables e below (T5.setTop (mkF m 50 #[.val (.int p0), .val (.int p1), .val (.ref (ad 1)), .val (.ref (ad 0)), .val (.int (0 : Int32)), .val (.int (0 : Int32)), .unset] [(.ref (ad 0)), (.ref (ad 1))])) _
    refine acmp X5 hx rfl (x := (.ref (ad 1))) (y := (.ref (ad 0))) rfl rfl (pc0 := 50) (pc' := 53) (same := false) rfl (hb hby at_50) rfl (decide_eq_false (fun h => (Fld.ne (ft_7 NF) (ft_6 NF) (by decide)) (Value.ref.inj h))) (by decide) (by decide) ?_
    show Steps p.tables e below (T5.setTop (mkF m 53 #[.val (.int p0), .val (.int p1), .val (.ref (ad 1)), .val (.ref (ad 0)), .val (.int (0 : Int32)), .val (.int (0 : Int32)), .unset] [])) _
    refine XS.aloadN X5.here hx rfl (hb hby at_53) rfl rfl ?_
    show Steps p.tables e below (T5.setTop (mkF m 54 #[.val (.int p0), .val (.int p1), .val (.ref (ad 1)), .val (.ref (ad 0)), .val (.int (0 : Int32)), .val (.int (0 : Int32)), .unset] [(.ref (ad 0))])) _
    refine st6 _ ?_
    show Steps p.tables e below (T6.setTop (mkF m 57 #[.val (.int p0), .val (.int p1), .val (.ref (ad 1)), .val (.ref (ad 0)), .val (.int (0 : Int32)), .val (.int (0 : Int32)), .unset] [(.ref (ad 0)), (.ref (ad 0))])) _
    refine acmp X6 hx rfl (x := (.ref (ad 0))) (y := (.ref (ad 0))) rfl rfl (pc0 := 57) (pc' := 64) (same := true) rfl (hb hby at_57) rfl (decide_eq_true rfl) (by decide) (by decide) ?_
    show Steps p.tables e below (T6.setTop (mkF m 64 #[.val (.int p0), .val (.int p1), .val (.ref (ad 1)), .val (.ref (ad 0)), .val (.int (0 : Int32)), .val (.int (0 : Int32)), .unset] [])) _
    refine XS.iconst X6.here hx rfl (hb hby at_64) ?_
    show Steps p.tables e below (T6.setTop (mkF m 65 #[.val (.int p0), .val (.int p1), .val (.ref (ad 1)), .val (.ref (ad 0)), .val (.int (0 : Int32)), .val (.int (0 : Int32)), .unset] [(.int (0 : Int32))])) _
    refine XS.istore X6.here hx rfl (hb hby at_65) rfl (l' := #[.val (.int p0), .val (.int p1), .val (.ref (ad 1)), .val (.ref (ad 0)), .val (.int (0 : Int32)), .val (.int (0 : Int32)), .val (.int (0 : Int32))]) rfl ?_
    show Steps p.tables e below (T6.setTop (mkF m 67 #[.val (.int p0), .val (.int p1), .val (.ref (ad 1)), .val (.ref (ad 0)), .val (.int (0 : Int32)), .val (.int (0 : Int32)), .val (.int (0 : Int32))] [])) _
    refine XS.iload X6.here hx rfl (hb hby at_67) rfl ?_
    show Steps p.tables e below (T6.setTop (mkF m 69 #[.val (.int p0), .val (.int p1), .val (.ref (ad 1)), .val (.ref (ad 0)), .val (.int (0 : Int32)), .val (.int (0 : Int32)), .val (.int (0 : Int32))] [(.int (0 : Int32))])) _
    refine XS.iload X6.here hx rfl (hb hby at_69) rfl ?_
    show Steps p.tables e below (T6.setTop (mkF m 71 #[.val (.int p0), .val (.int p1), .val (.ref (ad 1)), .val (.ref (ad 0)), .val (.int (0 : Int32)), .val (.int (0 : Int32)), .val (.int (0 : Int32))] [(.int (0 : Int32)), (.int (0 : Int32))])) _
    refine XS.icmpNo X6.here hx rfl (hb hby at_71) rfl (teq (by decide)).2 ?_
    show Steps p.tables e below (T6.setTop (mkF m 74 #[.val (.int p0), .val (.int p1), .val (.ref (ad 1)), .val (.ref (ad 0)), .val (.int (0 : Int32)), .val (.int (0 : Int32)), .val (.int (0 : Int32))] [])) _
    refine XS.iload X6.here hx rfl (hb hby at_74) rfl ?_
    show Steps p.tables e below (T6.setTop (mkF m 76 #[.val (.int p0), .val (.int p1), .val (.ref (ad 1)), .val (.ref (ad 0)), .val (.int (0 : Int32)), .val (.int (0 : Int32)), .val (.int (0 : Int32))] [(.int (0 : Int32))])) _
    refine XS.iload X6.here hx rfl (hb hby at_76) rfl ?_
    show Steps p.tables e below (T6.setTop (mkF m 78 #[.val (.int p0), .val (.int p1), .val (.ref (ad 1)), .val (.ref (ad 0)), .val (.int (0 : Int32)), .val (.int (0 : Int32)), .val (.int (0 : Int32))] [(.int (0 : Int32)), (.int (0 : Int32))])) _
    refine XS.icmpNo X6.here hx rfl (hb hby at_78) rfl (teq (by decide)).2 ?_
    show Steps p.tables e below (T6.setTop (mkF m 81 #[.val (.int p0), .val (.int p1), .val (.ref (ad 1)), .val (.ref (ad 0)), .val (.int (0 : Int32)), .val (.int (0 : Int32)), .val (.int (0 : Int32))] [])) _
    refine XS.iconst X6.here hx rfl (hb hby at_81) ?_
    show Steps p.tables e below (T6.setTop (mkF m 82 #[.val (.int p0), .val (.int p1), .val (.ref (ad 1)), .val (.ref (ad 0)), .val (.int (0 : Int32)), .val (.int (0 : Int32)), .val (.int (0 : Int32))] [(.int (1 : Int32))])) _
    refine XS.goto X6.here hx rfl (pc0 := 82) (pc' := 86) rfl (hb hby at_82) (by decide) (by decide) ?_
    show Steps p.tables e below (T6.setTop (mkF m 86 #[.val (.int p0), .val (.int p1), .val (.ref (ad 1)), .val (.ref (ad 0)), .val (.int (0 : Int32)), .val (.int (0 : Int32)), .val (.int (0 : Int32))] [(.int (1 : Int32))])) _
    exact retN X6 hx (t := .boolean) Bd.returns (by simp) (hb hby at_86) hr
  · exact ⟨rfl, N4⟩
set_option maxRecDepth 65536 in
set_option maxHeartbeats 40000000 in
theorem rm2_ad1_ad1 (l : Launch) (Z : State) (a0 : Array Value) (hw : ∀ d ∈ tables_1, d.before a0 Z = true) (ws : List Jvm.Cond) (ad : Nat → Addr) (NF : Facts Z ad) (h0 : Heap) (n0 : Nat) (Ol : Old Z n0 h0) :
    MetFree l (⟨"com/example/gembok/gembok/LockKind", "waitsFor", "(Lcom/example/gembok/gembok/LockKind;)Z"⟩ : MethodName) (head1 (Jvm.Cond.code (⟨"com/example/gembok/gembok/LockKind", "waitsFor", "(Lcom/example/gembok/gembok/LockKind;)Z"⟩ : MethodName) prog_10_method_4_code 2 (some .boolean) :: ws) ({ frames := 1, cells := 0, slots := 0, locals := 12 } : Room)) (fun a U => a = #[(.ref (ad 1)), (.ref (ad 1))] ∧ Z.Warmed39 U.vm ∧ U.heap = h0) (fun _ _ _ _ _ => True) (fun _ U o U' => ∃ v L, o = .returned v ∧ QS (.int (0 : Int32)) h0 n0 v U'.heap L ∧ FrameEnd U o U' L ({ frames := 1, cells := 0, slots := 0, locals := 12 } : Room).cells ({ frames := 1, cells := 0, slots := 0, locals := 12 } : Room).slots) := by
  refine MetFree.of_bodySF (plainFor_of_name pn_2) hisR ?_
  intro p e s m args below meth c s₁ Bd hml0 hP hK
  obtain ⟨rfl, hZ, hh⟩ := hP
  have hx := Bd.exec
  have hby := Bd.bytes
  have hml : c.maxLocals = 2 := hml0
  have hown : s.vm.findClass "com/example/gembok/gembok/LockKind" = some m.cls := findClass_of_methodNamed Bd.named
  have X0 : Stand p l e ({ frames := 1, cells := 0, slots := 0, locals := 12 } : Room) s m #[(.ref (ad 1)), (.ref (ad 1))] below meth c s₁ [] 0 0 := Stand.of_body Bd
  have e0 : s₁.heap = h0 := by rw [← hh, Bd.state]; rfl
  have N0 := Fr.nil n0
  have pre0 : ∀ t, Steps p.tables e below (s₁.setTop (mkF m 0 #[.val (.ref (ad 1)), .val (.ref (ad 1))] [])) t → Steps p.tables e below (s₁.setTop (entryFrame m #[(.ref (ad 1)), (.ref (ad 1))] 2)) t := fun t k => castTop (ef_2_RR m (ad 1) (ad 1)) k
  obtain ⟨cq1, kq1, qa1, qb1, qc1⟩ := isOf hZ e0 ((ft_1 NF).ext Ol.2)
  obtain ⟨_, _, ⟨T1, L1, k1, n1⟩, -, X1, ⟨Lc1, hQ1, l1, y1, z1⟩, st1⟩ := X0.virtualBackUp hx (owner := "java/lang/Enum") (x := (⟨"com/example/gembok/gembok/LockKind", "ordinal", "()I"⟩ : MethodName)) (y := (⟨"java/lang/Enum", "ordinal", "()I"⟩ : MethodName)) hown (mvT hZ (hw _ (List.mem_of_getElem? (i := 13) rfl))) (mvT hZ (hw _ (List.mem_of_getElem? (i := 14) rfl))) (mvT hZ (hw _ (List.mem_of_getElem? (i := 15) rfl))) (by decide) (mvT hZ (hw _ (List.mem_of_getElem? (i := 17) rfl))) (mvT hZ (hw _ (List.mem_of_getElem? (i := 16) rfl))) (backOf (W := 0) (rm3_ad1 l Z a0 hw [] ad NF h0 n0 Ol) hZ (hw _ (List.mem_of_getElem? (i := 19) rfl)) (hw _ (List.mem_of_getElem? (i := 18) rfl)) (by decide) (by decide)) qa1 qc1 (g := (mkF m 1 #[.val (.ref (ad 1)), .val (.ref (ad 1))] [(.ref (ad 1))])) rfl (by rw [hml]; rfl) (Steps.refl _) (argsL := []) (rest := []) (lenOf pd_2 rfl) rfl (by show 2 * 0 + _ ≤ _; exact Nat.le_of_eq rfl) (hb hby d2_1) (fun _ _ => ⟨rfl, e0, (by decide : 0 + 0 ≤ _), (by decide : 0 + 0 ≤ _)⟩)
  dsimp only [Pt.U, Pt.locs, Pt.cells, Pt.slots] at X1 l1 y1 z1 st1 hQ1
  subst l1 y1 z1
  obtain ⟨rfl, Nq1, e1⟩ := hQ1
  have N1 := Fr.app N0 Nq1
  obtain ⟨T2, X2, e2, st2⟩ := getS2 X1 hx hZ hown (host := "") (Or.inl (hw _ (List.mem_of_getElem? (i := 28) rfl))) Via.refl e1 ((ft_5 NF).ext Ol.2) (g := (mkF m 58 #[.val (.ref (ad 1)), .val (.ref (ad 1))] [(.ref (ad 1))])) rfl (hb hby d2_58)
  obtain ⟨fs, hr, hrun, hended, hW, hsame⟩ := X2.leave (v := some (.int (0 : Int32))) (fun h => by rw [Bd.returns] at h; cases h)
  refine ⟨_, _, pre0 _ ?_, hrun, hended, _, _, rfl, ?_, ⟨_, rfl⟩, hW, hsame.mono (by decide) (by decide)⟩
  · show Steps p.tables e below (s₁.setTop (mkF m 0 #[.val (.ref (ad 1)), .val (.ref (ad 1))] [])) _
    refine XS.aloadN X0.here hx rfl (hb hby d2_0) rfl rfl ?_
    show Steps p.tables e below (s₁.setTop (mkF m 1 #[.val (.ref (ad 1)), .val (.ref (ad 1))] [(.ref (ad 1))])) _
    refine st1.trans ?_
    show Steps p.tables e below (T1.setTop (mkF m 4 #[.val (.ref (ad 1)), .val (.ref (ad 1))] [(.int (1 : Int32))])) _
    refine XS.tswIn X1.here hx rfl (pc0 := 4) (pc' := 57) rfl (hb hby d2_4) (i := (1 : Int32)) rfl (by decide) (o := 53) (by decide) (by decide) (by decide) ?_
    show Steps p.tables e below (T1.setTop (mkF m 57 #[.val (.ref (ad 1)), .val (.ref (ad 1))] [])) _
    refine XS.aloadN X1.here hx rfl (hb hby d2_57) rfl rfl ?_
    show Steps p.tables e below (T1.setTop (mkF m 58 #[.val (.ref (ad 1)), .val (.ref (ad 1))] [(.ref (ad 1))])) _
    refine st2 _ ?_
    show Steps p.tables e below (T2.setTop (mkF m 61 #[.val (.ref (ad 1)), .val (.ref (ad 1))] [(.ref (ad 2)), (.ref (ad 1))])) _
    refine acmp X2 hx rfl (x := (.ref (ad 1))) (y := (.ref (ad 2))) rfl rfl (pc0 := 61) (pc' := 68) (same := false) rfl (hb hby d2_61) rfl (decide_eq_false (fun h => (Fld.ne (ft_7 NF) (ft_8 NF) (by decide)) (Value.ref.inj h))) (by decide) (by decide) ?_
    show Steps p.tables e below (T2.setTop (mkF m 68 #[.val (.ref (ad 1)), .val (.ref (ad 1))] [])) _
    refine XS.iconst X2.here hx rfl (hb hby d2_68) ?_
    show Steps p.tables e below (T2.setTop (mkF m 69 #[.val (.ref (ad 1)), .val (.ref (ad 1))] [(.int (0 : Int32))])) _
    refine XS.goto X2.here hx rfl (pc0 := 69) (pc' := 91) rfl (hb hby d2_69) (by decide) (by decide) ?_
    show Steps p.tables e below (T2.setTop (mkF m 91 #[.val (.ref (ad 1)), .val (.ref (ad 1))] [(.int (0 : Int32))])) _
    exact retN X2 hx (t := .boolean) Bd.returns (by simp) (hb hby d2_91) hr
  · exact ⟨rfl, N1, e2⟩
set_option maxRecDepth 65536 in
set_option maxHeartbeats 40000000 in
theorem rm0_1_1 (l : Launch) (Z : State) (a0 : Array Value) (hw : ∀ d ∈ tables_1, d.before a0 Z = true) (ws : List Jvm.Cond) (ad : Nat → Addr) (NF : Facts Z ad) (h0 : Heap) (n0 : Nat) (Ol : Old Z n0 h0) (p0 p1 : Int32) (hi0 : (p0 &&& (2147483647 : Int32)) % (3 : Int32) = (1 : Int32)) (hi1 : (p1 &&& (2147483647 : Int32)) % (3 : Int32) = (1 : Int32)) :
    MetFree l x (head1 (Jvm.Cond.code x code maxLocals ret :: ws) room_1) (fun a U => a = #[(.int p0), (.int p1)] ∧ Z.Warmed39 U.vm ∧ U.heap = h0) (fun _ _ _ _ _ => True) (fun _ U o U' => ∃ v L, o = .returned v ∧ QL n0 v U'.heap L ∧ FrameEnd U o U' L room_1.cells room_1.slots) := by
  refine MetFree.of_bodySF (plainFor_of_name pn_1) hisR ?_
  intro p e s m args below meth c s₁ Bd hml0 hP hK
  obtain ⟨rfl, hZ, hh⟩ := hP
  have hx := Bd.exec
  have hby := Bd.bytes
  have hml : c.maxLocals = 7 := hml0
  have hown : s.vm.findClass "com/example/gembok/gembok/LockKindWaitsForPinLaw" = some m.cls := findClass_of_methodNamed Bd.named
  have X0 : Stand p l e room_1 s m #[(.int p0), (.int p1)] below meth c s₁ [] 0 0 := Stand.of_body Bd
  have e0 : s₁.heap = h0 := by rw [← hh, Bd.state]; rfl
  have N0 := Fr.nil n0
  have pre0 : ∀ t, Steps p.tables e below (s₁.setTop (mkF m 0 #[.val (.int p0), .val (.int p1), .unset, .unset, .unset, .unset, .unset] [])) t → Steps p.tables e below (s₁.setTop (entryFrame m #[(.int p0), (.int p1)] maxLocals)) t := fun t k => castTop (ef_0_II m (p0) (p1)) k
  obtain ⟨_, _, ⟨T1, L1, k1, n1⟩, -, X1, ⟨Lc1, hQ1, l1, y1, z1⟩, st1⟩ := Jvm.LawKit.callS X0 hx (y := (⟨"com/example/gembok/gembok/LockKindWaitsForPinLaw", "kind", "(I)Lcom/example/gembok/gembok/LockKind;"⟩ : MethodName)) hown (mvT hZ (hw _ (List.mem_of_getElem? (i := 0) rfl))) (mvT hZ (hw _ (List.mem_of_getElem? (i := 1) rfl))) (mvT hZ (hw _ (List.mem_of_getElem? (i := 2) rfl))) (mvT hZ (hw _ (List.mem_of_getElem? (i := 3) rfl))) (by decide) (backOf (W := 0) (rmk_1 l Z a0 hw [] ad NF h0 n0 Ol p0 hi0) hZ (hw _ (List.mem_of_getElem? (i := 3) rfl)) (hw _ (List.mem_of_getElem? (i := 2) rfl)) (by decide) (by decide)) (g := (mkF m 1 #[.val (.int p0), .val (.int p1), .unset, .unset, .unset, .unset, .unset] [(.int p0)])) rfl (by rw [hml]; rfl) (argsL := [(.int p0)]) (rest := []) (lenOf pd_1 rfl) rfl (by show 2 * 0 + _ ≤ _; exact Nat.le_of_eq rfl) (hb hby at_1) (fun _ _ => ⟨rfl, e0, (by decide : 0 + 0 ≤ _), (by decide : 0 + 0 ≤ _)⟩)
  dsimp only [Pt.U, Pt.locs, Pt.cells, Pt.slots] at X1 l1 y1 z1 st1 hQ1
  subst l1 y1 z1
  obtain ⟨rfl, Nq1, e1⟩ := hQ1
  have N1 := Fr.app N0 Nq1
  obtain ⟨_, _, ⟨T2, L2, k2, n2⟩, -, X2, ⟨Lc2, hQ2, l2, y2, z2⟩, st2⟩ := Jvm.LawKit.callS X1 hx (y := (⟨"com/example/gembok/gembok/LockKindWaitsForPinLaw", "kind", "(I)Lcom/example/gembok/gembok/LockKind;"⟩ : MethodName)) hown (mvT hZ (hw _ (List.mem_of_getElem? (i := 0) rfl))) (mvT hZ (hw _ (List.mem_of_getElem? (i := 1) rfl))) (mvT hZ (hw _ (List.mem_of_getElem? (i := 2) rfl))) (mvT hZ (hw _ (List.mem_of_getElem? (i := 3) rfl))) (by decide) (backOf (W := 0) (rmk_1 l Z a0 hw [] ad NF h0 n0 Ol p1 hi1) hZ (hw _ (List.mem_of_getElem? (i := 3) rfl)) (hw _ (List.mem_of_getElem? (i := 2) rfl)) (by decide) (by decide)) (g := (mkF m 6 #[.val (.int p0), .val (.int p1), .val (.ref (ad 1)), .unset, .unset, .unset, .unset] [(.int p1)])) rfl (by rw [hml]; rfl) (argsL := [(.int p1)]) (rest := []) (lenOf pd_1 rfl) rfl (by show 2 * 0 + _ ≤ _; exact Nat.le_of_eq rfl) (hb hby at_6) (fun _ _ => ⟨rfl, e1, (by decide : 0 + 0 ≤ _), (by decide : 0 + 0 ≤ _)⟩)
  dsimp only [Pt.U, Pt.locs, Pt.cells, Pt.slots] at X2 l2 y2 z2 st2 hQ2
  subst l2 y2 z2
  obtain ⟨rfl, Nq2, e2⟩ := hQ2
  have N2 := Fr.app N1 Nq2
  obtain ⟨cq3, kq3, qa3, qb3, qc3⟩ := isOf hZ e2 ((ft_1 NF).ext Ol.2)
  obtain ⟨_, _, ⟨T3, L3, k3, n3⟩, -, X3, ⟨Lc3, hQ3, l3, y3, z3⟩, st3⟩ := X2.virtualBack hx (y := (⟨"com/example/gembok/gembok/LockKind", "waitsFor", "(Lcom/example/gembok/gembok/LockKind;)Z"⟩ : MethodName)) (z := (⟨"com/example/gembok/gembok/LockKind", "waitsFor", "(Lcom/example/gembok/gembok/LockKind;)Z"⟩ : MethodName)) hown (mvT hZ (hw _ (List.mem_of_getElem? (i := 8) rfl))) (mvT hZ (hw _ (List.mem_of_getElem? (i := 9) rfl))) (notFace_of_selects (args := #[]) (mvT hZ (hw _ (List.mem_of_getElem? (i := 11) rfl)))) (mvT hZ (hw _ (List.mem_of_getElem? (i := 11) rfl))) (mvT hZ (hw _ (List.mem_of_getElem? (i := 10) rfl))) (by decide) (backOf (W := 0) (rm2_ad1_ad1 l Z a0 hw [] ad NF h0 n0 Ol) hZ (hw _ (List.mem_of_getElem? (i := 12) rfl)) (hw _ (List.mem_of_getElem? (i := 6) rfl)) (by decide) (by decide)) qa3 qc3 (g := (mkF m 12 #[.val (.int p0), .val (.int p1), .val (.ref (ad 1)), .val (.ref (ad 1)), .unset, .unset, .unset] [(.ref (ad 1)), (.ref (ad 1))])) rfl (by rw [hml]; rfl) (Steps.refl _) (argsL := [(.ref (ad 1))]) (rest := []) (lenOf pd_3 rfl) rfl (by show 2 * 0 + _ ≤ _; exact Nat.le_of_eq rfl) (hb hby at_12) (fun _ _ => ⟨rfl, e2, (by decide : 0 + 0 ≤ _), (by decide : 0 + 0 ≤ _)⟩)
  dsimp only [Pt.U, Pt.locs, Pt.cells, Pt.slots] at X3 l3 y3 z3 st3 hQ3
  subst l3 y3 z3
  obtain ⟨rfl, Nq3, e3⟩ := hQ3
  have N3 := Fr.app N2 Nq3
  obtain ⟨cq4, kq4, qa4, qb4, qc4⟩ := isOf hZ e3 ((ft_1 NF).ext Ol.2)
  obtain ⟨_, _, ⟨T4, L4, k4, n4⟩, -, X4, ⟨Lc4, hQ4, l4, y4, z4⟩, st4⟩ := X3.virtualBack hx (y := (⟨"com/example/gembok/gembok/LockKind", "waitsFor", "(Lcom/example/gembok/gembok/LockKind;)Z"⟩ : MethodName)) (z := (⟨"com/example/gembok/gembok/LockKind", "waitsFor", "(Lcom/example/gembok/gembok/LockKind;)Z"⟩ : MethodName)) hown (mvT hZ (hw _ (List.mem_of_getElem? (i := 8) rfl))) (mvT hZ (hw _ (List.mem_of_getElem? (i := 9) rfl))) (notFace_of_selects (args := #[]) (mvT hZ (hw _ (List.mem_of_getElem? (i := 11) rfl)))) (mvT hZ (hw _ (List.mem_of_getElem? (i := 11) rfl))) (mvT hZ (hw _ (List.mem_of_getElem? (i := 10) rfl))) (by decide) (backOf (W := 0) (rm2_ad1_ad1 l Z a0 hw [] ad NF h0 n0 Ol) hZ (hw _ (List.mem_of_getElem? (i := 12) rfl)) (hw _ (List.mem_of_getElem? (i := 6) rfl)) (by decide) (by decide)) qa4 qc4 (g := (mkF m 19 #[.val (.int p0), .val (.int p1), .val (.ref (ad 1)), .val (.ref (ad 1)), .val (.int (0 : Int32)), .unset, .unset] [(.ref (ad 1)), (.ref (ad 1))])) rfl (by rw [hml]; rfl) (Steps.refl _) (argsL := [(.ref (ad 1))]) (rest := []) (lenOf pd_3 rfl) rfl (by show 2 * 0 + _ ≤ _; exact Nat.le_of_eq rfl) (hb hby at_19) (fun _ _ => ⟨rfl, e3, (by decide : 0 + 0 ≤ _), (by decide : 0 + 0 ≤ _)⟩)
  dsimp only [Pt.U, Pt.locs, Pt.cells, Pt.slots] at X4 l4 y4 z4 st4 hQ4
  subst l4 y4 z4
  obtain ⟨rfl, Nq4, e4⟩ := hQ4
  have N4 := Fr.app N3 Nq4
  obtain ⟨T5, X5, e5, st5⟩ := getS2 X4 hx hZ hown (host := "") (Or.inl (hw _ (List.mem_of_getElem? (i := 23) rfl))) Via.refl e4 ((ft_4 NF).ext Ol.2) (g := (mkF m 30 #[.val (.int p0), .val (.int p1), .val (.ref (ad 1)), .val (.ref (ad 1)), .val (.int (0 : Int32)), .val (.int (0 : Int32)), .unset] [(.ref (ad 1))])) rfl (hb hby at_30)
  obtain ⟨fs, hr, hrun, hended, hW, hsame⟩ := X5.leave (v := some (.int (1 : Int32))) (fun h => by rw [Bd.returns] at h; cases h)
  refine ⟨_, _, pre0 _ ?_, hrun, hended, _, _, rfl, ?_, ⟨_, rfl⟩, hW, hsame.mono (by decide) (by decide)⟩
  · show Steps p.tables e below (s₁.setTop (mkF m 0 #[.val (.int p0), .val (.int p1), .unset, .unset, .unset, .unset, .unset] [])) _
    refine XS.iloadN X0.here hx rfl (hb hby at_0) rfl ?_
    show Steps p.tables e below (s₁.setTop (mkF m 1 #[.val (.int p0), .val (.int p1), .unset, .unset, .unset, .unset, .unset] [(.int p0)])) _
    refine st1 _ ?_
    show Steps p.tables e below (T1.setTop (mkF m 4 #[.val (.int p0), .val (.int p1), .unset, .unset, .unset, .unset, .unset] [(.ref (ad 1))])) _
    refine XS.astoreN X1.here hx rfl (hb hby at_4) rfl rfl (l' := #[.val (.int p0), .val (.int p1), .val (.ref (ad 1)), .unset, .unset, .unset, .unset]) rfl ?_
    show Steps p.tables e below (T1.setTop (mkF m 5 #[.val (.int p0), .val (.int p1), .val (.ref (ad 1)), .unset, .unset, .unset, .unset] [])) _
    refine XS.iloadN X1.here hx rfl (hb hby at_5) rfl ?_
    show Steps p.tables e below (T1.setTop (mkF m 6 #[.val (.int p0), .val (.int p1), .val (.ref (ad 1)), .unset, .unset, .unset, .unset] [(.int p1)])) _
    refine st2 _ ?_
    show Steps p.tables e below (T2.setTop (mkF m 9 #[.val (.int p0), .val (.int p1), .val (.ref (ad 1)), .unset, .unset, .unset, .unset] [(.ref (ad 1))])) _
    refine XS.astoreN X2.here hx rfl (hb hby at_9) rfl rfl (l' := #[.val (.int p0), .val (.int p1), .val (.ref (ad 1)), .val (.ref (ad 1)), .unset, .unset, .unset]) rfl ?_
    show Steps p.tables e below (T2.setTop (mkF m 10 #[.val (.int p0), .val (.int p1), .val (.ref (ad 1)), .val (.ref (ad 1)), .unset, .unset, .unset] [])) _
    refine XS.aloadN X2.here hx rfl (hb hby at_10) rfl rfl ?_
    show Steps p.tables e below (T2.setTop (mkF m 11 #[.val (.int p0), .val (.int p1), .val (.ref (ad 1)), .val (.ref (ad 1)), .unset, .unset, .unset] [(.ref (ad 1))])) _
    refine XS.aloadN X2.here hx rfl (hb hby at_11) rfl rfl ?_
    show Steps p.tables e below (T2.setTop (mkF m 12 #[.val (.int p0), .val (.int p1), .val (.ref (ad 1)), .val (.ref (ad 1)), .unset, .unset, .unset] [(.ref (ad 1)), (.ref (ad 1))])) _
    refine st3.trans ?_
    show Steps p.tables e below (T3.setTop (mkF m 15 #[.val (.int p0), .val (.int p1), .val (.ref (ad 1)), .val (.ref (ad 1)), .unset, .unset, .unset] [(.int (0 : Int32))])) _
    refine XS.istore X3.here hx rfl (hb hby at_15) rfl (l' := #[.val (.int p0), .val (.int p1), .val (.ref (ad 1)), .val (.ref (ad 1)), .val (.int (0 : Int32)), .unset, .unset]) rfl ?_
    show Steps p.tables e below (T3.setTop (mkF m 17 #[.val (.int p0), .val (.int p1), .val (.ref (ad 1)), .val (.ref (ad 1)), .val (.int (0 : Int32)), .unset, .unset] [])) _
    refine XS.aloadN X3.here hx rfl (hb hby at_17) rfl rfl ?_
    show Steps p.tables e below (T3.setTop (mkF m 18 #[.val (.int p0), .val (.int p1), .val (.ref (ad 1)), .val (.ref (ad 1)), .val (.int (0 : Int32)), .unset, .unset] [(.ref (ad 1))])) _
    refine XS.aloadN X3.here hx rfl (hb hby at_18) rfl rfl ?_
    show Steps p.tables e below (T3.setTop (mkF m 19 #[.val (.int p0), .val (.int p1), .val (.ref (ad 1)), .val (.ref (ad 1)), .val (.int (0 : Int32)), .unset, .unset] [(.ref (ad 1)), (.ref (ad 1))])) _
    refine st4.trans ?_
    show Steps p.tables e below (T4.setTop (mkF m 22 #[.val (.int p0), .val (.int p1), .val (.ref (ad 1)), .val (.ref (ad 1)), .val (.int (0 : Int32)), .unset, .unset] [(.int (0 : Int32))])) _
    refine XS.istore X4.here hx rfl (hb hby at_22) rfl (l' := #[.val (.int p0), .val (.int p1), .val (.ref (ad 1)), .val (.ref (ad 1)), .val (.int (0 : Int32)), .val (.int (0 : Int32)), .unset]) rfl ?_
    show Steps p.tables e below (T4.setTop (mkF m 24 #[.val (.int p0), .val (.int p1), .val (.ref (ad 1)), .val (.ref (ad 1)), .val (.int (0 : Int32)), .val (.int (0 : Int32)), .unset] [])) _
    refine XS.aloadN X4.here hx rfl (hb hby at_24) rfl rfl ?_
    show Steps p.tables e below (T4.setTop (mkF m 25 #[.val (.int p0), .val (.int p1), .val (.ref (ad 1)), .val (.ref (ad 1)), .val (.int (0 : Int32)), .val (.int (0 : Int32)), .unset] [(.ref (ad 1))])) _
    refine XS.aloadN X4.here hx rfl (hb hby at_25) rfl rfl ?_
    show Steps p.tables e below (T4.setTop (mkF m 26 #[.val (.int p0), .val (.int p1), .val (.ref (ad 1)), .val (.ref (ad 1)), .val (.int (0 : Int32)), .val (.int (0 : Int32)), .unset] [(.ref (ad 1)), (.ref (ad 1))])) _
    refine acmp X4 hx rfl (x := (.ref (ad 1))) (y := (.ref (ad 1))) rfl rfl (pc0 := 26) (pc' := 29) (same := true) rfl (hb hby at_26) rfl (decide_eq_true rfl) (by decide) (by decide) ?_
    show Steps p.tables e below (T4.setTop (mkF m 29 #[.val (.int p0), .val (.int p1), .val (.ref (ad 1)), .val (.ref (ad 1)), .val (.int (0 : Int32)), .val (.int (0 : Int32)), .unset] [])) _
    refine XS.aloadN X4.here hx rfl (hb hby at_29) rfl rfl ?_
    show Steps p.tables e below (T4.setTop (mkF m 30 #[.val (.int p0), .val (.int p1), .val (.ref (ad 1)), .val (.ref (ad 1)), .val (.int (0 : Int32)), .val (.int (0 : Int32)), .unset] [(.ref (ad 1))])) _
    refine st5 _ ?_
    show Steps p.tables e below (T5.setTop (mkF m 33 #[.val (.int p0), .val (.int p1), .val (.ref (ad 1)), .val (.ref (ad 1)), .val (.int (0 : Int32)), .val (.int (0 : Int32)), .unset] [(.ref (ad 1)), (.ref (ad 1))])) _
    refine acmp X5 hx rfl (x := (.ref (ad 1))) (y := (.ref (ad 1))) rfl rfl (pc0 := 33) (pc' := 40) (same := true) rfl (hb hby at_33) rfl (decide_eq_true rfl) (by decide) (by decide) ?_
    show Steps p.tables e below (T5.setTop (mkF m 40 #[.val (.int p0), .val (.int p1), .val (.ref (ad 1)), .val (.ref (ad 1)), .val (.int (0 : Int32)), .val (.int (0 : Int32)), .unset] [])) _
    refine XS.iconst X5.here hx rfl (hb hby at_40) ?_
    show Steps p.tables e below (T5.setTop (mkF m 41 #[.val (.int p0), .val (.int p1), .val (.ref (ad 1)), .val (.ref (ad 1)), .val (.int (0 : Int32)), .val (.int (0 : Int32)), .unset] [(.int (0 : Int32))])) _
    refine XS.istore X5.here hx rfl (hb hby at_41) rfl (l' := #[.val (.int p0), .val (.int p1), .val (.ref (ad 1)), .val (.ref (ad 1)), .val (.int (0 : Int32)), .val (.int (0 : Int32)), .val (.int (0 : Int32))]) rfl ?_
    show Steps p.tables e below (T5.setTop (mkF m 43 #[.val (.int p0), .val (.int p1), .val (.ref (ad 1)), .val (.ref (ad 1)), .val (.int (0 : Int32)), .val (.int (0 : Int32)), .val (.int (0 : Int32))] [])) _
    refine XS.goto X5.here hx rfl (pc0 := 43) (pc' := 67) rfl (hb hby at_43) (by decide) (by decide) ?_
    show Steps p.tables e below (T5.setTop (mkF m 67 #[.val (.int p0), .val (.int p1), .val (.ref (ad 1)), .val (.ref (ad 1)), .val (.int (0 : Int32)), .val (.int (0 : Int32)), .val (.int (0 : Int32))] [])) _
    refine XS.iload X5.here hx rfl (hb hby at_67) rfl ?_
    show Steps p.tables e below (T5.setTop (mkF m 69 #[.val (.int p0), .val (.int p1), .val (.ref (ad 1)), .val (.ref (ad 1)), .val (.int (0 : Int32)), .val (.int (0 : Int32)), .val (.int (0 : Int32))] [(.int (0 : Int32))])) _
    refine XS.iload X5.here hx rfl (hb hby at_69) rfl ?_
    show Steps p.tables e below (T5.setTop (mkF m 71 #[.val (.int p0), .val (.int p1), .val (.ref (ad 1)), .val (.ref (ad 1)), .val (.int (0 : Int32)), .val (.int (0 : Int32)), .val (.int (0 : Int32))] [(.int (0 : Int32)), (.int (0 : Int32))])) _
    refine XS.icmpNo X5.here hx rfl (hb hby at_71) rfl (teq (by decide)).2 ?_
    show Steps p.tables e below (T5.setTop (mkF m 74 #[.val (.int p0), .val (.int p1), .val (.ref (ad 1)), .val (.ref (ad 1)), .val (.int (0 : Int32)), .val (.int (0 : Int32)), .val (.int (0 : Int32))] [])) _
    refine XS.iload X5.here hx rfl (hb hby at_74) rfl ?_
    show Steps p.tables e below (T5.setTop (mkF m 76 #[.val (.int p0), .val (.int p1), .val (.ref (ad 1)), .val (.ref (ad 1)), .val (.int (0 : Int32)), .val (.int (0 : Int32)), .val (.int (0 : Int32))] [(.int (0 : Int32))])) _
    refine XS.iload X5.here hx rfl (hb hby at_76) rfl ?_
    show Steps p.tables e below (T5.setTop (mkF m 78 #[.val (.int p0), .val (.int p1), .val (.ref (ad 1)), .val (.ref (ad 1)), .val (.int (0 : Int32)), .val (.int (0 : Int32)), .val (.int (0 : Int32))] [(.int (0 : Int32)), (.int (0 : Int32))])) _
    refine XS.icmpNo X5.here hx rfl (hb hby at_78) rfl (teq (by decide)).2 ?_
    show Steps p.tables e below (T5.setTop (mkF m 81 #[.val (.int p0), .val (.int p1), .val (.ref (ad 1)), .val (.ref (ad 1)), .val (.int (0 : Int32)), .val (.int (0 : Int32)), .val (.int (0 : Int32))] [])) _
    refine XS.iconst X5.here hx rfl (hb hby at_81) ?_
    show Steps p.tables e below (T5.setTop (mkF m 82 #[.val (.int p0), .val (.int p1), .val (.ref (ad 1)), .val (.ref (ad 1)), .val (.int (0 : Int32)), .val (.int (0 : Int32)), .val (.int (0 : Int32))] [(.int (1 : Int32))])) _
    refine XS.goto X5.here hx rfl (pc0 := 82) (pc' := 86) rfl (hb hby at_82) (by decide) (by decide) ?_
    show Steps p.tables e below (T5.setTop (mkF m 86 #[.val (.int p0), .val (.int p1), .val (.ref (ad 1)), .val (.ref (ad 1)), .val (.int (0 : Int32)), .val (.int (0 : Int32)), .val (.int (0 : Int32))] [(.int (1 : Int32))])) _
    exact retN X5 hx (t := .boolean) Bd.returns (by simp) (hb hby at_86) hr
  · exact ⟨rfl, N4⟩
theorem d2_64 : decode prog_10_method_4_code 64 = .ok (.iconst 1, 1) := by decide +kernel
theorem d2_65 : decode prog_10_method_4_code 65 = .ok (.goto 26, 3) := by decide +kernel
set_option maxRecDepth 65536 in
set_option maxHeartbeats 40000000 in
theorem rm2_ad1_ad2 (l : Launch) (Z : State) (a0 : Array Value) (hw : ∀ d ∈ tables_1, d.before a0 Z = true) (ws : List Jvm.Cond) (ad : Nat → Addr) (NF : Facts Z ad) (h0 : Heap) (n0 : Nat) (Ol : Old Z n0 h0) :
    MetFree l (⟨"com/example/gembok/gembok/LockKind", "waitsFor", "(Lcom/example/gembok/gembok/LockKind;)Z"⟩ : MethodName) (head1 (Jvm.Cond.code (⟨"com/example/gembok/gembok/LockKind", "waitsFor", "(Lcom/example/gembok/gembok/LockKind;)Z"⟩ : MethodName) prog_10_method_4_code 2 (some .boolean) :: ws) ({ frames := 1, cells := 0, slots := 0, locals := 12 } : Room)) (fun a U => a = #[(.ref (ad 1)), (.ref (ad 2))] ∧ Z.Warmed39 U.vm ∧ U.heap = h0) (fun _ _ _ _ _ => True) (fun _ U o U' => ∃ v L, o = .returned v ∧ QS (.int (1 : Int32)) h0 n0 v U'.heap L ∧ FrameEnd U o U' L ({ frames := 1, cells := 0, slots := 0, locals := 12 } : Room).cells ({ frames := 1, cells := 0, slots := 0, locals := 12 } : Room).slots) := by
  refine MetFree.of_bodySF (plainFor_of_name pn_2) hisR ?_
  intro p e s m args below meth c s₁ Bd hml0 hP hK
  obtain ⟨rfl, hZ, hh⟩ := hP
  have hx := Bd.exec
  have hby := Bd.bytes
  have hml : c.maxLocals = 2 := hml0
  have hown : s.vm.findClass "com/example/gembok/gembok/LockKind" = some m.cls := findClass_of_methodNamed Bd.named
  have X0 : Stand p l e ({ frames := 1, cells := 0, slots := 0, locals := 12 } : Room) s m #[(.ref (ad 1)), (.ref (ad 2))] below meth c s₁ [] 0 0 := Stand.of_body Bd
  have e0 : s₁.heap = h0 := by rw [← hh, Bd.state]; rfl
  have N0 := Fr.nil n0
  have pre0 : ∀ t, Steps p.tables e below (s₁.setTop (mkF m 0 #[.val (.ref (ad 1)), .val (.ref (ad 2))] [])) t → Steps p.tables e below (s₁.setTop (entryFrame m #[(.ref (ad 1)), (.ref (ad 2))] 2)) t := fun t k => castTop (ef_2_RR m (ad 1) (ad 2)) k
  obtain ⟨cq1, kq1, qa1, qb1, qc1⟩ := isOf hZ e0 ((ft_1 NF).ext Ol.2)
  obtain ⟨_, _, ⟨T1, L1, k1, n1⟩, -, X1, ⟨Lc1, hQ1, l1, y1, z1⟩, st1⟩ := X0.virtualBackUp hx (owner := "java/lang/Enum") (x := (⟨"com/example/gembok/gembok/LockKind", "ordinal", "()I"⟩ : MethodName)) (y := (⟨"java/lang/Enum", "ordinal", "()I"⟩ : MethodName)) hown (mvT hZ (hw _ (List.mem_of_getElem? (i := 13) rfl))) (mvT hZ (hw _ (List.mem_of_getElem? (i := 14) rfl))) (mvT hZ (hw _ (List.mem_of_getElem? (i := 15) rfl))) (by decide) (mvT hZ (hw _ (List.mem_of_getElem? (i := 17) rfl))) (mvT hZ (hw _ (List.mem_of_getElem? (i := 16) rfl))) (backOf (W := 0) (rm3_ad1 l Z a0 hw [] ad NF h0 n0 Ol) hZ (hw _ (List.mem_of_getElem? (i := 19) rfl)) (hw _ (List.mem_of_getElem? (i := 18) rfl)) (by decide) (by decide)) qa1 qc1 (g := (mkF m 1 #[.val (.ref (ad 1)), .val (.ref (ad 2))] [(.ref (ad 1))])) rfl (by rw [hml]; rfl) (Steps.refl _) (argsL := []) (rest := []) (lenOf pd_2 rfl) rfl (by show 2 * 0 + _ ≤ _; exact Nat.le_of_eq rfl) (hb hby d2_1) (fun _ _ => ⟨rfl, e0, (by decide : 0 + 0 ≤ _), (by decide : 0 + 0 ≤ _)⟩)
  dsimp only [Pt.U, Pt.locs, Pt.cells, Pt.slots] at X1 l1 y1 z1 st1 hQ1
  subst l1 y1 z1
  obtain ⟨rfl, Nq1, e1⟩ := hQ1
  have N1 := Fr.app N0 Nq1
  obtain ⟨T2, X2, e2, st2⟩ := getS2 X1 hx hZ hown (host := "") (Or.inl (hw _ (List.mem_of_getElem? (i := 28) rfl))) Via.refl e1 ((ft_5 NF).ext Ol.2) (g := (mkF m 58 #[.val (.ref (ad 1)), .val (.ref (ad 2))] [(.ref (ad 2))])) rfl (hb hby d2_58)
  obtain ⟨fs, hr, hrun, hended, hW, hsame⟩ := X2.leave (v := some (.int (1 : Int32))) (fun h => by rw [Bd.returns] at h; cases h)
  refine ⟨_, _, pre0 _ ?_, hrun, hended, _, _, rfl, ?_, ⟨_, rfl⟩, hW, hsame.mono (by decide) (by decide)⟩
  · show Steps p.tables e below (s₁.setTop (mkF m 0 #[.val (.ref (ad 1)), .val (.ref (ad 2))] [])) _
    refine XS.aloadN X0.here hx rfl (hb hby d2_0) rfl rfl ?_
    show Steps p.tables e below (s₁.setTop (mkF m 1 #[.val (.ref (ad 1)), .val (.ref (ad 2))] [(.ref (ad 1))])) _
    refine st1.trans ?_
    show Steps p.tables e below (T1.setTop (mkF m 4 #[.val (.ref (ad 1)), .val (.ref (ad 2))] [(.int (1 : Int32))])) _
    refine XS.tswIn X1.here hx rfl (pc0 := 4) (pc' := 57) rfl (hb hby d2_4) (i := (1 : Int32)) rfl (by decide) (o := 53) (by decide) (by decide) (by decide) ?_
    show Steps p.tables e below (T1.setTop (mkF m 57 #[.val (.ref (ad 1)), .val (.ref (ad 2))] [])) _
    refine XS.aloadN X1.here hx rfl (hb hby d2_57) rfl rfl ?_
    show Steps p.tables e below (T1.setTop (mkF m 58 #[.val (.ref (ad 1)), .val (.ref (ad 2))] [(.ref (ad 2))])) _
    refine st2 _ ?_
    show Steps p.tables e below (T2.setTop (mkF m 61 #[.val (.ref (ad 1)), .val (.ref (ad 2))] [(.ref (ad 2)), (.ref (ad 2))])) _
    refine acmp X2 hx rfl (x := (.ref (ad 2))) (y := (.ref (ad 2))) rfl rfl (pc0 := 61) (pc' := 64) (same := true) rfl (hb hby d2_61) rfl (decide_eq_true rfl) (by decide) (by decide) ?_
    show Steps p.tables e below (T2.setTop (mkF m 64 #[.val (.ref (ad 1)), .val (.ref (ad 2))] [])) _
    refine XS.iconst X2.here hx rfl (hb hby d2_64) ?_
    show Steps p.tables e below (T2.setTop (mkF m 65 #[.val (.ref (ad 1)), .val (.ref (ad 2))] [(.int (1 : Int32))])) _
    refine XS.goto X2.here hx rfl (pc0 := 65) (pc' := 91) rfl (hb hby d2_65) (by decide) (by decide) ?_
    show Steps p.tables e below (T2.setTop (mkF m 91 #[.val (.ref (ad 1)), .val (.ref (ad 2))] [(.int (1 : Int32))])) _
    exact retN X2 hx (t := .boolean) Bd.returns (by simp) (hb hby d2_91) hr
  · exact ⟨rfl, N1, e2⟩
theorem d2_86 : decode prog_10_method_4_code 86 = .ok (.iconst 1, 1) := by decide +kernel
theorem d2_87 : decode prog_10_method_4_code 87 = .ok (.goto 4, 3) := by decide +kernel
set_option maxRecDepth 65536 in
set_option maxHeartbeats 40000000 in
theorem rm2_ad2_ad1 (l : Launch) (Z : State) (a0 : Array Value) (hw : ∀ d ∈ tables_1, d.before a0 Z = true) (ws : List Jvm.Cond) (ad : Nat → Addr) (NF : Facts Z ad) (h0 : Heap) (n0 : Nat) (Ol : Old Z n0 h0) :
    MetFree l (⟨"com/example/gembok/gembok/LockKind", "waitsFor", "(Lcom/example/gembok/gembok/LockKind;)Z"⟩ : MethodName) (head1 (Jvm.Cond.code (⟨"com/example/gembok/gembok/LockKind", "waitsFor", "(Lcom/example/gembok/gembok/LockKind;)Z"⟩ : MethodName) prog_10_method_4_code 2 (some .boolean) :: ws) ({ frames := 1, cells := 0, slots := 0, locals := 12 } : Room)) (fun a U => a = #[(.ref (ad 2)), (.ref (ad 1))] ∧ Z.Warmed39 U.vm ∧ U.heap = h0) (fun _ _ _ _ _ => True) (fun _ U o U' => ∃ v L, o = .returned v ∧ QS (.int (1 : Int32)) h0 n0 v U'.heap L ∧ FrameEnd U o U' L ({ frames := 1, cells := 0, slots := 0, locals := 12 } : Room).cells ({ frames := 1, cells := 0, slots := 0, locals := 12 } : Room).slots) := by
  refine MetFree.of_bodySF (plainFor_of_name pn_2) hisR ?_
  intro p e s m args below meth c s₁ Bd hml0 hP hK
  obtain ⟨rfl, hZ, hh⟩ := hP
  have hx := Bd.exec
  have hby := Bd.bytes
  have hml : c.maxLocals = 2 := hml0
  have hown : s.vm.findClass "com/example/gembok/gembok/LockKind" = some m.cls := findClass_of_methodNamed Bd.named
  have X0 : Stand p l e ({ frames := 1, cells := 0, slots := 0, locals := 12 } : Room) s m #[(.ref (ad 2)), (.ref (ad 1))] below meth c s₁ [] 0 0 := Stand.of_body Bd
  have e0 : s₁.heap = h0 := by rw [← hh, Bd.state]; rfl
  have N0 := Fr.nil n0
  have pre0 : ∀ t, Steps p.tables e below (s₁.setTop (mkF m 0 #[.val (.ref (ad 2)), .val (.ref (ad 1))] [])) t → Steps p.tables e below (s₁.setTop (entryFrame m #[(.ref (ad 2)), (.ref (ad 1))] 2)) t := fun t k => castTop (ef_2_RR m (ad 2) (ad 1)) k
  obtain ⟨cq1, kq1, qa1, qb1, qc1⟩ := isOf hZ e0 ((ft_2 NF).ext Ol.2)
  obtain ⟨_, _, ⟨T1, L1, k1, n1⟩, -, X1, ⟨Lc1, hQ1, l1, y1, z1⟩, st1⟩ := X0.virtualBackUp hx (owner := "java/lang/Enum") (x := (⟨"com/example/gembok/gembok/LockKind", "ordinal", "()I"⟩ : MethodName)) (y := (⟨"java/lang/Enum", "ordinal", "()I"⟩ : MethodName)) hown (mvT hZ (hw _ (List.mem_of_getElem? (i := 13) rfl))) (mvT hZ (hw _ (List.mem_of_getElem? (i := 14) rfl))) (mvT hZ (hw _ (List.mem_of_getElem? (i := 15) rfl))) (by decide) (mvT hZ (hw _ (List.mem_of_getElem? (i := 17) rfl))) (mvT hZ (hw _ (List.mem_of_getElem? (i := 16) rfl))) (backOf (W := 0) (rm3_ad2 l Z a0 hw [] ad NF h0 n0 Ol) hZ (hw _ (List.mem_of_getElem? (i := 19) rfl)) (hw _ (List.mem_of_getElem? (i := 18) rfl)) (by decide) (by decide)) qa1 qc1 (g := (mkF m 1 #[.val (.ref (ad 2)), .val (.ref (ad 1))] [(.ref (ad 2))])) rfl (by rw [hml]; rfl) (Steps.refl _) (argsL := []) (rest := []) (lenOf pd_2 rfl) rfl (by show 2 * 0 + _ ≤ _; exact Nat.le_of_eq rfl) (hb hby d2_1) (fun _ _ => ⟨rfl, e0, (by decide : 0 + 0 ≤ _), (by decide : 0 + 0 ≤ _)⟩)
  dsimp only [Pt.U, Pt.locs, Pt.cells, Pt.slots] at X1 l1 y1 z1 st1 hQ1
  subst l1 y1 z1
  obtain ⟨rfl, Nq1, e1⟩ := hQ1
  have N1 := Fr.app N0 Nq1
  obtain ⟨T2, X2, e2, st2⟩ := getS2 X1 hx hZ hown (host := "") (Or.inl (hw _ (List.mem_of_getElem? (i := 27) rfl))) Via.refl e1 ((ft_4 NF).ext Ol.2) (g := (mkF m 73 #[.val (.ref (ad 2)), .val (.ref (ad 1))] [(.ref (ad 1))])) rfl (hb hby d2_73)
  obtain ⟨fs, hr, hrun, hended, hW, hsame⟩ := X2.leave (v := some (.int (1 : Int32))) (fun h => by rw [Bd.returns] at h; cases h)
  refine ⟨_, _, pre0 _ ?_, hrun, hended, _, _, rfl, ?_, ⟨_, rfl⟩, hW, hsame.mono (by decide) (by decide)⟩
  · show Steps p.tables e below (s₁.setTop (mkF m 0 #[.val (.ref (ad 2)), .val (.ref (ad 1))] [])) _
    refine XS.aloadN X0.here hx rfl (hb hby d2_0) rfl rfl ?_
    show Steps p.tables e below (s₁.setTop (mkF m 1 #[.val (.ref (ad 2)), .val (.ref (ad 1))] [(.ref (ad 2))])) _
    refine st1.trans ?_
    show Steps p.tables e below (T1.setTop (mkF m 4 #[.val (.ref (ad 2)), .val (.ref (ad 1))] [(.int (2 : Int32))])) _
    refine XS.tswIn X1.here hx rfl (pc0 := 4) (pc' := 72) rfl (hb hby d2_4) (i := (2 : Int32)) rfl (by decide) (o := 68) (by decide) (by decide) (by decide) ?_
    show Steps p.tables e below (T1.setTop (mkF m 72 #[.val (.ref (ad 2)), .val (.ref (ad 1))] [])) _
    refine XS.aloadN X1.here hx rfl (hb hby d2_72) rfl rfl ?_
    show Steps p.tables e below (T1.setTop (mkF m 73 #[.val (.ref (ad 2)), .val (.ref (ad 1))] [(.ref (ad 1))])) _
    refine st2 _ ?_
    show Steps p.tables e below (T2.setTop (mkF m 76 #[.val (.ref (ad 2)), .val (.ref (ad 1))] [(.ref (ad 1)), (.ref (ad 1))])) _
    refine acmp X2 hx rfl (x := (.ref (ad 1))) (y := (.ref (ad 1))) rfl rfl (pc0 := 76) (pc' := 86) (same := true) rfl (hb hby d2_76) rfl (decide_eq_true rfl) (by decide) (by decide) ?_
    show Steps p.tables e below (T2.setTop (mkF m 86 #[.val (.ref (ad 2)), .val (.ref (ad 1))] [])) _
    refine XS.iconst X2.here hx rfl (hb hby d2_86) ?_
    show Steps p.tables e below (T2.setTop (mkF m 87 #[.val (.ref (ad 2)), .val (.ref (ad 1))] [(.int (1 : Int32))])) _
    refine XS.goto X2.here hx rfl (pc0 := 87) (pc' := 91) rfl (hb hby d2_87) (by decide) (by decide) ?_
    show Steps p.tables e below (T2.setTop (mkF m 91 #[.val (.ref (ad 2)), .val (.ref (ad 1))] [(.int (1 : Int32))])) _
    exact retN X2 hx (t := .boolean) Bd.returns (by simp) (hb hby d2_91) hr
  · exact ⟨rfl, N1, e2⟩
set_option maxRecDepth 65536 in
set_option maxHeartbeats 40000000 in
theorem rm0_1_2 (l : Launch) (Z : State) (a0 : Array Value) (hw : ∀ d ∈ tables_1, d.before a0 Z = true) (ws : List Jvm.Cond) (ad : Nat → Addr) (NF : Facts Z ad) (h0 : Heap) (n0 : Nat) (Ol : Old Z n0 h0) (p0 p1 : Int32) (hi0 : (p0 &&& (2147483647 : Int32)) % (3 : Int32) = (1 : Int32)) (hi1 : (p1 &&& (2147483647 : Int32)) % (3 : Int32) = (2 : Int32)) :
    MetFree l x (head1 (Jvm.Cond.code x code maxLocals ret :: ws) room_1) (fun a U => a = #[(.int p0), (.int p1)] ∧ Z.Warmed39 U.vm ∧ U.heap = h0) (fun _ _ _ _ _ => True) (fun _ U o U' => ∃ v L, o = .returned v ∧ QL n0 v U'.heap L ∧ FrameEnd U o U' L room_1.cells room_1.slots) := by
  refine MetFree.of_bodySF (plainFor_of_name pn_1) hisR ?_
  intro p e s m args below meth c s₁ Bd hml0 hP hK
  obtain ⟨rfl, hZ, hh⟩ := hP
  have hx := Bd.exec
  have hby := Bd.bytes
  have hml : c.maxLocals = 7 := hml0
  have hown : s.vm.findClass "com/example/gembok/gembok/LockKindWaitsForPinLaw" = some m.cls := findClass_of_methodNamed Bd.named
  have X0 : Stand p l e room_1 s m #[(.int p0), (.int p1)] below meth c s₁ [] 0 0 := Stand.of_body Bd
  have e0 : s₁.heap = h0 := by rw [← hh, Bd.state]; rfl
  have N0 := Fr.nil n0
  have pre0 : ∀ t, Steps p.tables e below (s₁.setTop (mkF m 0 #[.val (.int p0), .val (.int p1), .unset, .unset, .unset, .unset, .unset] [])) t → Steps p.tables e below (s₁.setTop (entryFrame m #[(.int p0), (.int p1)] maxLocals)) t := fun t k => castTop (ef_0_II m (p0) (p1)) k
  obtain ⟨_, _, ⟨T1, L1, k1, n1⟩, -, X1, ⟨Lc1, hQ1, l1, y1, z1⟩, st1⟩ := Jvm.LawKit.callS X0 hx (y := (⟨"com/example/gembok/gembok/LockKindWaitsForPinLaw", "kind", "(I)Lcom/example/gembok/gembok/LockKind;"⟩ : MethodName)) hown (mvT hZ (hw _ (List.mem_of_getElem? (i := 0) rfl))) (mvT hZ (hw _ (List.mem_of_getElem? (i := 1) rfl))) (mvT hZ (hw _ (List.mem_of_getElem? (i := 2) rfl))) (mvT hZ (hw _ (List.mem_of_getElem? (i := 3) rfl))) (by decide) (backOf (W := 0) (rmk_1 l Z a0 hw [] ad NF h0 n0 Ol p0 hi0) hZ (hw _ (List.mem_of_getElem? (i := 3) rfl)) (hw _ (List.mem_of_getElem? (i := 2) rfl)) (by decide) (by decide)) (g := (mkF m 1 #[.val (.int p0), .val (.int p1), .unset, .unset, .unset, .unset, .unset] [(.int p0)])) rfl (by rw [hml]; rfl) (argsL := [(.int p0)]) (rest := []) (lenOf pd_1 rfl) rfl (by show 2 * 0 + _ ≤ _; exact Nat.le_of_eq rfl) (hb hby at_1) (fun _ _ => ⟨rfl, e0, (by decide : 0 + 0 ≤ _), (by decide : 0 + 0 ≤ _)⟩)
  dsimp only [Pt.U, Pt.locs, Pt.cells, Pt.slots] at X1 l1 y1 z1 st1 hQ1
  subst l1 y1 z1
  obtain ⟨rfl, Nq1, e1⟩ := hQ1
  have N1 := Fr.app N0 Nq1
  obtain ⟨_, _, ⟨T2, L2, k2, n2⟩, -, X2, ⟨Lc2, hQ2, l2, y2, z2⟩, st2⟩ := Jvm.LawKit.callS X1 hx (y := (⟨"com/example/gembok/gembok/LockKindWaitsForPinLaw", "kind", "(I)Lcom/example/gembok/gembok/LockKind;"⟩ : MethodName)) hown (mvT hZ (hw _ (List.mem_of_getElem? (i := 0) rfl))) (mvT hZ (hw _ (List.mem_of_getElem? (i := 1) rfl))) (mvT hZ (hw _ (List.mem_of_getElem? (i := 2) rfl))) (mvT hZ (hw _ (List.mem_of_getElem? (i := 3) rfl))) (by decide) (backOf (W := 0) (rmk_2 l Z a0 hw [] ad NF h0 n0 Ol p1 hi1) hZ (hw _ (List.mem_of_getElem? (i := 3) rfl)) (hw _ (List.mem_of_getElem? (i := 2) rfl)) (by decide) (by decide)) (g := (mkF m 6 #[.val (.int p0), .val (.int p1), .val (.ref (ad 1)), .unset, .unset, .unset, .unset] [(.int p1)])) rfl (by rw [hml]; rfl) (argsL := [(.int p1)]) (rest := []) (lenOf pd_1 rfl) rfl (by show 2 * 0 + _ ≤ _; exact Nat.le_of_eq rfl) (hb hby at_6) (fun _ _ => ⟨rfl, e1, (by decide : 0 + 0 ≤ _), (by decide : 0 + 0 ≤ _)⟩)
  dsimp only [Pt.U, Pt.locs, Pt.cells, Pt.slots] at X2 l2 y2 z2 st2 hQ2
  subst l2 y2 z2
  obtain ⟨rfl, Nq2, e2⟩ := hQ2
  have N2 := Fr.app N1 Nq2
  obtain ⟨cq3, kq3, qa3, qb3, qc3⟩ := isOf hZ e2 ((ft_1 NF).ext Ol.2)
  obtain ⟨_, _, ⟨T3, L3, k3, n3⟩, -, X3, ⟨Lc3, hQ3, l3, y3, z3⟩, st3⟩ := X2.virtualBack hx (y := (⟨"com/example/gembok/gembok/LockKind", "waitsFor", "(Lcom/example/gembok/gembok/LockKind;)Z"⟩ : MethodName)) (z := (⟨"com/example/gembok/gembok/LockKind", "waitsFor", "(Lcom/example/gembok/gembok/LockKind;)Z"⟩ : MethodName)) hown (mvT hZ (hw _ (List.mem_of_getElem? (i := 8) rfl))) (mvT hZ (hw _ (List.mem_of_getElem? (i := 9) rfl))) (notFace_of_selects (args := #[]) (mvT hZ (hw _ (List.mem_of_getElem? (i := 11) rfl)))) (mvT hZ (hw _ (List.mem_of_getElem? (i := 11) rfl))) (mvT hZ (hw _ (List.mem_of_getElem? (i := 10) rfl))) (by decide) (backOf (W := 0) (rm2_ad1_ad2 l Z a0 hw [] ad NF h0 n0 Ol) hZ (hw _ (List.mem_of_getElem? (i := 12) rfl)) (hw _ (List.mem_of_getElem? (i := 6) rfl)) (by decide) (by decide)) qa3 qc3 (g := (mkF m 12 #[.val (.int p0), .val (.int p1), .val (.ref (ad 1)), .val (.ref (ad 2)), .unset, .unset, .unset] [(.ref (ad 2)), (.ref (ad 1))])) rfl (by rw [hml]; rfl) (Steps.refl _) (argsL := [(.ref (ad 2))]) (rest := []) (lenOf pd_3 rfl) rfl (by show 2 * 0 + _ ≤ _; exact Nat.le_of_eq rfl) (hb hby at_12) (fun _ _ => ⟨rfl, e2, (by decide : 0 + 0 ≤ _), (by decide : 0 + 0 ≤ _)⟩)
  dsimp only [Pt.U, Pt.locs, Pt.cells, Pt.slots] at X3 l3 y3 z3 st3 hQ3
  subst l3 y3 z3
  obtain ⟨rfl, Nq3, e3⟩ := hQ3
  have N3 := Fr.app N2 Nq3
  obtain ⟨cq4, kq4, qa4, qb4, qc4⟩ := isOf hZ e3 ((ft_2 NF).ext Ol.2)
  obtain ⟨_, _, ⟨T4, L4, k4, n4⟩, -, X4, ⟨Lc4, hQ4, l4, y4, z4⟩, st4⟩ := X3.virtualBack hx (y := (⟨"com/example/gembok/gembok/LockKind", "waitsFor", "(Lcom/example/gembok/gembok/LockKind;)Z"⟩ : MethodName)) (z := (⟨"com/example/gembok/gembok/LockKind", "waitsFor", "(Lcom/example/gembok/gembok/LockKind;)Z"⟩ : MethodName)) hown (mvT hZ (hw _ (List.mem_of_getElem? (i := 8) rfl))) (mvT hZ (hw _ (List.mem_of_getElem? (i := 9) rfl))) (notFace_of_selects (args := #[]) (mvT hZ (hw _ (List.mem_of_getElem? (i := 11) rfl)))) (mvT hZ (hw _ (List.mem_of_getElem? (i := 11) rfl))) (mvT hZ (hw _ (List.mem_of_getElem? (i := 10) rfl))) (by decide) (backOf (W := 0) (rm2_ad2_ad1 l Z a0 hw [] ad NF h0 n0 Ol) hZ (hw _ (List.mem_of_getElem? (i := 12) rfl)) (hw _ (List.mem_of_getElem? (i := 6) rfl)) (by decide) (by decide)) qa4 qc4 (g := (mkF m 19 #[.val (.int p0), .val (.int p1), .val (.ref (ad 1)), .val (.ref (ad 2)), .val (.int (1 : Int32)), .unset, .unset] [(.ref (ad 1)), (.ref (ad 2))])) rfl (by rw [hml]; rfl) (Steps.refl _) (argsL := [(.ref (ad 1))]) (rest := []) (lenOf pd_3 rfl) rfl (by show 2 * 0 + _ ≤ _; exact Nat.le_of_eq rfl) (hb hby at_19) (fun _ _ => ⟨rfl, e3, (by decide : 0 + 0 ≤ _), (by decide : 0 + 0 ≤ _)⟩)
  dsimp only [Pt.U, Pt.locs, Pt.cells, Pt.slots] at X4 l4 y4 z4 st4 hQ4
  subst l4 y4 z4
  obtain ⟨rfl, Nq4, e4⟩ := hQ4
  have N4 := Fr.app N3 Nq4
  obtain ⟨T5, X5, e5, st5⟩ := getS2 X4 hx hZ hown (host := "") (Or.inl (hw _ (List.mem_of_getElem? (i := 5) rfl))) Via.refl e4 ((ft_3 NF).ext Ol.2) (g := (mkF m 47 #[.val (.int p0), .val (.int p1), .val (.ref (ad 1)), .val (.ref (ad 2)), .val (.int (1 : Int32)), .val (.int (1 : Int32)), .unset] [(.ref (ad 1))])) rfl (hb hby at_47)
  obtain ⟨T6, X6, e6, st6⟩ := getS2 X5 hx hZ hown (host := "") (Or.inl (hw _ (List.mem_of_getElem? (i := 5) rfl))) Via.refl e5 ((ft_3 NF).ext Ol.2) (g := (mkF m 54 #[.val (.int p0), .val (.int p1), .val (.ref (ad 1)), .val (.ref (ad 2)), .val (.int (1 : Int32)), .val (.int (1 : Int32)), .unset] [(.ref (ad 2))])) rfl (hb hby at_54)
  obtain ⟨fs, hr, hrun, hended, hW, hsame⟩ := X6.leave (v := some (.int (1 : Int32))) (fun h => by rw [Bd.returns] at h; cases h)
  refine ⟨_, _, pre0 _ ?_, hrun, hended, _, _, rfl, ?_, ⟨_, rfl⟩, hW, hsame.mono (by decide) (by decide)⟩
  · show Steps p.tables e below (s₁.setTop (mkF m 0 #[.val (.int p0), .val (.int p1), .unset, .unset, .unset, .unset, .unset] [])) _
    refine XS.iloadN X0.here hx rfl (hb hby at_0) rfl ?_
    show Steps p.tables e below (s₁.setTop (mkF m 1 #[.val (.int p0), .val (.int p1), .unset, .unset, .unset, .unset, .unset] [(.int p0)])) _
    refine st1 _ ?_
    show Steps p.tables e below (T1.setTop (mkF m 4 #[.val (.int p0), .val (.int p1), .unset, .unset, .unset, .unset, .unset] [(.ref (ad 1))])) _
    refine XS.astoreN X1.here hx rfl (hb hby at_4) rfl rfl (l' := #[.val (.int p0), .val (.int p1), .val (.ref (ad 1)), .unset, .unset, .unset, .unset]) rfl ?_
    show Steps p.tables e below (T1.setTop (mkF m 5 #[.val (.int p0), .val (.int p1), .val (.ref (ad 1)), .unset, .unset, .unset, .unset] [])) _
    refine XS.iloadN X1.here hx rfl (hb hby at_5) rfl ?_
    show Steps p.tables e below (T1.setTop (mkF m 6 #[.val (.int p0), .val (.int p1), .val (.ref (ad 1)), .unset, .unset, .unset, .unset] [(.int p1)])) _
    refine st2 _ ?_
    show Steps p.tables e below (T2.setTop (mkF m 9 #[.val (.int p0), .val (.int p1), .val (.ref (ad 1)), .unset, .unset, .unset, .unset] [(.ref (ad 2))])) _
    refine XS.astoreN X2.here hx rfl (hb hby at_9) rfl rfl (l' := #[.val (.int p0), .val (.int p1), .val (.ref (ad 1)), .val (.ref (ad 2)), .unset, .unset, .unset]) rfl ?_
    show Steps p.tables e below (T2.setTop (mkF m 10 #[.val (.int p0), .val (.int p1), .val (.ref (ad 1)), .val (.ref (ad 2)), .unset, .unset, .unset] [])) _
    refine XS.aloadN X2.here hx rfl (hb hby at_10) rfl rfl ?_
    show Steps p.tables e below (T2.setTop (mkF m 11 #[.val (.int p0), .val (.int p1), .val (.ref (ad 1)), .val (.ref (ad 2)), .unset, .unset, .unset] [(.ref (ad 1))])) _
    refine XS.aloadN X2.here hx rfl (hb hby at_11) rfl rfl ?_
    show Steps p.tables e below (T2.setTop (mkF m 12 #[.val (.int p0), .val (.int p1), .val (.ref (ad 1)), .val (.ref (ad 2)), .unset, .unset, .unset] [(.ref (ad 2)), (.ref (ad 1))])) _
    refine st3.trans ?_
    show Steps p.tables e below (T3.setTop (mkF m 15 #[.val (.int p0), .val (.int p1), .val (.ref (ad 1)), .val (.ref (ad 2)), .unset, .unset, .unset] [(.int (1 : Int32))])) _
    refine XS.istore X3.here hx rfl (hb hby at_15) rfl (l' := #[.val (.int p0), .val (.int p1), .val (.ref (ad 1)), .val (.ref (ad 2)), .val (.int (1 : Int32)), .unset, .unset]) rfl ?_
    show Steps p.tables e below (T3.setTop (mkF m 17 #[.val (.int p0), .val (.int p1), .val (.ref (ad 1)), .val (.ref (ad 2)), .val (.int (1 : Int32)), .unset, .unset] [])) _
    refine XS.aloadN X3.here hx rfl (hb hby at_17) rfl rfl ?_
    show Steps p.tables e below (T3.setTop (mkF m 18 #[.val (.int p0), .val (.int p1), .val (.ref (ad 1)), .val (.ref (ad 2)), .val (.int (1 : Int32)), .unset, .unset] [(.ref (ad 2))])) _
    refine XS.aloadN X3.here hx rfl (hb hby at_18) rfl rfl ?_
    show Steps p.tables e below (T3.setTop (mkF m 19 #[.val (.int p0), .val (.int p1), .val (.ref (ad 1)), .val (.ref (ad 2)), .val (.int (1 : Int32)), .unset, .unset] [(.ref (ad 1)), (.ref (ad 2))])) _
    refine st4.trans ?_
    show Steps p.tables e below (T4.setTop (mkF m 22 #[.val (.int p0), .val (.int p1), .val (.ref (ad 1)), .val (.ref (ad 2)), .val (.int (1 : Int32)), .unset, .unset] [(.int (1 : Int32))])) _
    refine XS.istore X4.here hx rfl (hb hby at_22) rfl (l' := #[.val (.int p0), .val (.int p1), .val (.ref (ad 1)), .val (.ref (ad 2)), .val (.int (1 : Int32)), .val (.int (1 : Int32)), .unset]) rfl ?_
    show Steps p.tables e below (T4.setTop (mkF m 24 #[.val (.int p0), .val (.int p1), .val (.ref (ad 1)), .val (.ref (ad 2)), .val (.int (1 : Int32)), .val (.int (1 : Int32)), .unset] [])) _
    refine XS.aloadN X4.here hx rfl (hb hby at_24) rfl rfl ?_
    show Steps p.tables e below (T4.setTop (mkF m 25 #[.val (.int p0), .val (.int p1), .val (.ref (ad 1)), .val (.ref (ad 2)), .val (.int (1 : Int32)), .val (.int (1 : Int32)), .unset] [(.ref (ad 1))])) _
    refine XS.aloadN X4.here hx rfl (hb hby at_25) rfl rfl ?_
    show Steps p.tables e below (T4.setTop (mkF m 26 #[.val (.int p0), .val (.int p1), .val (.ref (ad 1)), .val (.ref (ad 2)), .val (.int (1 : Int32)), .val (.int (1 : Int32)), .unset] [(.ref (ad 2)), (.ref (ad 1))])) _
    refine acmp X4 hx rfl (x := (.ref (ad 1))) (y := (.ref (ad 2))) rfl rfl (pc0 := 26) (pc' := 46) (same := false) rfl (hb hby at_26) rfl (decide_eq_false (fun h => (Fld.ne (ft_7 NF) (ft_8 NF) (by decide)) (Value.ref.inj h))) (by decide) (by decide) ?_
    show Steps p.tables e below (T4.setTop (mkF m 46 #[.val (.int p0), .val (.int p1), .val (.ref (ad 1)), .val (.ref (ad 2)), .val (.int (1 : Int32)), .val (.int (1 : Int32)), .unset] [])) _
    refine XS.aloadN X4.here hx rfl (hb hby at_46) rfl rfl ?_
    show Steps p.tables e below (T4.setTop (mkF m 47 #[.val (.int p0), .val (.int p1), .val (.ref (ad 1)), .val (.ref (ad 2)), .val (.int (1 : Int32)), .val (.int (1 : Int32)), .unset] [(.ref (ad 1))])) _
    refine st5 _ ?_
    show Steps p.tables e below (T5.setTop (mkF m 50 #[.val (.int p0), .val (.int p1), .val (.ref (ad 1)), .val (.ref (ad 2)), .val (.int (1 : Int32)), .val (.int (1 : Int32)), .unset] [(.ref (ad 0)), (.ref (ad 1))])) _
    refine acmp X5 hx rfl (x := (.ref (ad 1))) (y := (.ref (ad 0))) rfl rfl (pc0 := 50) (pc' := 53) (same := false) rfl (hb hby at_50) rfl (decide_eq_false (fun h => (Fld.ne (ft_7 NF) (ft_6 NF) (by decide)) (Value.ref.inj h))) (by decide) (by decide) ?_
    show Steps p.tables e below (T5.setTop (mkF m 53 #[.val (.int p0), .val (.int p1), .val (.ref (ad 1)), .val (.ref (ad 2)), .val (.int (1 : Int32)), .val (.int (1 : Int32)), .unset] [])) _
    refine XS.aloadN X5.here hx rfl (hb hby at_53) rfl rfl ?_
    show Steps p.tables e below (T5.setTop (mkF m 54 #[.val (.int p0), .val (.int p1), .val (.ref (ad 1)), .val (.ref (ad 2)), .val (.int (1 : Int32)), .val (.int (1 : Int32)), .unset] [(.ref (ad 2))])) _
    refine st6 _ ?_
    show Steps p.tables e below (T6.setTop (mkF m 57 #[.val (.int p0), .val (.int p1), .val (.ref (ad 1)), .val (.ref (ad 2)), .val (.int (1 : Int32)), .val (.int (1 : Int32)), .unset] [(.ref (ad 0)), (.ref (ad 2))])) _
    refine acmp X6 hx rfl (x := (.ref (ad 2))) (y := (.ref (ad 0))) rfl rfl (pc0 := 57) (pc' := 60) (same := false) rfl (hb hby at_57) rfl (decide_eq_false (fun h => (Fld.ne (ft_8 NF) (ft_6 NF) (by decide)) (Value.ref.inj h))) (by decide) (by decide) ?_
    show Steps p.tables e below (T6.setTop (mkF m 60 #[.val (.int p0), .val (.int p1), .val (.ref (ad 1)), .val (.ref (ad 2)), .val (.int (1 : Int32)), .val (.int (1 : Int32)), .unset] [])) _
    refine XS.iconst X6.here hx rfl (hb hby at_60) ?_
    show Steps p.tables e below (T6.setTop (mkF m 61 #[.val (.int p0), .val (.int p1), .val (.ref (ad 1)), .val (.ref (ad 2)), .val (.int (1 : Int32)), .val (.int (1 : Int32)), .unset] [(.int (1 : Int32))])) _
    refine XS.goto X6.here hx rfl (pc0 := 61) (pc' := 65) rfl (hb hby at_61) (by decide) (by decide) ?_
    show Steps p.tables e below (T6.setTop (mkF m 65 #[.val (.int p0), .val (.int p1), .val (.ref (ad 1)), .val (.ref (ad 2)), .val (.int (1 : Int32)), .val (.int (1 : Int32)), .unset] [(.int (1 : Int32))])) _
    refine XS.istore X6.here hx rfl (hb hby at_65) rfl (l' := #[.val (.int p0), .val (.int p1), .val (.ref (ad 1)), .val (.ref (ad 2)), .val (.int (1 : Int32)), .val (.int (1 : Int32)), .val (.int (1 : Int32))]) rfl ?_
    show Steps p.tables e below (T6.setTop (mkF m 67 #[.val (.int p0), .val (.int p1), .val (.ref (ad 1)), .val (.ref (ad 2)), .val (.int (1 : Int32)), .val (.int (1 : Int32)), .val (.int (1 : Int32))] [])) _
    refine XS.iload X6.here hx rfl (hb hby at_67) rfl ?_
    show Steps p.tables e below (T6.setTop (mkF m 69 #[.val (.int p0), .val (.int p1), .val (.ref (ad 1)), .val (.ref (ad 2)), .val (.int (1 : Int32)), .val (.int (1 : Int32)), .val (.int (1 : Int32))] [(.int (1 : Int32))])) _
    refine XS.iload X6.here hx rfl (hb hby at_69) rfl ?_
    show Steps p.tables e below (T6.setTop (mkF m 71 #[.val (.int p0), .val (.int p1), .val (.ref (ad 1)), .val (.ref (ad 2)), .val (.int (1 : Int32)), .val (.int (1 : Int32)), .val (.int (1 : Int32))] [(.int (1 : Int32)), (.int (1 : Int32))])) _
    refine XS.icmpNo X6.here hx rfl (hb hby at_71) rfl (teq (by decide)).2 ?_
    show Steps p.tables e below (T6.setTop (mkF m 74 #[.val (.int p0), .val (.int p1), .val (.ref (ad 1)), .val (.ref (ad 2)), .val (.int (1 : Int32)), .val (.int (1 : Int32)), .val (.int (1 : Int32))] [])) _
    refine XS.iload X6.here hx rfl (hb hby at_74) rfl ?_
    show Steps p.tables e below (T6.setTop (mkF m 76 #[.val (.int p0), .val (.int p1), .val (.ref (ad 1)), .val (.ref (ad 2)), .val (.int (1 : Int32)), .val (.int (1 : Int32)), .val (.int (1 : Int32))] [(.int (1 : Int32))])) _
    refine XS.iload X6.here hx rfl (hb hby at_76) rfl ?_
    show Steps p.tables e below (T6.setTop (mkF m 78 #[.val (.int p0), .val (.int p1), .val (.ref (ad 1)), .val (.ref (ad 2)), .val (.int (1 : Int32)), .val (.int (1 : Int32)), .val (.int (1 : Int32))] [(.int (1 : Int32)), (.int (1 : Int32))])) _
    refine XS.icmpNo X6.here hx rfl (hb hby at_78) rfl (teq (by decide)).2 ?_
    show Steps p.tables e below (T6.setTop (mkF m 81 #[.val (.int p0), .val (.int p1), .val (.ref (ad 1)), .val (.ref (ad 2)), .val (.int (1 : Int32)), .val (.int (1 : Int32)), .val (.int (1 : Int32))] [])) _
    refine XS.iconst X6.here hx rfl (hb hby at_81) ?_
    show Steps p.tables e below (T6.setTop (mkF m 82 #[.val (.int p0), .val (.int p1), .val (.ref (ad 1)), .val (.ref (ad 2)), .val (.int (1 : Int32)), .val (.int (1 : Int32)), .val (.int (1 : Int32))] [(.int (1 : Int32))])) _
    refine XS.goto X6.here hx rfl (pc0 := 82) (pc' := 86) rfl (hb hby at_82) (by decide) (by decide) ?_
    show Steps p.tables e below (T6.setTop (mkF m 86 #[.val (.int p0), .val (.int p1), .val (.ref (ad 1)), .val (.ref (ad 2)), .val (.int (1 : Int32)), .val (.int (1 : Int32)), .val (.int (1 : Int32))] [(.int (1 : Int32))])) _
    exact retN X6 hx (t := .boolean) Bd.returns (by simp) (hb hby at_86) hr
  · exact ⟨rfl, N4⟩
set_option maxRecDepth 65536 in
set_option maxHeartbeats 40000000 in
theorem rm0_2_0 (l : Launch) (Z : State) (a0 : Array Value) (hw : ∀ d ∈ tables_1, d.before a0 Z = true) (ws : List Jvm.Cond) (ad : Nat → Addr) (NF : Facts Z ad) (h0 : Heap) (n0 : Nat) (Ol : Old Z n0 h0) (p0 p1 : Int32) (hi0 : (p0 &&& (2147483647 : Int32)) % (3 : Int32) = (2 : Int32)) (hi1 : (p1 &&& (2147483647 : Int32)) % (3 : Int32) = (0 : Int32)) :
    MetFree l x (head1 (Jvm.Cond.code x code maxLocals ret :: ws) room_1) (fun a U => a = #[(.int p0), (.int p1)] ∧ Z.Warmed39 U.vm ∧ U.heap = h0) (fun _ _ _ _ _ => True) (fun _ U o U' => ∃ v L, o = .returned v ∧ QL n0 v U'.heap L ∧ FrameEnd U o U' L room_1.cells room_1.slots) := by
  refine MetFree.of_bodySF (plainFor_of_name pn_1) hisR ?_
  intro p e s m args below meth c s₁ Bd hml0 hP hK
  obtain ⟨rfl, hZ, hh⟩ := hP
  have hx := Bd.exec
  have hby := Bd.bytes
  have hml : c.maxLocals = 7 := hml0
  have hown : s.vm.findClass "com/example/gembok/gembok/LockKindWaitsForPinLaw" = some m.cls := findClass_of_methodNamed Bd.named
  have X0 : Stand p l e room_1 s m #[(.int p0), (.int p1)] below meth c s₁ [] 0 0 := Stand.of_body Bd
  have e0 : s₁.heap = h0 := by rw [← hh, Bd.state]; rfl
  have N0 := Fr.nil n0
  have pre0 : ∀ t, Steps p.tables e below (s₁.setTop (mkF m 0 #[.val (.int p0), .val (.int p1), .unset, .unset, .unset, .unset, .unset] [])) t → Steps p.tables e below (s₁.setTop (entryFrame m #[(.int p0), (.int p1)] maxLocals)) t := fun t k => castTop (ef_0_II m (p0) (p1)) k
  obtain ⟨_, _, ⟨T1, L1, k1, n1⟩, -, X1, ⟨Lc1, hQ1, l1, y1, z1⟩, st1⟩ := Jvm.LawKit.callS X0 hx (y := (⟨"com/example/gembok/gembok/LockKindWaitsForPinLaw", "kind", "(I)Lcom/example/gembok/gembok/LockKind;"⟩ : MethodName)) hown (mvT hZ (hw _ (List.mem_of_getElem? (i := 0) rfl))) (mvT hZ (hw _ (List.mem_of_getElem? (i := 1) rfl))) (mvT hZ (hw _ (List.mem_of_getElem? (i := 2) rfl))) (mvT hZ (hw _ (List.mem_of_getElem? (i := 3) rfl))) (by decide) (backOf (W := 0) (rmk_2 l Z a0 hw [] ad NF h0 n0 Ol p0 hi0) hZ (hw _ (List.mem_of_getElem? (i := 3) rfl)) (hw _ (List.mem_of_getElem? (i := 2) rfl)) (by decide) (by decide)) (g := (mkF m 1 #[.val (.int p0), .val (.int p1), .unset, .unset, .unset, .unset, .unset] [(.int p0)])) rfl (by rw [hml]; rfl) (argsL := [(.int p0)]) (rest := []) (lenOf pd_1 rfl) rfl (by show 2 * 0 + _ ≤ _; exact Nat.le_of_eq rfl) (hb hby at_1) (fun _ _ => ⟨rfl, e0, (by decide : 0 + 0 ≤ _), (by decide : 0 + 0 ≤ _)⟩)
  dsimp only [Pt.U, Pt.locs, Pt.cells, Pt.slots] at X1 l1 y1 z1 st1 hQ1
  subst l1 y1 z1
  obtain ⟨rfl, Nq1, e1⟩ := hQ1
  have N1 := Fr.app N0 Nq1
  obtain ⟨_, _, ⟨T2, L2, k2, n2⟩, -, X2, ⟨Lc2, hQ2, l2, y2, z2⟩, st2⟩ := Jvm.LawKit.callS X1 hx (y := (⟨"com/example/gembok/gembok/LockKindWaitsForPinLaw", "kind", "(I)Lcom/example/gembok/gembok/LockKind;"⟩ : MethodName)) hown (mvT hZ (hw _ (List.mem_of_getElem? (i := 0) rfl))) (mvT hZ (hw _ (List.mem_of_getElem? (i := 1) rfl))) (mvT hZ (hw _ (List.mem_of_getElem? (i := 2) rfl))) (mvT hZ (hw _ (List.mem_of_getElem? (i := 3) rfl))) (by decide) (backOf (W := 0) (rmk_0 l Z a0 hw [] ad NF h0 n0 Ol p1 hi1) hZ (hw _ (List.mem_of_getElem? (i := 3) rfl)) (hw _ (List.mem_of_getElem? (i := 2) rfl)) (by decide) (by decide)) (g := (mkF m 6 #[.val (.int p0), .val (.int p1), .val (.ref (ad 2)), .unset, .unset, .unset, .unset] [(.int p1)])) rfl (by rw [hml]; rfl) (argsL := [(.int p1)]) (rest := []) (lenOf pd_1 rfl) rfl (by show 2 * 0 + _ ≤ _; exact Nat.le_of_eq rfl) (hb hby at_6) (fun _ _ => ⟨rfl, e1, (by decide : 0 + 0 ≤ _), (by decide : 0 + 0 ≤ _)⟩)
  dsimp only [Pt.U, Pt.locs, Pt.cells, Pt.slots] at X2 l2 y2 z2 st2 hQ2
  subst l2 y2 z2
  obtain ⟨rfl, Nq2, e2⟩ := hQ2
  have N2 := Fr.app N1 Nq2
  obtain ⟨cq3, kq3, qa3, qb3, qc3⟩ := isOf hZ e2 ((ft_2 NF).ext Ol.2)
  obtain ⟨_, _, ⟨T3, L3, k3, n3⟩, -, X3, ⟨Lc3, hQ3, l3, y3, z3⟩, st3⟩ := X2.virtualBack hx (y := (⟨"com/example/gembok/gembok/LockKind", "waitsFor", "(Lcom/example/gembok/gembok/LockKind;)Z"⟩ : MethodName)) (z := (⟨"com/example/gembok/gembok/LockKind", "waitsFor", "(Lcom/example/gembok/gembok/LockKind;)Z"⟩ : MethodName)) hown (mvT hZ (hw _ (List.mem_of_getElem? (i := 8) rfl))) (mvT hZ (hw _ (List.mem_of_getElem? (i := 9) rfl))) (notFace_of_selects (args := #[]) (mvT hZ (hw _ (List.mem_of_getElem? (i := 11) rfl)))) (mvT hZ (hw _ (List.mem_of_getElem? (i := 11) rfl))) (mvT hZ (hw _ (List.mem_of_getElem? (i := 10) rfl))) (by decide) (backOf (W := 0) (rm2_ad2_ad0 l Z a0 hw [] ad NF h0 n0 Ol) hZ (hw _ (List.mem_of_getElem? (i := 12) rfl)) (hw _ (List.mem_of_getElem? (i := 6) rfl)) (by decide) (by decide)) qa3 qc3 (g := (mkF m 12 #[.val (.int p0), .val (.int p1), .val (.ref (ad 2)), .val (.ref (ad 0)), .unset, .unset, .unset] [(.ref (ad 0)), (.ref (ad 2))])) rfl (by rw [hml]; rfl) (Steps.refl _) (argsL := [(.ref (ad 0))]) (rest := []) (lenOf pd_3 rfl) rfl (by show 2 * 0 + _ ≤ _; exact Nat.le_of_eq rfl) (hb hby at_12) (fun _ _ => ⟨rfl, e2, (by decide : 0 + 0 ≤ _), (by decide : 0 + 0 ≤ _)⟩)
  dsimp only [Pt.U, Pt.locs, Pt.cells, Pt.slots] at X3 l3 y3 z3 st3 hQ3
  subst l3 y3 z3
  obtain ⟨rfl, Nq3, e3⟩ := hQ3
  have N3 := Fr.app N2 Nq3
  obtain ⟨cq4, kq4, qa4, qb4, qc4⟩ := isOf hZ e3 ((ft_0 NF).ext Ol.2)
  obtain ⟨_, _, ⟨T4, L4, k4, n4⟩, -, X4, ⟨Lc4, hQ4, l4, y4, z4⟩, st4⟩ := X3.virtualBack hx (y := (⟨"com/example/gembok/gembok/LockKind", "waitsFor", "(Lcom/example/gembok/gembok/LockKind;)Z"⟩ : MethodName)) (z := (⟨"com/example/gembok/gembok/LockKind", "waitsFor", "(Lcom/example/gembok/gembok/LockKind;)Z"⟩ : MethodName)) hown (mvT hZ (hw _ (List.mem_of_getElem? (i := 8) rfl))) (mvT hZ (hw _ (List.mem_of_getElem? (i := 9) rfl))) (notFace_of_selects (args := #[]) (mvT hZ (hw _ (List.mem_of_getElem? (i := 11) rfl)))) (mvT hZ (hw _ (List.mem_of_getElem? (i := 11) rfl))) (mvT hZ (hw _ (List.mem_of_getElem? (i := 10) rfl))) (by decide) (backOf (W := 0) (rm2_ad0_ad2 l Z a0 hw [] ad NF h0 n0 Ol) hZ (hw _ (List.mem_of_getElem? (i := 12) rfl)) (hw _ (List.mem_of_getElem? (i := 6) rfl)) (by decide) (by decide)) qa4 qc4 (g := (mkF m 19 #[.val (.int p0), .val (.int p1), .val (.ref (ad 2)), .val (.ref (ad 0)), .val (.int (0 : Int32)), .unset, .unset] [(.ref (ad 2)), (.ref (ad 0))])) rfl (by rw [hml]; rfl) (Steps.refl _) (argsL := [(.ref (ad 2))]) (rest := []) (lenOf pd_3 rfl) rfl (by show 2 * 0 + _ ≤ _; exact Nat.le_of_eq rfl) (hb hby at_19) (fun _ _ => ⟨rfl, e3, (by decide : 0 + 0 ≤ _), (by decide : 0 + 0 ≤ _)⟩)
  dsimp only [Pt.U, Pt.locs, Pt.cells, Pt.slots] at X4 l4 y4 z4 st4 hQ4
  subst l4 y4 z4
  obtain ⟨rfl, Nq4, e4⟩ := hQ4
  have N4 := Fr.app N3 Nq4
  obtain ⟨T5, X5, e5, st5⟩ := getS2 X4 hx hZ hown (host := "") (Or.inl (hw _ (List.mem_of_getElem? (i := 5) rfl))) Via.refl e4 ((ft_3 NF).ext Ol.2) (g := (mkF m 47 #[.val (.int p0), .val (.int p1), .val (.ref (ad 2)), .val (.ref (ad 0)), .val (.int (0 : Int32)), .val (.int (0 : Int32)), .unset] [(.ref (ad 2))])) rfl (hb hby at_47)
  obtain ⟨T6, X6, e6, st6⟩ := getS2 X5 hx hZ hown (host := "") (Or.inl (hw _ (List.mem_of_getElem? (i := 5) rfl))) Via.refl e5 ((ft_3 NF).ext Ol.2) (g := (mkF m 54 #[.val (.int p0), .val (.int p1), .val (.ref (ad 2)), .val (.ref (ad 0)), .val (.int (0 : Int32)), .val (.int (0 : Int32)), .unset] [(.ref (ad 0))])) rfl (hb hby at_54)
  obtain ⟨fs, hr, hrun, hended, hW, hsame⟩ := X6.leave (v := some (.int (1 : Int32))) (fun h => by rw [Bd.returns] at h; cases h)
  refine ⟨_, _, pre0 _ ?_, hrun, hended, _, _, rfl, ?_, ⟨_, rfl⟩, hW, hsame.mono (by decide) (by decide)⟩
  · show Steps p.tables e below (s₁.setTop (mkF m 0 #[.val (.int p0), .val (.int p1), .unset, .unset, .unset, .unset, .unset] [])) _
    refine XS.iloadN X0.here hx rfl (hb hby at_0) rfl ?_
    show Steps p.tables e below (s₁.setTop (mkF m 1 #[.val (.int p0), .val (.int p1), .unset, .unset, .unset, .unset, .unset] [(.int p0)])) _
    refine st1 _ ?_
    show Steps p.tables e below (T1.setTop (mkF m 4 #[.val (.int p0), .val (.int p1), .unset, .unset, .unset, .unset, .unset] [(.ref (ad 2))])) _
    refine XS.astoreN X1.here hx rfl (hb hby at_4) rfl rfl (l' := #[.val (.int p0), .val (.int p1), .val (.ref (ad 2)), .unset, .unset, .unset, .unset]) rfl ?_
    show Steps p.tables e below (T1.setTop (mkF m 5 #[.val (.int p0), .val (.int p1), .val (.ref (ad 2)), .unset, .unset, .unset, .unset] [])) _
    refine XS.iloadN X1.here hx rfl (hb hby at_5) rfl ?_
    show Steps p.tables e below (T1.setTop (mkF m 6 #[.val (.int p0), .val (.int p1), .val (.ref (ad 2)), .unset, .unset, .unset, .unset] [(.int p1)])) _
    refine st2 _ ?_
    show Steps p.tables e below (T2.setTop (mkF m 9 #[.val (.int p0), .val (.int p1), .val (.ref (ad 2)), .unset, .unset, .unset, .unset] [(.ref (ad 0))])) _
    refine XS.astoreN X2.here hx rfl (hb hby at_9) rfl rfl (l' := #[.val (.int p0), .val (.int p1), .val (.ref (ad 2)), .val (.ref (ad 0)), .unset, .unset, .unset]) rfl ?_
    show Steps p.tables e below (T2.setTop (mkF m 10 #[.val (.int p0), .val (.int p1), .val (.ref (ad 2)), .val (.ref (ad 0)), .unset, .unset, .unset] [])) _
    refine XS.aloadN X2.here hx rfl (hb hby at_10) rfl rfl ?_
    show Steps p.tables e below (T2.setTop (mkF m 11 #[.val (.int p0), .val (.int p1), .val (.ref (ad 2)), .val (.ref (ad 0)), .unset, .unset, .unset] [(.ref (ad 2))])) _
    refine XS.aloadN X2.here hx rfl (hb hby at_11) rfl rfl ?_
    show Steps p.tables e below (T2.setTop (mkF m 12 #[.val (.int p0), .val (.int p1), .val (.ref (ad 2)), .val (.ref (ad 0)), .unset, .unset, .unset] [(.ref (ad 0)), (.ref (ad 2))])) _
    refine st3.trans ?_
    show Steps p.tables e below (T3.setTop (mkF m 15 #[.val (.int p0), .val (.int p1), .val (.ref (ad 2)), .val (.ref (ad 0)), .unset, .unset, .unset] [(.int (0 : Int32))])) _
    refine XS.istore X3.here hx rfl (hb hby at_15) rfl (l' := #[.val (.int p0), .val (.int p1), .val (.ref (ad 2)), .val (.ref (ad 0)), .val (.int (0 : Int32)), .unset, .unset]) rfl ?_
    show Steps p.tables e below (T3.setTop (mkF m 17 #[.val (.int p0), .val (.int p1), .val (.ref (ad 2)), .val (.ref (ad 0)), .val (.int (0 : Int32)), .unset, .unset] [])) _
    refine XS.aloadN X3.here hx rfl (hb hby at_17) rfl rfl ?_
    show Steps p.tables e below (T3.setTop (mkF m 18 #[.val (.int p0), .val (.int p1), .val (.ref (ad 2)), .val (.ref (ad 0)), .val (.int (0 : Int32)), .unset, .unset] [(.ref (ad 0))])) _
    refine XS.aloadN X3.here hx rfl (hb hby at_18) rfl rfl ?_
    show Steps p.tables e below (T3.setTop (mkF m 19 #[.val (.int p0), .val (.int p1), .val (.ref (ad 2)), .val (.ref (ad 0)), .val (.int (0 : Int32)), .unset, .unset] [(.ref (ad 2)), (.ref (ad 0))])) _
    refine st4.trans ?_
    show Steps p.tables e below (T4.setTop (mkF m 22 #[.val (.int p0), .val (.int p1), .val (.ref (ad 2)), .val (.ref (ad 0)), .val (.int (0 : Int32)), .unset, .unset] [(.int (0 : Int32))])) _
    refine XS.istore X4.here hx rfl (hb hby at_22) rfl (l' := #[.val (.int p0), .val (.int p1), .val (.ref (ad 2)), .val (.ref (ad 0)), .val (.int (0 : Int32)), .val (.int (0 : Int32)), .unset]) rfl ?_
    show Steps p.tables e below (T4.setTop (mkF m 24 #[.val (.int p0), .val (.int p1), .val (.ref (ad 2)), .val (.ref (ad 0)), .val (.int (0 : Int32)), .val (.int (0 : Int32)), .unset] [])) _
    refine XS.aloadN X4.here hx rfl (hb hby at_24) rfl rfl ?_
    show Steps p.tables e below (T4.setTop (mkF m 25 #[.val (.int p0), .val (.int p1), .val (.ref (ad 2)), .val (.ref (ad 0)), .val (.int (0 : Int32)), .val (.int (0 : Int32)), .unset] [(.ref (ad 2))])) _
    refine XS.aloadN X4.here hx rfl (hb hby at_25) rfl rfl ?_
    show Steps p.tables e below (T4.setTop (mkF m 26 #[.val (.int p0), .val (.int p1), .val (.ref (ad 2)), .val (.ref (ad 0)), .val (.int (0 : Int32)), .val (.int (0 : Int32)), .unset] [(.ref (ad 0)), (.ref (ad 2))])) _
    refine acmp X4 hx rfl (x := (.ref (ad 2))) (y := (.ref (ad 0))) rfl rfl (pc0 := 26) (pc' := 46) (same := false) rfl (hb hby at_26) rfl (decide_eq_false (fun h => (Fld.ne (ft_8 NF) (ft_6 NF) (by decide)) (Value.ref.inj h))) (by decide) (by decide) ?_
    show Steps p.tables e below (T4.setTop (mkF m 46 #[.val (.int p0), .val (.int p1), .val (.ref (ad 2)), .val (.ref (ad 0)), .val (.int (0 : Int32)), .val (.int (0 : Int32)), .unset] [])) _
    refine XS.aloadN X4.here hx rfl (hb hby at_46) rfl rfl ?_
    show Steps p.tables e below (T4.setTop (mkF m 47 #[.val (.int p0), .val (.int p1), .val (.ref (ad 2)), .val (.ref (ad 0)), .val (.int (0 : Int32)), .val (.int (0 : Int32)), .unset] [(.ref (ad 2))])) _
    refine st5 _ ?_
    show Steps p.tables e below (T5.setTop (mkF m 50 #[.val (.int p0), .val (.int p1), .val (.ref (ad 2)), .val (.ref (ad 0)), .val (.int (0 : Int32)), .val (.int (0 : Int32)), .unset] [(.ref (ad 0)), (.ref (ad 2))])) _
    refine acmp X5 hx rfl (x := (.ref (ad 2))) (y := (.ref (ad 0))) rfl rfl (pc0 := 50) (pc' := 53) (same := false) rfl (hb hby at_50) rfl (decide_eq_false (fun h => (Fld.ne (ft_8 NF) (ft_6 NF) (by decide)) (Value.ref.inj h))) (by decide) (by decide) ?_
    show Steps p.tables e below (T5.setTop (mkF m 53 #[.val (.int p0), .val (.int p1), .val (.ref (ad 2)), .val (.ref (ad 0)), .val (.int (0 : Int32)), .val (.int (0 : Int32)), .unset] [])) _
    refine XS.aloadN X5.here hx rfl (hb hby at_53) rfl rfl ?_
    show Steps p.tables e below (T5.setTop (mkF m 54 #[.val (.int p0), .val (.int p1), .val (.ref (ad 2)), .val (.ref (ad 0)), .val (.int (0 : Int32)), .val (.int (0 : Int32)), .unset] [(.ref (ad 0))])) _
    refine st6 _ ?_
    show Steps p.tables e below (T6.setTop (mkF m 57 #[.val (.int p0), .val (.int p1), .val (.ref (ad 2)), .val (.ref (ad 0)), .val (.int (0 : Int32)), .val (.int (0 : Int32)), .unset] [(.ref (ad 0)), (.ref (ad 0))])) _
    refine acmp X6 hx rfl (x := (.ref (ad 0))) (y := (.ref (ad 0))) rfl rfl (pc0 := 57) (pc' := 64) (same := true) rfl (hb hby at_57) rfl (decide_eq_true rfl) (by decide) (by decide) ?_
    show Steps p.tables e below (T6.setTop (mkF m 64 #[.val (.int p0), .val (.int p1), .val (.ref (ad 2)), .val (.ref (ad 0)), .val (.int (0 : Int32)), .val (.int (0 : Int32)), .unset] [])) _
    refine XS.iconst X6.here hx rfl (hb hby at_64) ?_
    show Steps p.tables e below (T6.setTop (mkF m 65 #[.val (.int p0), .val (.int p1), .val (.ref (ad 2)), .val (.ref (ad 0)), .val (.int (0 : Int32)), .val (.int (0 : Int32)), .unset] [(.int (0 : Int32))])) _
    refine XS.istore X6.here hx rfl (hb hby at_65) rfl (l' := #[.val (.int p0), .val (.int p1), .val (.ref (ad 2)), .val (.ref (ad 0)), .val (.int (0 : Int32)), .val (.int (0 : Int32)), .val (.int (0 : Int32))]) rfl ?_
    show Steps p.tables e below (T6.setTop (mkF m 67 #[.val (.int p0), .val (.int p1), .val (.ref (ad 2)), .val (.ref (ad 0)), .val (.int (0 : Int32)), .val (.int (0 : Int32)), .val (.int (0 : Int32))] [])) _
    refine XS.iload X6.here hx rfl (hb hby at_67) rfl ?_
    show Steps p.tables e below (T6.setTop (mkF m 69 #[.val (.int p0), .val (.int p1), .val (.ref (ad 2)), .val (.ref (ad 0)), .val (.int (0 : Int32)), .val (.int (0 : Int32)), .val (.int (0 : Int32))] [(.int (0 : Int32))])) _
    refine XS.iload X6.here hx rfl (hb hby at_69) rfl ?_
    show Steps p.tables e below (T6.setTop (mkF m 71 #[.val (.int p0), .val (.int p1), .val (.ref (ad 2)), .val (.ref (ad 0)), .val (.int (0 : Int32)), .val (.int (0 : Int32)), .val (.int (0 : Int32))] [(.int (0 : Int32)), (.int (0 : Int32))])) _
    refine XS.icmpNo X6.here hx rfl (hb hby at_71) rfl (teq (by decide)).2 ?_
    show Steps p.tables e below (T6.setTop (mkF m 74 #[.val (.int p0), .val (.int p1), .val (.ref (ad 2)), .val (.ref (ad 0)), .val (.int (0 : Int32)), .val (.int (0 : Int32)), .val (.int (0 : Int32))] [])) _
    refine XS.iload X6.here hx rfl (hb hby at_74) rfl ?_
    show Steps p.tables e below (T6.setTop (mkF m 76 #[.val (.int p0), .val (.int p1), .val (.ref (ad 2)), .val (.ref (ad 0)), .val (.int (0 : Int32)), .val (.int (0 : Int32)), .val (.int (0 : Int32))] [(.int (0 : Int32))])) _
    refine XS.iload X6.here hx rfl (hb hby at_76) rfl ?_
    show Steps p.tables e below (T6.setTop (mkF m 78 #[.val (.int p0), .val (.int p1), .val (.ref (ad 2)), .val (.ref (ad 0)), .val (.int (0 : Int32)), .val (.int (0 : Int32)), .val (.int (0 : Int32))] [(.int (0 : Int32)), (.int (0 : Int32))])) _
    refine XS.icmpNo X6.here hx rfl (hb hby at_78) rfl (teq (by decide)).2 ?_
    show Steps p.tables e below (T6.setTop (mkF m 81 #[.val (.int p0), .val (.int p1), .val (.ref (ad 2)), .val (.ref (ad 0)), .val (.int (0 : Int32)), .val (.int (0 : Int32)), .val (.int (0 : Int32))] [])) _
    refine XS.iconst X6.here hx rfl (hb hby at_81) ?_
    show Steps p.tables e below (T6.setTop (mkF m 82 #[.val (.int p0), .val (.int p1), .val (.ref (ad 2)), .val (.ref (ad 0)), .val (.int (0 : Int32)), .val (.int (0 : Int32)), .val (.int (0 : Int32))] [(.int (1 : Int32))])) _
    refine XS.goto X6.here hx rfl (pc0 := 82) (pc' := 86) rfl (hb hby at_82) (by decide) (by decide) ?_
    show Steps p.tables e below (T6.setTop (mkF m 86 #[.val (.int p0), .val (.int p1), .val (.ref (ad 2)), .val (.ref (ad 0)), .val (.int (0 : Int32)), .val (.int (0 : Int32)), .val (.int (0 : Int32))] [(.int (1 : Int32))])) _
    exact retN X6 hx (t := .boolean) Bd.returns (by simp) (hb hby at_86) hr
  · exact ⟨rfl, N4⟩
set_option maxRecDepth 65536 in
set_option maxHeartbeats 40000000 in
theorem rm0_2_1 (l : Launch) (Z : State) (a0 : Array Value) (hw : ∀ d ∈ tables_1, d.before a0 Z = true) (ws : List Jvm.Cond) (ad : Nat → Addr) (NF : Facts Z ad) (h0 : Heap) (n0 : Nat) (Ol : Old Z n0 h0) (p0 p1 : Int32) (hi0 : (p0 &&& (2147483647 : Int32)) % (3 : Int32) = (2 : Int32)) (hi1 : (p1 &&& (2147483647 : Int32)) % (3 : Int32) = (1 : Int32)) :
    MetFree l x (head1 (Jvm.Cond.code x code maxLocals ret :: ws) room_1) (fun a U => a = #[(.int p0), (.int p1)] ∧ Z.Warmed39 U.vm ∧ U.heap = h0) (fun _ _ _ _ _ => True) (fun _ U o U' => ∃ v L, o = .returned v ∧ QL n0 v U'.heap L ∧ FrameEnd U o U' L room_1.cells room_1.slots) := by
  refine MetFree.of_bodySF (plainFor_of_name pn_1) hisR ?_
  intro p e s m args below meth c s₁ Bd hml0 hP hK
  obtain ⟨rfl, hZ, hh⟩ := hP
  have hx := Bd.exec
  have hby := Bd.bytes
  have hml : c.maxLocals = 7 := hml0
  have hown : s.vm.findClass "com/example/gembok/gembok/LockKindWaitsForPinLaw" = some m.cls := findClass_of_methodNamed Bd.named
  have X0 : Stand p l e room_1 s m #[(.int p0), (.int p1)] below meth c s₁ [] 0 0 := Stand.of_body Bd
  have e0 : s₁.heap = h0 := by rw [← hh, Bd.state]; rfl
  have N0 := Fr.nil n0
  have pre0 : ∀ t, Steps p.tables e below (s₁.setTop (mkF m 0 #[.val (.int p0), .val (.int p1), .unset, .unset, .unset, .unset, .unset] [])) t → Steps p.tables e below (s₁.setTop (entryFrame m #[(.int p0), (.int p1)] maxLocals)) t := fun t k => castTop (ef_0_II m (p0) (p1)) k
  obtain ⟨_, _, ⟨T1, L1, k1, n1⟩, -, X1, ⟨Lc1, hQ1, l1, y1, z1⟩, st1⟩ := Jvm.LawKit.callS X0 hx (y := (⟨"com/example/gembok/gembok/LockKindWaitsForPinLaw", "kind", "(I)Lcom/example/gembok/gembok/LockKind;"⟩ : MethodName)) hown (mvT hZ (hw _ (List.mem_of_getElem? (i := 0) rfl))) (mvT hZ (hw _ (List.mem_of_getElem? (i := 1) rfl))) (mvT hZ (hw _ (List.mem_of_getElem? (i := 2) rfl))) (mvT hZ (hw _ (List.mem_of_getElem? (i := 3) rfl))) (by decide) (backOf (W := 0) (rmk_2 l Z a0 hw [] ad NF h0 n0 Ol p0 hi0) hZ (hw _ (List.mem_of_getElem? (i := 3) rfl)) (hw _ (List.mem_of_getElem? (i := 2) rfl)) (by decide) (by decide)) (g := (mkF m 1 #[.val (.int p0), .val (.int p1), .unset, .unset, .unset, .unset, .unset] [(.int p0)])) rfl (by rw [hml]; rfl) (argsL := [(.int p0)]) (rest := []) (lenOf pd_1 rfl) rfl (by show 2 * 0 + _ ≤ _; exact Nat.le_of_eq rfl) (hb hby at_1) (fun _ _ => ⟨rfl, e0, (by decide : 0 + 0 ≤ _), (by decide : 0 + 0 ≤ _)⟩)
  dsimp only [Pt.U, Pt.locs, Pt.cells, Pt.slots] at X1 l1 y1 z1 st1 hQ1
  subst l1 y1 z1
  obtain ⟨rfl, Nq1, e1⟩ := hQ1
  have N1 := Fr.app N0 Nq1
  obtain ⟨_, _, ⟨T2, L2, k2, n2⟩, -, X2, ⟨Lc2, hQ2, l2, y2, z2⟩, st2⟩ := Jvm.LawKit.callS X1 hx (y := (⟨"com/example/gembok/gembok/LockKindWaitsForPinLaw", "kind", "(I)Lcom/example/gembok/gembok/LockKind;"⟩ : MethodName)) hown (mvT hZ (hw _ (List.mem_of_getElem? (i := 0) rfl))) (mvT hZ (hw _ (List.mem_of_getElem? (i := 1) rfl))) (mvT hZ (hw _ (List.mem_of_getElem? (i := 2) rfl))) (mvT hZ (hw _ (List.mem_of_getElem? (i := 3) rfl))) (by decide) (backOf (W := 0) (rmk_1 l Z a0 hw [] ad NF h0 n0 Ol p1 hi1) hZ (hw _ (List.mem_of_getElem? (i := 3) rfl)) (hw _ (List.mem_of_getElem? (i := 2) rfl)) (by decide) (by decide)) (g := (mkF m 6 #[.val (.int p0), .val (.int p1), .val (.ref (ad 2)), .unset, .unset, .unset, .unset] [(.int p1)])) rfl (by rw [hml]; rfl) (argsL := [(.int p1)]) (rest := []) (lenOf pd_1 rfl) rfl (by show 2 * 0 + _ ≤ _; exact Nat.le_of_eq rfl) (hb hby at_6) (fun _ _ => ⟨rfl, e1, (by decide : 0 + 0 ≤ _), (by decide : 0 + 0 ≤ _)⟩)
  dsimp only [Pt.U, Pt.locs, Pt.cells, Pt.slots] at X2 l2 y2 z2 st2 hQ2
  subst l2 y2 z2
  obtain ⟨rfl, Nq2, e2⟩ := hQ2
  have N2 := Fr.app N1 Nq2
  obtain ⟨cq3, kq3, qa3, qb3, qc3⟩ := isOf hZ e2 ((ft_2 NF).ext Ol.2)
  obtain ⟨_, _, ⟨T3, L3, k3, n3⟩, -, X3, ⟨Lc3, hQ3, l3, y3, z3⟩, st3⟩ := X2.virtualBack hx (y := (⟨"com/example/gembok/gembok/LockKind", "waitsFor", "(Lcom/example/gembok/gembok/LockKind;)Z"⟩ : MethodName)) (z := (⟨"com/example/gembok/gembok/LockKind", "waitsFor", "(Lcom/example/gembok/gembok/LockKind;)Z"⟩ : MethodName)) hown (mvT hZ (hw _ (List.mem_of_getElem? (i := 8) rfl))) (mvT hZ (hw _ (List.mem_of_getElem? (i := 9) rfl))) (notFace_of_selects (args := #[]) (mvT hZ (hw _ (List.mem_of_getElem? (i := 11) rfl)))) (mvT hZ (hw _ (List.mem_of_getElem? (i := 11) rfl))) (mvT hZ (hw _ (List.mem_of_getElem? (i := 10) rfl))) (by decide) (backOf (W := 0) (rm2_ad2_ad1 l Z a0 hw [] ad NF h0 n0 Ol) hZ (hw _ (List.mem_of_getElem? (i := 12) rfl)) (hw _ (List.mem_of_getElem? (i := 6) rfl)) (by decide) (by decide)) qa3 qc3 (g := (mkF m 12 #[.val (.int p0), .val (.int p1), .val (.ref (ad 2)), .val (.ref (ad 1)), .unset, .unset, .unset] [(.ref (ad 1)), (.ref (ad 2))])) rfl (by rw [hml]; rfl) (Steps.refl _) (argsL := [(.ref (ad 1))]) (rest := []) (lenOf pd_3 rfl) rfl (by show 2 * 0 + _ ≤ _; exact Nat.le_of_eq rfl) (hb hby at_12) (fun _ _ => ⟨rfl, e2, (by decide : 0 + 0 ≤ _), (by decide : 0 + 0 ≤ _)⟩)
  dsimp only [Pt.U, Pt.locs, Pt.cells, Pt.slots] at X3 l3 y3 z3 st3 hQ3
  subst l3 y3 z3
  obtain ⟨rfl, Nq3, e3⟩ := hQ3
  have N3 := Fr.app N2 Nq3
  obtain ⟨cq4, kq4, qa4, qb4, qc4⟩ := isOf hZ e3 ((ft_1 NF).ext Ol.2)
  obtain ⟨_, _, ⟨T4, L4, k4, n4⟩, -, X4, ⟨Lc4, hQ4, l4, y4, z4⟩, st4⟩ := X3.virtualBack hx (y := (⟨"com/example/gembok/gembok/LockKind", "waitsFor", "(Lcom/example/gembok/gembok/LockKind;)Z"⟩ : MethodName)) (z := (⟨"com/example/gembok/gembok/LockKind", "waitsFor", "(Lcom/example/gembok/gembok/LockKind;)Z"⟩ : MethodName)) hown (mvT hZ (hw _ (List.mem_of_getElem? (i := 8) rfl))) (mvT hZ (hw _ (List.mem_of_getElem? (i := 9) rfl))) (notFace_of_selects (args := #[]) (mvT hZ (hw _ (List.mem_of_getElem? (i := 11) rfl)))) (mvT hZ (hw _ (List.mem_of_getElem? (i := 11) rfl))) (mvT hZ (hw _ (List.mem_of_getElem? (i := 10) rfl))) (by decide) (backOf (W := 0) (rm2_ad1_ad2 l Z a0 hw [] ad NF h0 n0 Ol) hZ (hw _ (List.mem_of_getElem? (i := 12) rfl)) (hw _ (List.mem_of_getElem? (i := 6) rfl)) (by decide) (by decide)) qa4 qc4 (g := (mkF m 19 #[.val (.int p0), .val (.int p1), .val (.ref (ad 2)), .val (.ref (ad 1)), .val (.int (1 : Int32)), .unset, .unset] [(.ref (ad 2)), (.ref (ad 1))])) rfl (by rw [hml]; rfl) (Steps.refl _) (argsL := [(.ref (ad 2))]) (rest := []) (lenOf pd_3 rfl) rfl (by show 2 * 0 + _ ≤ _; exact Nat.le_of_eq rfl) (hb hby at_19) (fun _ _ => ⟨rfl, e3, (by decide : 0 + 0 ≤ _), (by decide : 0 + 0 ≤ _)⟩)
  dsimp only [Pt.U, Pt.locs, Pt.cells, Pt.slots] at X4 l4 y4 z4 st4 hQ4
  subst l4 y4 z4
  obtain ⟨rfl, Nq4, e4⟩ := hQ4
  have N4 := Fr.app N3 Nq4
  obtain ⟨T5, X5, e5, st5⟩ := getS2 X4 hx hZ hown (host := "") (Or.inl (hw _ (List.mem_of_getElem? (i := 5) rfl))) Via.refl e4 ((ft_3 NF).ext Ol.2) (g := (mkF m 47 #[.val (.int p0), .val (.int p1), .val (.ref (ad 2)), .val (.ref (ad 1)), .val (.int (1 : Int32)), .val (.int (1 : Int32)), .unset] [(.ref (ad 2))])) rfl (hb hby at_47)
  obtain ⟨T6, X6, e6, st6⟩ := getS2 X5 hx hZ hown (host := "") (Or.inl (hw _ (List.mem_of_getElem? (i := 5) rfl))) Via.refl e5 ((ft_3 NF).ext Ol.2) (g := (mkF m 54 #[.val (.int p0), .val (.int p1), .val (.ref (ad 2)), .val (.ref (ad 1)), .val (.int (1 : Int32)), .val (.int (1 : Int32)), .unset] [(.ref (ad 1))])) rfl (hb hby at_54)
  obtain ⟨fs, hr, hrun, hended, hW, hsame⟩ := X6.leave (v := some (.int (1 : Int32))) (fun h => by rw [Bd.returns] at h; cases h)
  refine ⟨_, _, pre0 _ ?_, hrun, hended, _, _, rfl, ?_, ⟨_, rfl⟩, hW, hsame.mono (by decide) (by decide)⟩
  · show Steps p.tables e below (s₁.setTop (mkF m 0 #[.val (.int p0), .val (.int p1), .unset, .unset, .unset, .unset, .unset] [])) _
    refine XS.iloadN X0.here hx rfl (hb hby at_0) rfl ?_
    show Steps p.tables e below (s₁.setTop (mkF m 1 #[.val (.int p0), .val (.int p1), .unset, .unset, .unset, .unset, .unset] [(.int p0)])) _
    refine st1 _ ?_
    show Steps p.tables e below (T1.setTop (mkF m 4 #[.val (.int p0), .val (.int p1), .unset, .unset, .unset, .unset, .unset] [(.ref (ad 2))])) _
    refine XS.astoreN X1.here hx rfl (hb hby at_4) rfl rfl (l' := #[.val (.int p0), .val (.int p1), .val (.ref (ad 2)), .unset, .unset, .unset, .unset]) rfl ?_
    show Steps p.tables e below (T1.setTop (mkF m 5 #[.val (.int p0), .val (.int p1), .val (.ref (ad 2)), .unset, .unset, .unset, .unset] [])) _
    refine XS.iloadN X1.here hx rfl (hb hby at_5) rfl ?_
    show Steps p.tables e below (T1.setTop (mkF m 6 #[.val (.int p0), .val (.int p1), .val (.ref (ad 2)), .unset, .unset, .unset, .unset] [(.int p1)])) _
    refine st2 _ ?_
    show Steps p.tables e below (T2.setTop (mkF m 9 #[.val (.int p0), .val (.int p1), .val (.ref (ad 2)), .unset, .unset, .unset, .unset] [(.ref (ad 1))])) _
    refine XS.astoreN X2.here hx rfl (hb hby at_9) rfl rfl (l' := #[.val (.int p0), .val (.int p1), .val (.ref (ad 2)), .val (.ref (ad 1)), .unset, .unset, .unset]) rfl ?_
    show Steps p.tables e below (T2.setTop (mkF m 10 #[.val (.int p0), .val (.int p1), .val (.ref (ad 2)), .val (.ref (ad 1)), .unset, .unset, .unset] [])) _
    refine XS.aloadN X2.here hx rfl (hb hby at_10) rfl rfl ?_
    show Steps p.tables e below (T2.setTop (mkF m 11 #[.val (.int p0), .val (.int p1), .val (.ref (ad 2)), .val (.ref (ad 1)), .unset, .unset, .unset] [(.ref (ad 2))])) _
    refine XS.aloadN X2.here hx rfl (hb hby at_11) rfl rfl ?_
    show Steps p.tables e below (T2.setTop (mkF m 12 #[.val (.int p0), .val (.int p1), .val (.ref (ad 2)), .val (.ref (ad 1)), .unset, .unset, .unset] [(.ref (ad 1)), (.ref (ad 2))])) _
    refine st3.trans ?_
    show Steps p.tables e below (T3.setTop (mkF m 15 #[.val (.int p0), .val (.int p1), .val (.ref (ad 2)), .val (.ref (ad 1)), .unset, .unset, .unset] [(.int (1 : Int32))])) _
    refine XS.istore X3.here hx rfl (hb hby at_15) rfl (l' := #[.val (.int p0), .val (.int p1), .val (.ref (ad 2)), .val (.ref (ad 1)), .val (.int (1 : Int32)), .unset, .unset]) rfl ?_
    show Steps p.tables e below (T3.setTop (mkF m 17 #[.val (.int p0), .val (.int p1), .val (.ref (ad 2)), .val (.ref (ad 1)), .val (.int (1 : Int32)), .unset, .unset] [])) _
    refine XS.aloadN X3.here hx rfl (hb hby at_17) rfl rfl ?_
    show Steps p.tables e below (T3.setTop (mkF m 18 #[.val (.int p0), .val (.int p1), .val (.ref (ad 2)), .val (.ref (ad 1)), .val (.int (1 : Int32)), .unset, .unset] [(.ref (ad 1))])) _
    refine XS.aloadN X3.here hx rfl (hb hby at_18) rfl rfl ?_
    show Steps p.tables e below (T3.setTop (mkF m 19 #[.val (.int p0), .val (.int p1), .val (.ref (ad 2)), .val (.ref (ad 1)), .val (.int (1 : Int32)), .unset, .unset] [(.ref (ad 2)), (.ref (ad 1))])) _
    refine st4.trans ?_
    show Steps p.tables e below (T4.setTop (mkF m 22 #[.val (.int p0), .val (.int p1), .val (.ref (ad 2)), .val (.ref (ad 1)), .val (.int (1 : Int32)), .unset, .unset] [(.int (1 : Int32))])) _
    refine XS.istore X4.here hx rfl (hb hby at_22) rfl (l' := #[.val (.int p0), .val (.int p1), .val (.ref (ad 2)), .val (.ref (ad 1)), .val (.int (1 : Int32)), .val (.int (1 : Int32)), .unset]) rfl ?_
    show Steps p.tables e below (T4.setTop (mkF m 24 #[.val (.int p0), .val (.int p1), .val (.ref (ad 2)), .val (.ref (ad 1)), .val (.int (1 : Int32)), .val (.int (1 : Int32)), .unset] [])) _
    refine XS.aloadN X4.here hx rfl (hb hby at_24) rfl rfl ?_
    show Steps p.tables e below (T4.setTop (mkF m 25 #[.val (.int p0), .val (.int p1), .val (.ref (ad 2)), .val (.ref (ad 1)), .val (.int (1 : Int32)), .val (.int (1 : Int32)), .unset] [(.ref (ad 2))])) _
    refine XS.aloadN X4.here hx rfl (hb hby at_25) rfl rfl ?_
    show Steps p.tables e below (T4.setTop (mkF m 26 #[.val (.int p0), .val (.int p1), .val (.ref (ad 2)), .val (.ref (ad 1)), .val (.int (1 : Int32)), .val (.int (1 : Int32)), .unset] [(.ref (ad 1)), (.ref (ad 2))])) _
    refine acmp X4 hx rfl (x := (.ref (ad 2))) (y := (.ref (ad 1))) rfl rfl (pc0 := 26) (pc' := 46) (same := false) rfl (hb hby at_26) rfl (decide_eq_false (fun h => (Fld.ne (ft_8 NF) (ft_7 NF) (by decide)) (Value.ref.inj h))) (by decide) (by decide) ?_
    show Steps p.tables e below (T4.setTop (mkF m 46 #[.val (.int p0), .val (.int p1), .val (.ref (ad 2)), .val (.ref (ad 1)), .val (.int (1 : Int32)), .val (.int (1 : Int32)), .unset] [])) _
    refine XS.aloadN X4.here hx rfl (hb hby at_46) rfl rfl ?_
    show Steps p.tables e below (T4.setTop (mkF m 47 #[.val (.int p0), .val (.int p1), .val (.ref (ad 2)), .val (.ref (ad 1)), .val (.int (1 : Int32)), .val (.int (1 : Int32)), .unset] [(.ref (ad 2))])) _
    refine st5 _ ?_
    show Steps p.tables e below (T5.setTop (mkF m 50 #[.val (.int p0), .val (.int p1), .val (.ref (ad 2)), .val (.ref (ad 1)), .val (.int (1 : Int32)), .val (.int (1 : Int32)), .unset] [(.ref (ad 0)), (.ref (ad 2))])) _
    refine acmp X5 hx rfl (x := (.ref (ad 2))) (y := (.ref (ad 0))) rfl rfl (pc0 := 50) (pc' := 53) (same := false) rfl (hb hby at_50) rfl (decide_eq_false (fun h => (Fld.ne (ft_8 NF) (ft_6 NF) (by decide)) (Value.ref.inj h))) (by decide) (by decide) ?_
    show Steps p.tables e below (T5.setTop (mkF m 53 #[.val (.int p0), .val (.int p1), .val (.ref (ad 2)), .val (.ref (ad 1)), .val (.int (1 : Int32)), .val (.int (1 : Int32)), .unset] [])) _
    refine XS.aloadN X5.here hx rfl (hb hby at_53) rfl rfl ?_
    show Steps p.tables e below (T5.setTop (mkF m 54 #[.val (.int p0), .val (.int p1), .val (.ref (ad 2)), .val (.ref (ad 1)), .val (.int (1 : Int32)), .val (.int (1 : Int32)), .unset] [(.ref (ad 1))])) _
    refine st6 _ ?_
    show Steps p.tables e below (T6.setTop (mkF m 57 #[.val (.int p0), .val (.int p1), .val (.ref (ad 2)), .val (.ref (ad 1)), .val (.int (1 : Int32)), .val (.int (1 : Int32)), .unset] [(.ref (ad 0)), (.ref (ad 1))])) _
    refine acmp X6 hx rfl (x := (.ref (ad 1))) (y := (.ref (ad 0))) rfl rfl (pc0 := 57) (pc' := 60) (same := false) rfl (hb hby at_57) rfl (decide_eq_false (fun h => (Fld.ne (ft_7 NF) (ft_6 NF) (by decide)) (Value.ref.inj h))) (by decide) (by decide) ?_
    show Steps p.tables e below (T6.setTop (mkF m 60 #[.val (.int p0), .val (.int p1), .val (.ref (ad 2)), .val (.ref (ad 1)), .val (.int (1 : Int32)), .val (.int (1 : Int32)), .unset] [])) _
    refine XS.iconst X6.here hx rfl (hb hby at_60) ?_
    show Steps p.tables e below (T6.setTop (mkF m 61 #[.val (.int p0), .val (.int p1), .val (.ref (ad 2)), .val (.ref (ad 1)), .val (.int (1 : Int32)), .val (.int (1 : Int32)), .unset] [(.int (1 : Int32))])) _
    refine XS.goto X6.here hx rfl (pc0 := 61) (pc' := 65) rfl (hb hby at_61) (by decide) (by decide) ?_
    show Steps p.tables e below (T6.setTop (mkF m 65 #[.val (.int p0), .val (.int p1), .val (.ref (ad 2)), .val (.ref (ad 1)), .val (.int (1 : Int32)), .val (.int (1 : Int32)), .unset] [(.int (1 : Int32))])) _
    refine XS.istore X6.here hx rfl (hb hby at_65) rfl (l' := #[.val (.int p0), .val (.int p1), .val (.ref (ad 2)), .val (.ref (ad 1)), .val (.int (1 : Int32)), .val (.int (1 : Int32)), .val (.int (1 : Int32))]) rfl ?_
    show Steps p.tables e below (T6.setTop (mkF m 67 #[.val (.int p0), .val (.int p1), .val (.ref (ad 2)), .val (.ref (ad 1)), .val (.int (1 : Int32)), .val (.int (1 : Int32)), .val (.int (1 : Int32))] [])) _
    refine XS.iload X6.here hx rfl (hb hby at_67) rfl ?_
    show Steps p.tables e below (T6.setTop (mkF m 69 #[.val (.int p0), .val (.int p1), .val (.ref (ad 2)), .val (.ref (ad 1)), .val (.int (1 : Int32)), .val (.int (1 : Int32)), .val (.int (1 : Int32))] [(.int (1 : Int32))])) _
    refine XS.iload X6.here hx rfl (hb hby at_69) rfl ?_
    show Steps p.tables e below (T6.setTop (mkF m 71 #[.val (.int p0), .val (.int p1), .val (.ref (ad 2)), .val (.ref (ad 1)), .val (.int (1 : Int32)), .val (.int (1 : Int32)), .val (.int (1 : Int32))] [(.int (1 : Int32)), (.int (1 : Int32))])) _
    refine XS.icmpNo X6.here hx rfl (hb hby at_71) rfl (teq (by decide)).2 ?_
    show Steps p.tables e below (T6.setTop (mkF m 74 #[.val (.int p0), .val (.int p1), .val (.ref (ad 2)), .val (.ref (ad 1)), .val (.int (1 : Int32)), .val (.int (1 : Int32)), .val (.int (1 : Int32))] [])) _
    refine XS.iload X6.here hx rfl (hb hby at_74) rfl ?_
    show Steps p.tables e below (T6.setTop (mkF m 76 #[.val (.int p0), .val (.int p1), .val (.ref (ad 2)), .val (.ref (ad 1)), .val (.int (1 : Int32)), .val (.int (1 : Int32)), .val (.int (1 : Int32))] [(.int (1 : Int32))])) _
    refine XS.iload X6.here hx rfl (hb hby at_76) rfl ?_
    show Steps p.tables e below (T6.setTop (mkF m 78 #[.val (.int p0), .val (.int p1), .val (.ref (ad 2)), .val (.ref (ad 1)), .val (.int (1 : Int32)), .val (.int (1 : Int32)), .val (.int (1 : Int32))] [(.int (1 : Int32)), (.int (1 : Int32))])) _
    refine XS.icmpNo X6.here hx rfl (hb hby at_78) rfl (teq (by decide)).2 ?_
    show Steps p.tables e below (T6.setTop (mkF m 81 #[.val (.int p0), .val (.int p1), .val (.ref (ad 2)), .val (.ref (ad 1)), .val (.int (1 : Int32)), .val (.int (1 : Int32)), .val (.int (1 : Int32))] [])) _
    refine XS.iconst X6.here hx rfl (hb hby at_81) ?_
    show Steps p.tables e below (T6.setTop (mkF m 82 #[.val (.int p0), .val (.int p1), .val (.ref (ad 2)), .val (.ref (ad 1)), .val (.int (1 : Int32)), .val (.int (1 : Int32)), .val (.int (1 : Int32))] [(.int (1 : Int32))])) _
    refine XS.goto X6.here hx rfl (pc0 := 82) (pc' := 86) rfl (hb hby at_82) (by decide) (by decide) ?_
    show Steps p.tables e below (T6.setTop (mkF m 86 #[.val (.int p0), .val (.int p1), .val (.ref (ad 2)), .val (.ref (ad 1)), .val (.int (1 : Int32)), .val (.int (1 : Int32)), .val (.int (1 : Int32))] [(.int (1 : Int32))])) _
    exact retN X6 hx (t := .boolean) Bd.returns (by simp) (hb hby at_86) hr
  · exact ⟨rfl, N4⟩
set_option maxRecDepth 65536 in
set_option maxHeartbeats 40000000 in
theorem rm2_ad2_ad2 (l : Launch) (Z : State) (a0 : Array Value) (hw : ∀ d ∈ tables_1, d.before a0 Z = true) (ws : List Jvm.Cond) (ad : Nat → Addr) (NF : Facts Z ad) (h0 : Heap) (n0 : Nat) (Ol : Old Z n0 h0) :
    MetFree l (⟨"com/example/gembok/gembok/LockKind", "waitsFor", "(Lcom/example/gembok/gembok/LockKind;)Z"⟩ : MethodName) (head1 (Jvm.Cond.code (⟨"com/example/gembok/gembok/LockKind", "waitsFor", "(Lcom/example/gembok/gembok/LockKind;)Z"⟩ : MethodName) prog_10_method_4_code 2 (some .boolean) :: ws) ({ frames := 1, cells := 0, slots := 0, locals := 12 } : Room)) (fun a U => a = #[(.ref (ad 2)), (.ref (ad 2))] ∧ Z.Warmed39 U.vm ∧ U.heap = h0) (fun _ _ _ _ _ => True) (fun _ U o U' => ∃ v L, o = .returned v ∧ QS (.int (1 : Int32)) h0 n0 v U'.heap L ∧ FrameEnd U o U' L ({ frames := 1, cells := 0, slots := 0, locals := 12 } : Room).cells ({ frames := 1, cells := 0, slots := 0, locals := 12 } : Room).slots) := by
  refine MetFree.of_bodySF (plainFor_of_name pn_2) hisR ?_
  intro p e s m args below meth c s₁ Bd hml0 hP hK
  obtain ⟨rfl, hZ, hh⟩ := hP
  have hx := Bd.exec
  have hby := Bd.bytes
  have hml : c.maxLocals = 2 := hml0
  have hown : s.vm.findClass "com/example/gembok/gembok/LockKind" = some m.cls := findClass_of_methodNamed Bd.named
  have X0 : Stand p l e ({ frames := 1, cells := 0, slots := 0, locals := 12 } : Room) s m #[(.ref (ad 2)), (.ref (ad 2))] below meth c s₁ [] 0 0 := Stand.of_body Bd
  have e0 : s₁.heap = h0 := by rw [← hh, Bd.state]; rfl
  have N0 := Fr.nil n0
  have pre0 : ∀ t, Steps p.tables e below (s₁.setTop (mkF m 0 #[.val (.ref (ad 2)), .val (.ref (ad 2))] [])) t → Steps p.tables e below (s₁.setTop (entryFrame m #[(.ref (ad 2)), (.ref (ad 2))] 2)) t := fun t k => castTop (ef_2_RR m (ad 2) (ad 2)) k
  obtain ⟨cq1, kq1, qa1, qb1, qc1⟩ := isOf hZ e0 ((ft_2 NF).ext Ol.2)
  obtain ⟨_, _, ⟨T1, L1, k1, n1⟩, -, X1, ⟨Lc1, hQ1, l1, y1, z1⟩, st1⟩ := X0.virtualBackUp hx (owner := "java/lang/Enum") (x := (⟨"com/example/gembok/gembok/LockKind", "ordinal", "()I"⟩ : MethodName)) (y := (⟨"java/lang/Enum", "ordinal", "()I"⟩ : MethodName)) hown (mvT hZ (hw _ (List.mem_of_getElem? (i := 13) rfl))) (mvT hZ (hw _ (List.mem_of_getElem? (i := 14) rfl))) (mvT hZ (hw _ (List.mem_of_getElem? (i := 15) rfl))) (by decide) (mvT hZ (hw _ (List.mem_of_getElem? (i := 17) rfl))) (mvT hZ (hw _ (List.mem_of_getElem? (i := 16) rfl))) (backOf (W := 0) (rm3_ad2 l Z a0 hw [] ad NF h0 n0 Ol) hZ (hw _ (List.mem_of_getElem? (i := 19) rfl)) (hw _ (List.mem_of_getElem? (i := 18) rfl)) (by decide) (by decide)) qa1 qc1 (g := (mkF m 1 #[.val (.ref (ad 2)), .val (.ref (ad 2))] [(.ref (ad 2))])) rfl (by rw [hml]; rfl) (Steps.refl _) (argsL := []) (rest := []) (lenOf pd_2 rfl) rfl (by show 2 * 0 + _ ≤ _; exact Nat.le_of_eq rfl) (hb hby d2_1) (fun _ _ => ⟨rfl, e0, (by decide : 0 + 0 ≤ _), (by decide : 0 + 0 ≤ _)⟩)
  dsimp only [Pt.U, Pt.locs, Pt.cells, Pt.slots] at X1 l1 y1 z1 st1 hQ1
  subst l1 y1 z1
  obtain ⟨rfl, Nq1, e1⟩ := hQ1
  have N1 := Fr.app N0 Nq1
  obtain ⟨T2, X2, e2, st2⟩ := getS2 X1 hx hZ hown (host := "") (Or.inl (hw _ (List.mem_of_getElem? (i := 27) rfl))) Via.refl e1 ((ft_4 NF).ext Ol.2) (g := (mkF m 73 #[.val (.ref (ad 2)), .val (.ref (ad 2))] [(.ref (ad 2))])) rfl (hb hby d2_73)
  obtain ⟨T3, X3, e3, st3⟩ := getS2 X2 hx hZ hown (host := "") (Or.inl (hw _ (List.mem_of_getElem? (i := 28) rfl))) Via.refl e2 ((ft_5 NF).ext Ol.2) (g := (mkF m 80 #[.val (.ref (ad 2)), .val (.ref (ad 2))] [(.ref (ad 2))])) rfl (hb hby d2_80)
  obtain ⟨fs, hr, hrun, hended, hW, hsame⟩ := X3.leave (v := some (.int (1 : Int32))) (fun h => by rw [Bd.returns] at h; cases h)
  refine ⟨_, _, pre0 _ ?_, hrun, hended, _, _, rfl, ?_, ⟨_, rfl⟩, hW, hsame.mono (by decide) (by decide)⟩
  · show Steps p.tables e below (s₁.setTop (mkF m 0 #[.val (.ref (ad 2)), .val (.ref (ad 2))] [])) _
    refine XS.aloadN X0.here hx rfl (hb hby d2_0) rfl rfl ?_
    show Steps p.tables e below (s₁.setTop (mkF m 1 #[.val (.ref (ad 2)), .val (.ref (ad 2))] [(.ref (ad 2))])) _
    refine st1.trans ?_
    show Steps p.tables e below (T1.setTop (mkF m 4 #[.val (.ref (ad 2)), .val (.ref (ad 2))] [(.int (2 : Int32))])) _
    refine XS.tswIn X1.here hx rfl (pc0 := 4) (pc' := 72) rfl (hb hby d2_4) (i := (2 : Int32)) rfl (by decide) (o := 68) (by decide) (by decide) (by decide) ?_
    show Steps p.tables e below (T1.setTop (mkF m 72 #[.val (.ref (ad 2)), .val (.ref (ad 2))] [])) _
    refine XS.aloadN X1.here hx rfl (hb hby d2_72) rfl rfl ?_
    show Steps p.tables e below (T1.setTop (mkF m 73 #[.val (.ref (ad 2)), .val (.ref (ad 2))] [(.ref (ad 2))])) _
    refine st2 _ ?_
    show Steps p.tables e below (T2.setTop (mkF m 76 #[.val (.ref (ad 2)), .val (.ref (ad 2))] [(.ref (ad 1)), (.ref (ad 2))])) _
    refine acmp X2 hx rfl (x := (.ref (ad 2))) (y := (.ref (ad 1))) rfl rfl (pc0 := 76) (pc' := 79) (same := false) rfl (hb hby d2_76) rfl (decide_eq_false (fun h => (Fld.ne (ft_8 NF) (ft_7 NF) (by decide)) (Value.ref.inj h))) (by decide) (by decide) ?_
    show Steps p.tables e below (T2.setTop (mkF m 79 #[.val (.ref (ad 2)), .val (.ref (ad 2))] [])) _
    refine XS.aloadN X2.here hx rfl (hb hby d2_79) rfl rfl ?_
    show Steps p.tables e below (T2.setTop (mkF m 80 #[.val (.ref (ad 2)), .val (.ref (ad 2))] [(.ref (ad 2))])) _
    refine st3 _ ?_
    show Steps p.tables e below (T3.setTop (mkF m 83 #[.val (.ref (ad 2)), .val (.ref (ad 2))] [(.ref (ad 2)), (.ref (ad 2))])) _
    refine acmp X3 hx rfl (x := (.ref (ad 2))) (y := (.ref (ad 2))) rfl rfl (pc0 := 83) (pc' := 86) (same := true) rfl (hb hby d2_83) rfl (decide_eq_true rfl) (by decide) (by decide) ?_
    show Steps p.tables e below (T3.setTop (mkF m 86 #[.val (.ref (ad 2)), .val (.ref (ad 2))] [])) _
    refine XS.iconst X3.here hx rfl (hb hby d2_86) ?_
    show Steps p.tables e below (T3.setTop (mkF m 87 #[.val (.ref (ad 2)), .val (.ref (ad 2))] [(.int (1 : Int32))])) _
    refine XS.goto X3.here hx rfl (pc0 := 87) (pc' := 91) rfl (hb hby d2_87) (by decide) (by decide) ?_
    show Steps p.tables e below (T3.setTop (mkF m 91 #[.val (.ref (ad 2)), .val (.ref (ad 2))] [(.int (1 : Int32))])) _
    exact retN X3 hx (t := .boolean) Bd.returns (by simp) (hb hby d2_91) hr
  · exact ⟨rfl, N1, e3⟩
set_option maxRecDepth 65536 in
set_option maxHeartbeats 40000000 in
theorem rm0_2_2 (l : Launch) (Z : State) (a0 : Array Value) (hw : ∀ d ∈ tables_1, d.before a0 Z = true) (ws : List Jvm.Cond) (ad : Nat → Addr) (NF : Facts Z ad) (h0 : Heap) (n0 : Nat) (Ol : Old Z n0 h0) (p0 p1 : Int32) (hi0 : (p0 &&& (2147483647 : Int32)) % (3 : Int32) = (2 : Int32)) (hi1 : (p1 &&& (2147483647 : Int32)) % (3 : Int32) = (2 : Int32)) :
    MetFree l x (head1 (Jvm.Cond.code x code maxLocals ret :: ws) room_1) (fun a U => a = #[(.int p0), (.int p1)] ∧ Z.Warmed39 U.vm ∧ U.heap = h0) (fun _ _ _ _ _ => True) (fun _ U o U' => ∃ v L, o = .returned v ∧ QL n0 v U'.heap L ∧ FrameEnd U o U' L room_1.cells room_1.slots) := by
  refine MetFree.of_bodySF (plainFor_of_name pn_1) hisR ?_
  intro p e s m args below meth c s₁ Bd hml0 hP hK
  obtain ⟨rfl, hZ, hh⟩ := hP
  have hx := Bd.exec
  have hby := Bd.bytes
  have hml : c.maxLocals = 7 := hml0
  have hown : s.vm.findClass "com/example/gembok/gembok/LockKindWaitsForPinLaw" = some m.cls := findClass_of_methodNamed Bd.named
  have X0 : Stand p l e room_1 s m #[(.int p0), (.int p1)] below meth c s₁ [] 0 0 := Stand.of_body Bd
  have e0 : s₁.heap = h0 := by rw [← hh, Bd.state]; rfl
  have N0 := Fr.nil n0
  have pre0 : ∀ t, Steps p.tables e below (s₁.setTop (mkF m 0 #[.val (.int p0), .val (.int p1), .unset, .unset, .unset, .unset, .unset] [])) t → Steps p.tables e below (s₁.setTop (entryFrame m #[(.int p0), (.int p1)] maxLocals)) t := fun t k => castTop (ef_0_II m (p0) (p1)) k
  obtain ⟨_, _, ⟨T1, L1, k1, n1⟩, -, X1, ⟨Lc1, hQ1, l1, y1, z1⟩, st1⟩ := Jvm.LawKit.callS X0 hx (y := (⟨"com/example/gembok/gembok/LockKindWaitsForPinLaw", "kind", "(I)Lcom/example/gembok/gembok/LockKind;"⟩ : MethodName)) hown (mvT hZ (hw _ (List.mem_of_getElem? (i := 0) rfl))) (mvT hZ (hw _ (List.mem_of_getElem? (i := 1) rfl))) (mvT hZ (hw _ (List.mem_of_getElem? (i := 2) rfl))) (mvT hZ (hw _ (List.mem_of_getElem? (i := 3) rfl))) (by decide) (backOf (W := 0) (rmk_2 l Z a0 hw [] ad NF h0 n0 Ol p0 hi0) hZ (hw _ (List.mem_of_getElem? (i := 3) rfl)) (hw _ (List.mem_of_getElem? (i := 2) rfl)) (by decide) (by decide)) (g := (mkF m 1 #[.val (.int p0), .val (.int p1), .unset, .unset, .unset, .unset, .unset] [(.int p0)])) rfl (by rw [hml]; rfl) (argsL := [(.int p0)]) (rest := []) (lenOf pd_1 rfl) rfl (by show 2 * 0 + _ ≤ _; exact Nat.le_of_eq rfl) (hb hby at_1) (fun _ _ => ⟨rfl, e0, (by decide : 0 + 0 ≤ _), (by decide : 0 + 0 ≤ _)⟩)
  dsimp only [Pt.U, Pt.locs, Pt.cells, Pt.slots] at X1 l1 y1 z1 st1 hQ1
  subst l1 y1 z1
  obtain ⟨rfl, Nq1, e1⟩ := hQ1
  have N1 := Fr.app N0 Nq1
  obtain ⟨_, _, ⟨T2, L2, k2, n2⟩, -, X2, ⟨Lc2, hQ2, l2, y2, z2⟩, st2⟩ := Jvm.LawKit.callS X1 hx (y := (⟨"com/example/gembok/gembok/LockKindWaitsForPinLaw", "kind", "(I)Lcom/example/gembok/gembok/LockKind;"⟩ : MethodName)) hown (mvT hZ (hw _ (List.mem_of_getElem? (i := 0) rfl))) (mvT hZ (hw _ (List.mem_of_getElem? (i := 1) rfl))) (mvT hZ (hw _ (List.mem_of_getElem? (i := 2) rfl))) (mvT hZ (hw _ (List.mem_of_getElem? (i := 3) rfl))) (by decide) (backOf (W := 0) (rmk_2 l Z a0 hw [] ad NF h0 n0 Ol p1 hi1) hZ (hw _ (List.mem_of_getElem? (i := 3) rfl)) (hw _ (List.mem_of_getElem? (i := 2) rfl)) (by decide) (by decide)) (g := (mkF m 6 #[.val (.int p0), .val (.int p1), .val (.ref (ad 2)), .unset, .unset, .unset, .unset] [(.int p1)])) rfl (by rw [hml]; rfl) (argsL := [(.int p1)]) (rest := []) (lenOf pd_1 rfl) rfl (by show 2 * 0 + _ ≤ _; exact Nat.le_of_eq rfl) (hb hby at_6) (fun _ _ => ⟨rfl, e1, (by decide : 0 + 0 ≤ _), (by decide : 0 + 0 ≤ _)⟩)
  dsimp only [Pt.U, Pt.locs, Pt.cells, Pt.slots] at X2 l2 y2 z2 st2 hQ2
  subst l2 y2 z2
  obtain ⟨rfl, Nq2, e2⟩ := hQ2
  have N2 := Fr.app N1 Nq2
  obtain ⟨cq3, kq3, qa3, qb3, qc3⟩ := isOf hZ e2 ((ft_2 NF).ext Ol.2)
  obtain ⟨_, _, ⟨T3, L3, k3, n3⟩, -, X3, ⟨Lc3, hQ3, l3, y3, z3⟩, st3⟩ := X2.virtualBack hx (y := (⟨"com/example/gembok/gembok/LockKind", "waitsFor", "(Lcom/example/gembok/gembok/LockKind;)Z"⟩ : MethodName)) (z := (⟨"com/example/gembok/gembok/LockKind", "waitsFor", "(Lcom/example/gembok/gembok/LockKind;)Z"⟩ : MethodName)) hown (mvT hZ (hw _ (List.mem_of_getElem? (i := 8) rfl))) (mvT hZ (hw _ (List.mem_of_getElem? (i := 9) rfl))) (notFace_of_selects (args := #[]) (mvT hZ (hw _ (List.mem_of_getElem? (i := 11) rfl)))) (mvT hZ (hw _ (List.mem_of_getElem? (i := 11) rfl))) (mvT hZ (hw _ (List.mem_of_getElem? (i := 10) rfl))) (by decide) (backOf (W := 0) (rm2_ad2_ad2 l Z a0 hw [] ad NF h0 n0 Ol) hZ (hw _ (List.mem_of_getElem? (i := 12) rfl)) (hw _ (List.mem_of_getElem? (i := 6) rfl)) (by decide) (by decide)) qa3 qc3 (g := (mkF m 12 #[.val (.int p0), .val (.int p1), .val (.ref (ad 2)), .val (.ref (ad 2)), .unset, .unset, .unset] [(.ref (ad 2)), (.ref (ad 2))])) rfl (by rw [hml]; rfl) (Steps.refl _) (argsL := [(.ref (ad 2))]) (rest := []) (lenOf pd_3 rfl) rfl (by show 2 * 0 + _ ≤ _; exact Nat.le_of_eq rfl) (hb hby at_12) (fun _ _ => ⟨rfl, e2, (by decide : 0 + 0 ≤ _), (by decide : 0 + 0 ≤ _)⟩)
  dsimp only [Pt.U, Pt.locs, Pt.cells, Pt.slots] at X3 l3 y3 z3 st3 hQ3
  subst l3 y3 z3
  obtain ⟨rfl, Nq3, e3⟩ := hQ3
  have N3 := Fr.app N2 Nq3
  obtain ⟨cq4, kq4, qa4, qb4, qc4⟩ := isOf hZ e3 ((ft_2 NF).ext Ol.2)
  obtain ⟨_, _, ⟨T4, L4, k4, n4⟩, -, X4, ⟨Lc4, hQ4, l4, y4, z4⟩, st4⟩ := X3.virtualBack hx (y := (⟨"com/example/gembok/gembok/LockKind", "waitsFor", "(Lcom/example/gembok/gembok/LockKind;)Z"⟩ : MethodName)) (z := (⟨"com/example/gembok/gembok/LockKind", "waitsFor", "(Lcom/example/gembok/gembok/LockKind;)Z"⟩ : MethodName)) hown (mvT hZ (hw _ (List.mem_of_getElem? (i := 8) rfl))) (mvT hZ (hw _ (List.mem_of_getElem? (i := 9) rfl))) (notFace_of_selects (args := #[]) (mvT hZ (hw _ (List.mem_of_getElem? (i := 11) rfl)))) (mvT hZ (hw _ (List.mem_of_getElem? (i := 11) rfl))) (mvT hZ (hw _ (List.mem_of_getElem? (i := 10) rfl))) (by decide) (backOf (W := 0) (rm2_ad2_ad2 l Z a0 hw [] ad NF h0 n0 Ol) hZ (hw _ (List.mem_of_getElem? (i := 12) rfl)) (hw _ (List.mem_of_getElem? (i := 6) rfl)) (by decide) (by decide)) qa4 qc4 (g := (mkF m 19 #[.val (.int p0), .val (.int p1), .val (.ref (ad 2)), .val (.ref (ad 2)), .val (.int (1 : Int32)), .unset, .unset] [(.ref (ad 2)), (.ref (ad 2))])) rfl (by rw [hml]; rfl) (Steps.refl _) (argsL := [(.ref (ad 2))]) (rest := []) (lenOf pd_3 rfl) rfl (by show 2 * 0 + _ ≤ _; exact Nat.le_of_eq rfl) (hb hby at_19) (fun _ _ => ⟨rfl, e3, (by decide : 0 + 0 ≤ _), (by decide : 0 + 0 ≤ _)⟩)
  dsimp only [Pt.U, Pt.locs, Pt.cells, Pt.slots] at X4 l4 y4 z4 st4 hQ4
  subst l4 y4 z4
  obtain ⟨rfl, Nq4, e4⟩ := hQ4
  have N4 := Fr.app N3 Nq4
  obtain ⟨T5, X5, e5, st5⟩ := getS2 X4 hx hZ hown (host := "") (Or.inl (hw _ (List.mem_of_getElem? (i := 23) rfl))) Via.refl e4 ((ft_4 NF).ext Ol.2) (g := (mkF m 30 #[.val (.int p0), .val (.int p1), .val (.ref (ad 2)), .val (.ref (ad 2)), .val (.int (1 : Int32)), .val (.int (1 : Int32)), .unset] [(.ref (ad 2))])) rfl (hb hby at_30)
  obtain ⟨fs, hr, hrun, hended, hW, hsame⟩ := X5.leave (v := some (.int (1 : Int32))) (fun h => by rw [Bd.returns] at h; cases h)
  refine ⟨_, _, pre0 _ ?_, hrun, hended, _, _, rfl, ?_, ⟨_, rfl⟩, hW, hsame.mono (by decide) (by decide)⟩
  · show Steps p.tables e below (s₁.setTop (mkF m 0 #[.val (.int p0), .val (.int p1), .unset, .unset, .unset, .unset, .unset] [])) _
    refine XS.iloadN X0.here hx rfl (hb hby at_0) rfl ?_
    show Steps p.tables e below (s₁.setTop (mkF m 1 #[.val (.int p0), .val (.int p1), .unset, .unset, .unset, .unset, .unset] [(.int p0)])) _
    refine st1 _ ?_
    show Steps p.tables e below (T1.setTop (mkF m 4 #[.val (.int p0), .val (.int p1), .unset, .unset, .unset, .unset, .unset] [(.ref (ad 2))])) _
    refine XS.astoreN X1.here hx rfl (hb hby at_4) rfl rfl (l' := #[.val (.int p0), .val (.int p1), .val (.ref (ad 2)), .unset, .unset, .unset, .unset]) rfl ?_
    show Steps p.tables e below (T1.setTop (mkF m 5 #[.val (.int p0), .val (.int p1), .val (.ref (ad 2)), .unset, .unset, .unset, .unset] [])) _
    refine XS.iloadN X1.here hx rfl (hb hby at_5) rfl ?_
    show Steps p.tables e below (T1.setTop (mkF m 6 #[.val (.int p0), .val (.int p1), .val (.ref (ad 2)), .unset, .unset, .unset, .unset] [(.int p1)])) _
    refine st2 _ ?_
    show Steps p.tables e below (T2.setTop (mkF m 9 #[.val (.int p0), .val (.int p1), .val (.ref (ad 2)), .unset, .unset, .unset, .unset] [(.ref (ad 2))])) _
    refine XS.astoreN X2.here hx rfl (hb hby at_9) rfl rfl (l' := #[.val (.int p0), .val (.int p1), .val (.ref (ad 2)), .val (.ref (ad 2)), .unset, .unset, .unset]) rfl ?_
    show Steps p.tables e below (T2.setTop (mkF m 10 #[.val (.int p0), .val (.int p1), .val (.ref (ad 2)), .val (.ref (ad 2)), .unset, .unset, .unset] [])) _
    refine XS.aloadN X2.here hx rfl (hb hby at_10) rfl rfl ?_
    show Steps p.tables e below (T2.setTop (mkF m 11 #[.val (.int p0), .val (.int p1), .val (.ref (ad 2)), .val (.ref (ad 2)), .unset, .unset, .unset] [(.ref (ad 2))])) _
    refine XS.aloadN X2.here hx rfl (hb hby at_11) rfl rfl ?_
    show Steps p.tables e below (T2.setTop (mkF m 12 #[.val (.int p0), .val (.int p1), .val (.ref (ad 2)), .val (.ref (ad 2)), .unset, .unset, .unset] [(.ref (ad 2)), (.ref (ad 2))])) _
    refine st3.trans ?_
    show Steps p.tables e below (T3.setTop (mkF m 15 #[.val (.int p0), .val (.int p1), .val (.ref (ad 2)), .val (.ref (ad 2)), .unset, .unset, .unset] [(.int (1 : Int32))])) _
    refine XS.istore X3.here hx rfl (hb hby at_15) rfl (l' := #[.val (.int p0), .val (.int p1), .val (.ref (ad 2)), .val (.ref (ad 2)), .val (.int (1 : Int32)), .unset, .unset]) rfl ?_
    show Steps p.tables e below (T3.setTop (mkF m 17 #[.val (.int p0), .val (.int p1), .val (.ref (ad 2)), .val (.ref (ad 2)), .val (.int (1 : Int32)), .unset, .unset] [])) _
    refine XS.aloadN X3.here hx rfl (hb hby at_17) rfl rfl ?_
    show Steps p.tables e below (T3.setTop (mkF m 18 #[.val (.int p0), .val (.int p1), .val (.ref (ad 2)), .val (.ref (ad 2)), .val (.int (1 : Int32)), .unset, .unset] [(.ref (ad 2))])) _
    refine XS.aloadN X3.here hx rfl (hb hby at_18) rfl rfl ?_
    show Steps p.tables e below (T3.setTop (mkF m 19 #[.val (.int p0), .val (.int p1), .val (.ref (ad 2)), .val (.ref (ad 2)), .val (.int (1 : Int32)), .unset, .unset] [(.ref (ad 2)), (.ref (ad 2))])) _
    refine st4.trans ?_
    show Steps p.tables e below (T4.setTop (mkF m 22 #[.val (.int p0), .val (.int p1), .val (.ref (ad 2)), .val (.ref (ad 2)), .val (.int (1 : Int32)), .unset, .unset] [(.int (1 : Int32))])) _
    refine XS.istore X4.here hx rfl (hb hby at_22) rfl (l' := #[.val (.int p0), .val (.int p1), .val (.ref (ad 2)), .val (.ref (ad 2)), .val (.int (1 : Int32)), .val (.int (1 : Int32)), .unset]) rfl ?_
    show Steps p.tables e below (T4.setTop (mkF m 24 #[.val (.int p0), .val (.int p1), .val (.ref (ad 2)), .val (.ref (ad 2)), .val (.int (1 : Int32)), .val (.int (1 : Int32)), .unset] [])) _
    refine XS.aloadN X4.here hx rfl (hb hby at_24) rfl rfl ?_
    show Steps p.tables e below (T4.setTop (mkF m 25 #[.val (.int p0), .val (.int p1), .val (.ref (ad 2)), .val (.ref (ad 2)), .val (.int (1 : Int32)), .val (.int (1 : Int32)), .unset] [(.ref (ad 2))])) _
    refine XS.aloadN X4.here hx rfl (hb hby at_25) rfl rfl ?_
    show Steps p.tables e below (T4.setTop (mkF m 26 #[.val (.int p0), .val (.int p1), .val (.ref (ad 2)), .val (.ref (ad 2)), .val (.int (1 : Int32)), .val (.int (1 : Int32)), .unset] [(.ref (ad 2)), (.ref (ad 2))])) _
    refine acmp X4 hx rfl (x := (.ref (ad 2))) (y := (.ref (ad 2))) rfl rfl (pc0 := 26) (pc' := 29) (same := true) rfl (hb hby at_26) rfl (decide_eq_true rfl) (by decide) (by decide) ?_
    show Steps p.tables e below (T4.setTop (mkF m 29 #[.val (.int p0), .val (.int p1), .val (.ref (ad 2)), .val (.ref (ad 2)), .val (.int (1 : Int32)), .val (.int (1 : Int32)), .unset] [])) _
    refine XS.aloadN X4.here hx rfl (hb hby at_29) rfl rfl ?_
    show Steps p.tables e below (T4.setTop (mkF m 30 #[.val (.int p0), .val (.int p1), .val (.ref (ad 2)), .val (.ref (ad 2)), .val (.int (1 : Int32)), .val (.int (1 : Int32)), .unset] [(.ref (ad 2))])) _
    refine st5 _ ?_
    show Steps p.tables e below (T5.setTop (mkF m 33 #[.val (.int p0), .val (.int p1), .val (.ref (ad 2)), .val (.ref (ad 2)), .val (.int (1 : Int32)), .val (.int (1 : Int32)), .unset] [(.ref (ad 1)), (.ref (ad 2))])) _
    refine acmp X5 hx rfl (x := (.ref (ad 2))) (y := (.ref (ad 1))) rfl rfl (pc0 := 33) (pc' := 36) (same := false) rfl (hb hby at_33) rfl (decide_eq_false (fun h => (Fld.ne (ft_8 NF) (ft_7 NF) (by decide)) (Value.ref.inj h))) (by decide) (by decide) ?_
    show Steps p.tables e below (T5.setTop (mkF m 36 #[.val (.int p0), .val (.int p1), .val (.ref (ad 2)), .val (.ref (ad 2)), .val (.int (1 : Int32)), .val (.int (1 : Int32)), .unset] [])) _
    refine XS.iconst X5.here hx rfl (hb hby at_36) ?_
    show Steps p.tables e below (T5.setTop (mkF m 37 #[.val (.int p0), .val (.int p1), .val (.ref (ad 2)), .val (.ref (ad 2)), .val (.int (1 : Int32)), .val (.int (1 : Int32)), .unset] [(.int (1 : Int32))])) _
    refine XS.goto X5.here hx rfl (pc0 := 37) (pc' := 41) rfl (hb hby at_37) (by decide) (by decide) ?_
    show Steps p.tables e below (T5.setTop (mkF m 41 #[.val (.int p0), .val (.int p1), .val (.ref (ad 2)), .val (.ref (ad 2)), .val (.int (1 : Int32)), .val (.int (1 : Int32)), .unset] [(.int (1 : Int32))])) _
    refine XS.istore X5.here hx rfl (hb hby at_41) rfl (l' := #[.val (.int p0), .val (.int p1), .val (.ref (ad 2)), .val (.ref (ad 2)), .val (.int (1 : Int32)), .val (.int (1 : Int32)), .val (.int (1 : Int32))]) rfl ?_
    show Steps p.tables e below (T5.setTop (mkF m 43 #[.val (.int p0), .val (.int p1), .val (.ref (ad 2)), .val (.ref (ad 2)), .val (.int (1 : Int32)), .val (.int (1 : Int32)), .val (.int (1 : Int32))] [])) _
    refine XS.goto X5.here hx rfl (pc0 := 43) (pc' := 67) rfl (hb hby at_43) (by decide) (by decide) ?_
    show Steps p.tables e below (T5.setTop (mkF m 67 #[.val (.int p0), .val (.int p1), .val (.ref (ad 2)), .val (.ref (ad 2)), .val (.int (1 : Int32)), .val (.int (1 : Int32)), .val (.int (1 : Int32))] [])) _
    refine XS.iload X5.here hx rfl (hb hby at_67) rfl ?_
    show Steps p.tables e below (T5.setTop (mkF m 69 #[.val (.int p0), .val (.int p1), .val (.ref (ad 2)), .val (.ref (ad 2)), .val (.int (1 : Int32)), .val (.int (1 : Int32)), .val (.int (1 : Int32))] [(.int (1 : Int32))])) _
    refine XS.iload X5.here hx rfl (hb hby at_69) rfl ?_
    show Steps p.tables e below (T5.setTop (mkF m 71 #[.val (.int p0), .val (.int p1), .val (.ref (ad 2)), .val (.ref (ad 2)), .val (.int (1 : Int32)), .val (.int (1 : Int32)), .val (.int (1 : Int32))] [(.int (1 : Int32)), (.int (1 : Int32))])) _
    refine XS.icmpNo X5.here hx rfl (hb hby at_71) rfl (teq (by decide)).2 ?_
    show Steps p.tables e below (T5.setTop (mkF m 74 #[.val (.int p0), .val (.int p1), .val (.ref (ad 2)), .val (.ref (ad 2)), .val (.int (1 : Int32)), .val (.int (1 : Int32)), .val (.int (1 : Int32))] [])) _
    refine XS.iload X5.here hx rfl (hb hby at_74) rfl ?_
    show Steps p.tables e below (T5.setTop (mkF m 76 #[.val (.int p0), .val (.int p1), .val (.ref (ad 2)), .val (.ref (ad 2)), .val (.int (1 : Int32)), .val (.int (1 : Int32)), .val (.int (1 : Int32))] [(.int (1 : Int32))])) _
    refine XS.iload X5.here hx rfl (hb hby at_76) rfl ?_
    show Steps p.tables e below (T5.setTop (mkF m 78 #[.val (.int p0), .val (.int p1), .val (.ref (ad 2)), .val (.ref (ad 2)), .val (.int (1 : Int32)), .val (.int (1 : Int32)), .val (.int (1 : Int32))] [(.int (1 : Int32)), (.int (1 : Int32))])) _
    refine XS.icmpNo X5.here hx rfl (hb hby at_78) rfl (teq (by decide)).2 ?_
    show Steps p.tables e below (T5.setTop (mkF m 81 #[.val (.int p0), .val (.int p1), .val (.ref (ad 2)), .val (.ref (ad 2)), .val (.int (1 : Int32)), .val (.int (1 : Int32)), .val (.int (1 : Int32))] [])) _
    refine XS.iconst X5.here hx rfl (hb hby at_81) ?_
    show Steps p.tables e below (T5.setTop (mkF m 82 #[.val (.int p0), .val (.int p1), .val (.ref (ad 2)), .val (.ref (ad 2)), .val (.int (1 : Int32)), .val (.int (1 : Int32)), .val (.int (1 : Int32))] [(.int (1 : Int32))])) _
    refine XS.goto X5.here hx rfl (pc0 := 82) (pc' := 86) rfl (hb hby at_82) (by decide) (by decide) ?_
    show Steps p.tables e below (T5.setTop (mkF m 86 #[.val (.int p0), .val (.int p1), .val (.ref (ad 2)), .val (.ref (ad 2)), .val (.int (1 : Int32)), .val (.int (1 : Int32)), .val (.int (1 : Int32))] [(.int (1 : Int32))])) _
    exact retN X5 hx (t := .boolean) Bd.returns (by simp) (hb hby at_86) hr
  · exact ⟨rfl, N4⟩
set_option maxRecDepth 65536 in
set_option maxHeartbeats 40000000 in
theorem comes_1 {Post : Tables → Env → Array Value → State → Outcome → State → Prop} (hpost : ∀ tb e args s v u, (limb_1_1.after args s (.returned v) u = true ∧ limb_1_2.after args s (.returned v) u = true ∧ True) → FrameEnd s (.returned v) u (Jvm.fieldLocs frame_1_writes args s ++ Jvm.arrayLocs frame_1_arrays args s ++ Jvm.staticLocs frame_1_statics s) 0 0 → Post tb e args s (.returned v) u) :
    ArmFor flags0 classFile x code maxLocals ret World_1 tables_1 room_1 Calls_1 rest_1 Pre_1 Post := by
  intro l hfl _ _ p e ha hc hk s m args below hf hA hF happ hP
  obtain ⟨hcalls, hrest, hpre⟩ := hP
  obtain ⟨-, -, -, hnamed, -, -, -, hat⟩ := (Spec.applies_iff hf).mp happ
  obtain ⟨hg, hn⟩ := and_e (Cond.before_iff.mp (show (Jvm.Cond.and given_1 narrow_1).before args s = true from hpre))
  obtain ⟨hcount, hg0⟩ := and_e hg
  obtain ⟨ga0, hg1⟩ := and_e hg0
  obtain ⟨w0, w1, rfl⟩ : ∃ w0 w1 : Value, args = #[w0, w1] := by
    have hs : args.size = 2 := by simpa [Cond.value, given_1] using hcount
    obtain ⟨L⟩ := args
    match L, hs with
    | [w0, w1], _ => exact ⟨w0, w1, rfl⟩
  have hw := fun d (hd : d ∈ tables_1) => atoms_spec (ws := Jvm.Cond.code x code maxLocals ret :: tables_1) hat d (List.mem_cons_of_mem _ hd)
  have hfit : Fit s := fun {y c} hc i hi => by
    obtain ⟨ha, rfl⟩ := Array.getElem?_eq_some_iff.mp hc
    have q := List.all_eq_true.mp ((Array.all_eq_true_iff_forall_mem.mp hF) _ (Array.getElem_mem ha)) i (List.mem_range.mpr hi)
    simpa [Array.getElem?_eq_getElem hi] using q
  obtain ⟨i0, ei0⟩ := is_v ga0
  obtain rfl : w0 = (.int i0) := Option.some.inj ei0
  obtain ⟨i1, ei1⟩ := is_v hg1
  obtain rfl : w1 = (.int i1) := Option.some.inj ei1
  obtain ⟨ad, NF⟩ := own_facts hw hfit hn
  have hrm : MetFree l x (head1 (Jvm.Cond.code x code maxLocals ret :: tables_1) room_1) (fun a U => a = #[(.int i0), (.int i1)] ∧ s.Warmed39 U.vm ∧ U.heap = s.heap) (fun _ _ _ _ _ => True) (fun _ U o U' => ∃ v L, o = .returned v ∧ QL s.heap.size v U'.heap L ∧ FrameEnd U o U' L room_1.cells room_1.slots) := by
    rcases own_mod i0 with hi0 | hi0 | hi0 <;> rcases own_mod i1 with hi1 | hi1 | hi1
    · exact rm0_0_0 l s _ hw tables_1 ad NF s.heap s.heap.size (Old.start s) i0 i1 hi0 hi1
    · exact rm0_0_1 l s _ hw tables_1 ad NF s.heap s.heap.size (Old.start s) i0 i1 hi0 hi1
    · exact rm0_0_2 l s _ hw tables_1 ad NF s.heap s.heap.size (Old.start s) i0 i1 hi0 hi1
    · exact rm0_1_0 l s _ hw tables_1 ad NF s.heap s.heap.size (Old.start s) i0 i1 hi0 hi1
    · exact rm0_1_1 l s _ hw tables_1 ad NF s.heap s.heap.size (Old.start s) i0 i1 hi0 hi1
    · exact rm0_1_2 l s _ hw tables_1 ad NF s.heap s.heap.size (Old.start s) i0 i1 hi0 hi1
    · exact rm0_2_0 l s _ hw tables_1 ad NF s.heap s.heap.size (Old.start s) i0 i1 hi0 hi1
    · exact rm0_2_1 l s _ hw tables_1 ad NF s.heap s.heap.size (Old.start s) i0 i1 hi0 hi1
    · exact rm0_2_2 l s _ hw tables_1 ad NF s.heap s.heap.size (Old.start s) i0 i1 hi0 hi1
  obtain ⟨n, o, h1, h2, h3, _, L, rfl, ⟨rfl, N⟩, hq⟩ := hrm p e ha hc hk s m _ below hf ((Spec.applies_iff_loose hf).mp happ).1 ⟨rfl, State.Warmed39.refl s, rfl⟩ trivial
  refine ⟨n, _, h1, h2, h3, hpost _ _ _ _ _ _ ⟨Cond.after_iff.mpr rfl, Cond.after_iff.mpr (eq_i res_at (Term.int_eval (1)) rfl), trivial⟩ ⟨hq.1, hq.2.1, (hq.2.2.sift fun y hy => Or.inr (N y hy)).mono (by decide) (by decide)⟩⟩
theorem main_1_1 : Claimed_1_1 := comes_1 fun _ _ _ _ _ _ h hF => ⟨h.1, hF⟩
theorem main_1_2 : Claimed_1_2 := comes_1 fun _ _ _ _ _ _ h hF => ⟨h.2.1, hF⟩
end Jvm.Pilot.@@N@@
namespace Jvm.Pilot.@@N@@
open Jvm Jvm.ClassFile Sem Op Lib Jvm.Free Jvm.Stand Jvm.Pilot.@@N@@.Jvm.D
/-! MADE BY PROGRAM (witnessworld.py) out of the Statement's table words and the real class files: 10 classes; the members and pool entries that the words name. The judged class is class 1, her method 2. -/
namespace start1
open Jvm.ClassFile
def u (s : String) : CpInfo := .utf8 (stringToUtf16 s)
/-- a pool by its gaps: so many unusable entries, then the entry; so many at the end -/
def gap : Nat → List CpInfo → List CpInfo
  | 0, r => r
  | n + 1, r => .unusable :: gap n r
def poolList (es : List (Nat × CpInfo)) (last : Nat) : List CpInfo := es.foldr (fun e r => gap e.1 (e.2 :: r)) (gap last [])
def pool (es : List (Nat × CpInfo)) (last : Nat) : Array CpInfo := ⟨poolList es last⟩
def fileOf (pool : Array CpInfo) (this : Nat) (attrs : Array Attribute := #[]) (ms : Array MethodInfo := #[]) (fl : Nat := 33) (sup : Nat := 0) (ifs : Array Nat := #[]) (fds : Array FieldInfo := #[]) : ClassFile where
  minorVersion := 0
  majorVersion := 65
  constantPool := pool
  accessFlags := fl
  thisClass := this
  superClass := sup
  interfaces := ifs
  fields := fds
  methods := ms
  attributes := attrs
def plain (name : String) (sup : Option ClassId) : Class where
  name := name
  kind := .ordinary
  loader := none
  accessFlags := 33
  super := sup
  interfaces := #[]
  cf := none
  fields := #[]
  methods := #[]
  instanceTypes := #[]
  staticTypes := #[]
  resolved := #[]
  callSites := []
  init := .initialized
  statics := none
  mirror := none

def pool0 : Array CpInfo := pool [(5, u "<init>"), (0, u "()V"), (1, .class_ 10), (1, u "java/lang/Object")] 113

def k0m0 : Method := { name := "<init>", desc := "()V", sig := { parameters := [], returnType := none }, accessFlags := 1, code := none }
/-- java/lang/Object -/
def k0 : Class := { plain "java/lang/Object" none with
  accessFlags := 33
  interfaces := #[]
  cf := some (fileOf pool0 8 #[] #[{ accessFlags := 1, nameIndex := 5, descriptorIndex := 6, attributes := #[] }] 33 0 #[] #[])
  fields := #[]
  methods := #[k0m0]
  instanceTypes := #[]
  staticTypes := #[]
  resolved := Array.replicate 124 none
  statics := none }

def pool1 : Array CpInfo := pool [(2, .class_ 4), (1, u "java/lang/Object"), (0, u "<init>"), (0, u "()V"), (0, .integer 2147483647), (0, .fieldref 9 10), (0, .class_ 11), (0, .nameAndType 12 13), (0, u "com/example/gembok/gembok/LockKind"), (0, u "EXCLUSIVE"), (0, u "Lcom/example/gembok/gembok/LockKind;"), (0, .fieldref 9 15), (0, .nameAndType 16 13), (0, u "READ"), (0, .fieldref 9 18), (0, .nameAndType 19 13), (0, u "WRITE"), (0, .methodref 21 22), (0, .class_ 23), (0, .nameAndType 24 25), (0, u "com/example/gembok/gembok/LockKindWaitsForPinLaw"), (0, u "kind"), (0, u "(I)Lcom/example/gembok/gembok/LockKind;"), (0, .methodref 9 27), (0, .nameAndType 28 29), (0, u "waitsFor"), (0, u "(Lcom/example/gembok/gembok/LockKind;)Z"), (3, u "law"), (0, u "(II)Z")] 2

def k1m0 : Method := { name := "<init>", desc := "()V", sig := { parameters := [], returnType := none }, accessFlags := 1, code := none }
def k1c1 : Code := { maxStack := 2, maxLocals := 2, code := method_2_code, exceptionTable := #[], attributes := #[] }
def k1m1 : Method := { name := "kind", desc := "(I)Lcom/example/gembok/gembok/LockKind;", sig := { parameters := [.int], returnType := some (.object "com/example/gembok/gembok/LockKind") }, accessFlags := 10, code := some k1c1 }
def k1c2 : Code := { maxStack := 2, maxLocals := 7, code := code, exceptionTable := #[], attributes := #[] }
def k1m2 : Method := { name := "law", desc := "(II)Z", sig := { parameters := [.int, .int], returnType := some .boolean }, accessFlags := 9, code := some k1c2 }
/-- com/example/gembok/gembok/LockKindWaitsForPinLaw -/
def k1 : Class := { plain "com/example/gembok/gembok/LockKindWaitsForPinLaw" (some 0) with
  accessFlags := 49
  interfaces := #[]
  cf := some (fileOf pool1 21 #[] #[{ accessFlags := 1, nameIndex := 5, descriptorIndex := 6, attributes := #[] }, { accessFlags := 10, nameIndex := 24, descriptorIndex := 25, attributes := #[] }, { accessFlags := 9, nameIndex := 33, descriptorIndex := 34, attributes := #[] }] 49 2 #[] #[])
  fields := #[]
  methods := #[k1m0, k1m1, k1m2]
  instanceTypes := #[]
  staticTypes := #[]
  resolved := Array.replicate 37 none
  statics := none }

def pool2 : Array CpInfo := pool [(1, .class_ 2), (0, u "java/lang/constant/Constable"), (0, .class_ 4), (0, u "java/lang/Object")] 6

/-- java/lang/constant/Constable -/
def k2 : Class := { plain "java/lang/constant/Constable" (some 0) with
  accessFlags := 1537
  interfaces := #[]
  cf := some (fileOf pool2 1 #[] #[] 1537 3 #[] #[])
  fields := #[]
  methods := #[]
  instanceTypes := #[]
  staticTypes := #[]
  resolved := Array.replicate 11 none
  statics := none }

def pool3 : Array CpInfo := pool [(1, .class_ 2), (0, u "java/lang/Comparable"), (0, .class_ 4), (0, u "java/lang/Object")] 7

/-- java/lang/Comparable -/
def k3 : Class := { plain "java/lang/Comparable" (some 0) with
  accessFlags := 1537
  interfaces := #[]
  cf := some (fileOf pool3 1 #[] #[] 1537 3 #[] #[])
  fields := #[]
  methods := #[]
  instanceTypes := #[]
  staticTypes := #[]
  resolved := Array.replicate 12 none
  statics := none }

def pool4 : Array CpInfo := pool [(1, .class_ 2), (0, u "java/io/Serializable"), (0, .class_ 4), (0, u "java/lang/Object")] 2

/-- java/io/Serializable -/
def k4 : Class := { plain "java/io/Serializable" (some 0) with
  accessFlags := 1537
  interfaces := #[]
  cf := some (fileOf pool4 1 #[] #[] 1537 3 #[] #[])
  fields := #[]
  methods := #[]
  instanceTypes := #[]
  staticTypes := #[]
  resolved := Array.replicate 7 none
  statics := none }

def pool5 : Array CpInfo := pool [(2, .class_ 4), (1, u "java/lang/Enum"), (0, u "name"), (0, u "Ljava/lang/String;"), (0, .fieldref 2 8), (0, .nameAndType 9 10), (0, u "ordinal"), (0, u "I"), (1, .class_ 14), (1, u "java/lang/Object"), (4, u "hash"), (86, .class_ 108), (1, u "java/lang/Enum$EnumDesc"), (2, .class_ 112), (0, u "java/lang/constant/Constable"), (0, .class_ 114), (0, u "java/lang/Comparable"), (0, .class_ 116), (0, u "java/io/Serializable"), (9, u "()I")] 77

def k5c0 : Code := { maxStack := 1, maxLocals := 1, code := jdk_37_method_2_code, exceptionTable := #[], attributes := #[] }
def k5m0 : Method := { name := "ordinal", desc := "()I", sig := { parameters := [], returnType := some .int }, accessFlags := 17, code := some k5c0 }
/-- java/lang/Enum -/
def k5 : Class := { plain "java/lang/Enum" (some 0) with
  accessFlags := 1057
  interfaces := #[2, 3, 4]
  cf := some (fileOf pool5 2 #[.nestMembers #[106]] #[{ accessFlags := 17, nameIndex := 9, descriptorIndex := 126, attributes := #[] }] 1057 12 #[111, 113, 115] #[{ accessFlags := 18, nameIndex := 5, descriptorIndex := 6, attributes := #[] }, { accessFlags := 18, nameIndex := 9, descriptorIndex := 10, attributes := #[] }, { accessFlags := 2, nameIndex := 19, descriptorIndex := 10, attributes := #[] }])
  fields := #[{ name := "name", type := (.object "java/lang/String"), accessFlags := 18, slot := 0, constantValue := 0 }, { name := "ordinal", type := .int, accessFlags := 18, slot := 1, constantValue := 0 }, { name := "hash", type := .int, accessFlags := 2, slot := 2, constantValue := 0 }]
  methods := #[k5m0]
  instanceTypes := #[(.object "java/lang/String"), .int, .int]
  staticTypes := #[]
  resolved := Array.replicate 204 none
  statics := none }

def pool6 : Array CpInfo := pool [(1, .class_ 2), (0, u "com/example/gembok/gembok/LockKind"), (0, .fieldref 1 4), (0, .nameAndType 5 6), (0, u "EXCLUSIVE"), (0, u "Lcom/example/gembok/gembok/LockKind;"), (0, .fieldref 1 8), (0, .nameAndType 9 6), (0, u "READ"), (0, .fieldref 1 11), (0, .nameAndType 12 6), (0, u "WRITE"), (2, u "$VALUES"), (0, u "[Lcom/example/gembok/gembok/LockKind;"), (6, .class_ 25), (1, u "java/lang/Enum"), (8, u "noun"), (0, u "Ljava/lang/String;"), (0, .methodref 1 37), (0, .nameAndType 38 39), (0, u "ordinal"), (0, u "()I"), (37, u "waitsFor"), (0, u "(Lcom/example/gembok/gembok/LockKind;)Z")] 23

def k6c0 : Code := { maxStack := 4, maxLocals := 2, code := prog_10_method_4_code, exceptionTable := #[], attributes := #[] }
def k6m0 : Method := { name := "waitsFor", desc := "(Lcom/example/gembok/gembok/LockKind;)Z", sig := { parameters := [(.object "com/example/gembok/gembok/LockKind")], returnType := some .boolean }, accessFlags := 0, code := some k6c0 }
/-- com/example/gembok/gembok/LockKind -/
def k6 : Class := { plain "com/example/gembok/gembok/LockKind" (some 5) with
  accessFlags := 16432
  interfaces := #[]
  cf := some (fileOf pool6 1 #[] #[{ accessFlags := 0, nameIndex := 77, descriptorIndex := 78, attributes := #[] }] 16432 23 #[] #[{ accessFlags := 16409, nameIndex := 5, descriptorIndex := 6, attributes := #[] }, { accessFlags := 16409, nameIndex := 9, descriptorIndex := 6, attributes := #[] }, { accessFlags := 16409, nameIndex := 12, descriptorIndex := 6, attributes := #[] }, { accessFlags := 18, nameIndex := 34, descriptorIndex := 35, attributes := #[] }, { accessFlags := 4122, nameIndex := 15, descriptorIndex := 16, attributes := #[] }])
  fields := #[{ name := "EXCLUSIVE", type := (.object "com/example/gembok/gembok/LockKind"), accessFlags := 16409, slot := 0, constantValue := 0 }, { name := "READ", type := (.object "com/example/gembok/gembok/LockKind"), accessFlags := 16409, slot := 1, constantValue := 0 }, { name := "WRITE", type := (.object "com/example/gembok/gembok/LockKind"), accessFlags := 16409, slot := 2, constantValue := 0 }, { name := "noun", type := (.object "java/lang/String"), accessFlags := 18, slot := 3, constantValue := 0 }, { name := "$VALUES", type := (.array (.object "com/example/gembok/gembok/LockKind")), accessFlags := 4122, slot := 3, constantValue := 0 }]
  methods := #[k6m0]
  instanceTypes := #[(.object "java/lang/String"), .int, .int, (.object "java/lang/String")]
  staticTypes := #[(.object "com/example/gembok/gembok/LockKind"), (.object "com/example/gembok/gembok/LockKind"), (.object "com/example/gembok/gembok/LockKind"), (.array (.object "com/example/gembok/gembok/LockKind"))]
  resolved := Array.replicate 102 none
  statics := some 0 }

def pool7 : Array CpInfo := pool [(1, u "java/lang/Cloneable"), (0, .class_ 1), (0, u "java/lang/Object"), (0, .class_ 3)] 3

/-- java/lang/Cloneable -/
def k7 : Class := { plain "java/lang/Cloneable" (some 0) with
  accessFlags := 1537
  interfaces := #[]
  cf := some (fileOf pool7 2 #[] #[] 1537 4 #[] #[])
  fields := #[]
  methods := #[]
  instanceTypes := #[]
  staticTypes := #[]
  resolved := Array.replicate 8 none
  statics := none }

/-- the primitive byte -/
def k8 : Class := { plain "byte" none with kind := .primitive 'B', accessFlags := 0x411 }
/-- [B -/
def k9 : Class := { plain "[B" (some 0) with kind := .array 8 .byte, interfaces := #[7, 4], accessFlags := 1041 }

def heap : Heap := #[{ cls := 6, slots := #[.ref 1, .ref 2, .ref 3, .null], vm := .statics 6 },
  { cls := 6, slots := #[.null, .int 0, .int 0, .null], vm := .none },
  { cls := 6, slots := #[.null, .int 1, .int 0, .null], vm := .none },
  { cls := 6, slots := #[.null, .int 2, .int 0, .null], vm := .none }]
def classes : Array Class := #[k0, k1, k2, k3, k4, k5, k6, k7, k8, k9]
def interned : List (Array UInt16 × Addr) := []
def slotsUsed : Nat := 16
def theMethod : MethodId := ⟨1, 2⟩
def args0 : Array Value := #[.int 5, .int 4]
def aboutOver (below : List Frame) : State where
  vm := { classes := classes, interned := interned.toArray }
  heap := heap
  slotsUsed := slotsUsed
  threads := #[{ frames := .invoking theMethod args0 :: below }]
def below0 : List Frame := [.native { method := ⟨0, 0⟩, args := #[] }]
def about1 : State := aboutOver below0
def p0 : Program := .bare "" "" ""
def e0 : Env := launch0.env 0 0 0
theorem w_frames : about1.frames = Frame.invoking theMethod args0 :: below0 := rfl
set_option maxRecDepth 65536 in
theorem w_args : argsFit about1.vm theMethod args0 = true := by decide +kernel
set_option maxRecDepth 65536 in
theorem w_heap : heapFits about1 = true := by decide +kernel
set_option maxRecDepth 65536 in
theorem w_runnable : about1.curStatus? = some .runnable := by decide +kernel
set_option maxRecDepth 65536 in
theorem w_alone : about1.alone = true := by decide +kernel
set_option maxRecDepth 65536 in
theorem w_named : about1.methodNamed? x = some theMethod := by decide +kernel
set_option maxRecDepth 65536 in
theorem w_hears : about1.hears theMethod below0 = true := by decide +kernel
set_option maxRecDepth 65536 in
theorem w_ripe : about1.ripe theMethod args0 below0 = true := by decide +kernel
theorem w_running : about1.status = .running := rfl
set_option maxRecDepth 65536 in
theorem w_room : about1.hasRoom e0.platform room_1 = true :=
  launch0.hasRoom_least _ room_1 (by decide +kernel) (by decide +kernel) (by decide +kernel) (by decide +kernel) (by decide +kernel) (by decide +kernel)
theorem allAtoms_all (ts : List Jvm.Cond) (a : Array Jvm.Value) (st : Jvm.State) : (allAtoms ts).before a st = ts.all (fun c => c.before a st) := by
  induction ts with
  | nil => rfl
  | cons c t ih =>
    show (Jvm.Cond.and c (allAtoms t)).before a st = _
    rw [Jvm.Cond.before_and, ih, List.all_cons]
def words1 : List Jvm.Cond := Jvm.Cond.code x code maxLocals ret :: tables_1
/-- a 'code' word, met by the world's own term for the bytes: nothing is compared byte by byte -/
theorem code_word {y : MethodName} {bytes : ByteArray} {mx : Nat} {rt : Option FieldType} {a : Array Value} {s : State} {m : MethodId} {meth : Method} {c : Code} (h1 : s.methodNamed? y = some m) (h2 : s.vm.method? m = some meth) (h3 : meth.code = some c) (h4 : c.code = bytes)
    (h5 : (c.maxLocals == mx && c.exceptionTable.isEmpty && decide (c.maxStack ≤ mostOperands) && decide (meth.sig.returnType = rt) && !meth.locks && decide (parseMethodDescriptor y.desc = some meth.sig)) = true) : (Jvm.Cond.code y bytes mx rt).before a s = true := by
  simp only [Bool.and_eq_true, beq_iff_eq, Bool.not_eq_true', decide_eq_true_eq] at h5
  obtain ⟨⟨⟨⟨⟨g1, g2⟩, g3⟩, g4⟩, g5⟩, g6⟩ := h5
  simp [Cond.before, Cond.holds, Cond.value, h1, h2, h3, h4, g1, g2, g3, g4, g5, g6]
def isCode : Jvm.Cond → Bool
  | .code _ _ _ _ => true
  | _ => false
theorem all_split {L : List Jvm.Cond} {P : Jvm.Cond → Bool} (h1 : L.all (fun c => isCode c || P c) = true) (h2 : ∀ c ∈ L.filter isCode, P c = true) : L.all P = true := by
  refine List.all_eq_true.mpr fun c hc => ?_
  have h := List.all_eq_true.mp h1 c hc
  rcases Bool.eq_false_or_eq_true (isCode c) with hi | hi
  · exact h2 c (List.mem_filter.mpr ⟨hc, hi⟩)
  · simpa [hi] using h
set_option maxRecDepth 65536 in
theorem w_c0 : (Jvm.Cond.code x code maxLocals ret).before args0 about1 = true := code_word (m := ⟨1, 2⟩) (meth := k1m2) (c := k1c2) (by decide +kernel) rfl rfl rfl (by decide +kernel)
set_option maxRecDepth 65536 in
theorem w_c1 : (Jvm.Cond.code ({ cls := "com/example/gembok/gembok/LockKindWaitsForPinLaw", name := "kind", desc := "(I)Lcom/example/gembok/gembok/LockKind;" } : Jvm.MethodName) method_2_code (2 : Nat) (Option.some (Jvm.ClassFile.FieldType.object "com/example/gembok/gembok/LockKind"))).before args0 about1 = true := code_word (m := ⟨1, 1⟩) (meth := k1m1) (c := k1c1) (by decide +kernel) rfl rfl rfl (by decide +kernel)
set_option maxRecDepth 65536 in
theorem w_c2 : (Jvm.Cond.code ({ cls := "com/example/gembok/gembok/LockKind", name := "waitsFor", desc := "(Lcom/example/gembok/gembok/LockKind;)Z" } : Jvm.MethodName) prog_10_method_4_code (2 : Nat) (Option.some Jvm.ClassFile.FieldType.boolean)).before args0 about1 = true := code_word (m := ⟨6, 0⟩) (meth := k6m0) (c := k6c0) (by decide +kernel) rfl rfl rfl (by decide +kernel)
set_option maxRecDepth 65536 in
theorem w_c3 : (Jvm.Cond.code ({ cls := "java/lang/Enum", name := "ordinal", desc := "()I" } : Jvm.MethodName) jdk_37_method_2_code (1 : Nat) (Option.some Jvm.ClassFile.FieldType.int)).before args0 about1 = true := code_word (m := ⟨5, 0⟩) (meth := k5m0) (c := k5c0) (by decide +kernel) rfl rfl rfl (by decide +kernel)
def codes1 : List Jvm.Cond := [Jvm.Cond.code x code maxLocals ret, Jvm.Cond.code ({ cls := "com/example/gembok/gembok/LockKindWaitsForPinLaw", name := "kind", desc := "(I)Lcom/example/gembok/gembok/LockKind;" } : Jvm.MethodName) method_2_code (2 : Nat) (Option.some (Jvm.ClassFile.FieldType.object "com/example/gembok/gembok/LockKind")), Jvm.Cond.code ({ cls := "com/example/gembok/gembok/LockKind", name := "waitsFor", desc := "(Lcom/example/gembok/gembok/LockKind;)Z" } : Jvm.MethodName) prog_10_method_4_code (2 : Nat) (Option.some Jvm.ClassFile.FieldType.boolean), Jvm.Cond.code ({ cls := "java/lang/Enum", name := "ordinal", desc := "()I" } : Jvm.MethodName) jdk_37_method_2_code (1 : Nat) (Option.some Jvm.ClassFile.FieldType.int)]
set_option maxRecDepth 65536 in
theorem codes_eq : words1.filter isCode = codes1 := rfl
theorem w_codes : ∀ c ∈ words1.filter isCode, c.before args0 about1 = true := by
  rw [codes_eq]
  intro c hc
  simp only [codes1, List.mem_cons, List.not_mem_nil, or_false] at hc
  rcases hc with rfl | rfl | rfl | rfl
  · exact w_c0
  · exact w_c1
  · exact w_c2
  · exact w_c3
set_option maxRecDepth 65536 in
theorem w_t1 : (words1.take 24).all (fun c => isCode c || c.before args0 about1) = true := by decide +kernel
set_option maxRecDepth 65536 in
theorem w_t2 : (words1.drop 24).all (fun c => isCode c || c.before args0 about1) = true := by decide +kernel
theorem w_tables : (allAtoms (Jvm.Cond.code x code maxLocals ret :: tables_1)).before args0 about1 = true := by
  rw [allAtoms_all]
  show words1.all (fun c => c.before args0 about1) = true
  refine all_split ?_ w_codes
  rw [← List.take_append_drop 24 words1, List.all_append, w_t1, w_t2]
  rfl
set_option maxRecDepth 65536 in
theorem w_case : (Jvm.Cond.and given_1 narrow_1).before args0 about1 = true := by decide +kernel
theorem w_applies : (headSpec (Jvm.Cond.code x code maxLocals ret :: tables_1) room_1).applies x e0.platform about1 = true :=
  (Spec.applies_iff w_frames).mpr ⟨w_running, w_runnable, w_alone, w_named, w_hears, w_ripe, w_room, w_tables⟩
theorem atStart : AtStart classFile x code maxLocals ret World_1 tables_1 room_1 Calls_1 rest_1 Pre_1 launch0 p0 e0 about1 theMethod args0 below0 :=
  ⟨lists_1, trivial, launch0.admits_env _ _ _, launch0.least_env, fairChoices_fair.cas, fairChoices_fair.clock, w_frames, w_args, w_heap, w_applies, trivial, trivial, w_case⟩
end start1
theorem witness_1 : WitnessClaimed_1 := ⟨start1.p0, start1.e0, start1.about1, start1.theMethod, start1.args0, start1.below0, start1.atStart⟩
end Jvm.Pilot.@@N@@
