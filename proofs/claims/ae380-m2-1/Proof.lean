import JvmDerived
import JvmDerived.Pilot.@@N@@Statement
import JvmDerived.Pilot.@@N@@Code
set_option linter.unusedVariables false
set_option linter.unusedSimpArgs false
@@BLOCK:NumsL.lean.txt@@
namespace Jvm.RoadKit
open Sem ClassFile Op Lib Jvm.Stand Jvm.Free Jvm.LawKit
section New
variable {p : Program} {l : Launch} {e : Env} {R : Room} {s : State} {m : MethodId} {args : Array Value} {below : List Frame} {meth : Method} {c : Code} {T : State} {locs : List Loc} {cells slots : Nat}
theorem retI (X : Stand p l e R s m args below meth c T locs cells slots) (hx : p.tables.exec = Jvm.exec) {pc : Nat} {Ls : Array Slot} {z : Int32} {rest : List Value} (hret : meth.sig.returnType = some .int) (hd : decode c.code pc = .ok (.ireturn, 1)) {fs : List Frame}
    (hl : ∀ (f : JFrame) (acts : List Action), f.method = m → f.locked = none → f.entered = [] → (doReturn e (T.setTop f) acts (some (.int z))).1 = T.setFrames fs) : Steps p.tables e below (T.setTop (mkF m pc Ls (.int z :: rest))) (T.setFrames fs) := by
  have hm' : T.vm.method? m = some meth := X.method'
  have hn : narrow .int (.int z) = .int z := rfl
  show Steps p.tables e below (T.setTop { method := m, pc := pc, locals := Ls, stack := _ :: rest, locked := none }) _
  jvm_step X.here [X.here.top, hx, hd, hm', hret, hn]
  first | (intro acts; rw [hl _ acts rfl rfl rfl]) | rw [hl _ _ rfl rfl rfl]
  exact Steps.refl _
theorem retD (X : Stand p l e R s m args below meth c T locs cells slots) (hx : p.tables.exec = Jvm.exec) {pc : Nat} {Ls : Array Slot} {z : UInt64} {rest : List Value} (hret : meth.sig.returnType = some .double) (hd : decode c.code pc = .ok (.dreturn, 1)) {fs : List Frame}
    (hl : ∀ (f : JFrame) (acts : List Action), f.method = m → f.locked = none → f.entered = [] → (doReturn e (T.setTop f) acts (some (.double z))).1 = T.setFrames fs) : Steps p.tables e below (T.setTop (mkF m pc Ls (.double z :: rest))) (T.setFrames fs) := by
  have hm' : T.vm.method? m = some meth := X.method'
  show Steps p.tables e below (T.setTop { method := m, pc := pc, locals := Ls, stack := _ :: rest, locked := none }) _
  jvm_step X.here [X.here.top, hx, hd, hm', hret]
  first | (intro acts; rw [hl _ acts rfl rfl rfl]) | rw [hl _ _ rfl rfl rfl]
  exact Steps.refl _
end New
end Jvm.RoadKit
namespace Jvm.Pilot.@@N@@
open Jvm Jvm.ClassFile Sem Op Lib Jvm.Free Jvm.Stand Jvm.LawKit Jvm.RoadKit Bundle Jvm.Pilot.@@N@@.Jvm.D
theorem jtlt {x y : Int64} (h : x < y) : ifCond.holds .lt (lcmpW x y) = true ∧ ifCond.holds .ge (lcmpW x y) = false ∧ ifCond.holds .gt (lcmpW y x) = true ∧ ifCond.holds .le (lcmpW y x) = false := by
  have h1 : ¬ y < x := by rw [Int64.lt_iff_toInt_lt] at h ⊢; omega
  have h2 : ¬ x = y := by rintro rfl; exact h1 h
  have h3 : ¬ y = x := fun q => h2 q.symm
  simp [ifCond.holds, lcmpW, h, h1, h2, h3]
theorem jflt {x y : Int64} (h : ¬ x < y) : ifCond.holds .lt (lcmpW x y) = false ∧ ifCond.holds .ge (lcmpW x y) = true ∧ ifCond.holds .gt (lcmpW y x) = false ∧ ifCond.holds .le (lcmpW y x) = true := by
  by_cases h2 : x = y
  · subst h2; simp [ifCond.holds, lcmpW, h]
  · have h1 : y < x := by rw [Int64.lt_iff_toInt_lt] at h ⊢; rw [← Int64.toInt_inj] at h2; omega
    have h3 : ¬ y = x := fun q => h2 q.symm
    simp [ifCond.holds, lcmpW, h, h1, h2, h3]
theorem jteq {x y : Int64} (h : x = y) : ifCond.holds .eq (lcmpW x y) = true ∧ ifCond.holds .ne (lcmpW x y) = false := by
  subst h
  have h1 : ¬ x < x := by rw [Int64.lt_iff_toInt_lt]; omega
  simp [ifCond.holds, lcmpW, h1]
theorem jfeq {x y : Int64} (h : ¬ x = y) : ifCond.holds .eq (lcmpW x y) = false ∧ ifCond.holds .ne (lcmpW x y) = true := by
  by_cases h1 : y < x <;> simp [ifCond.holds, lcmpW, h, h1]
theorem own_sta_keep {Z : State} {h h' : Heap} {C n d : String} {v : Value} {ws : List Addr} (F : Sta Z h C n d v) (K : Keep h h' ws) (q : ∀ x ∈ ws, ∃ c : Cell, h[x]? = some c ∧ c.vm.isStatics = false) : Sta Z h' C n d v := by
  obtain ⟨cf, i, k, f, st, cell, h1, h2, h3, h4, h5, h6, h7⟩ := F
  refine ⟨cf, i, k, f, st, cell, h1, h2, h3, h4, K.2.1 st cell h5 (fun hm => ?_), h6, h7⟩
  obtain ⟨c, e1, e2⟩ := q st hm
  rw [h5] at e1; cases e1; rw [h6] at e2; cases e2
theorem own_nostat {Z : State} {h : Heap} {a : Addr} {C : String} (E : Exa Z h a C) : ∃ c : Cell, h[a]? = some c ∧ c.vm.isStatics = false := by
  obtain ⟨cell, k, h1, -, -, h4, -⟩ := E
  exact ⟨cell, h1, h4⟩

theorem own_at {x v : Int32} (h : v = x &&& (3 : Int32)) : v = (0 : Int32) ∨ v = (1 : Int32) ∨ v = (2 : Int32) ∨ v = (3 : Int32) := by
  have m := Jvm.Kit.i32_mask x (3 : Int32) (k := 2) (by decide) (by decide)
  simp only [← Int32.toInt_inj, Int32.reduceToInt, h, m]
  omega

/-! body 5 -/
theorem d5_0 : decode jdk_22_method_1_code 0 = .ok (.aload_n 0, 1) := by decide +kernel
theorem d5_1 : decode jdk_22_method_1_code 1 = .ok (.invokespecial 1, 3) := by decide +kernel
theorem d5_4 : decode jdk_22_method_1_code 4 = .ok (.return_, 1) := by decide +kernel
theorem pn_5 : plainName "java/util/AbstractCollection" = true := by first | (simp [plainName, overriddenIn]; done) | decide +kernel
theorem ef_5 (m : MethodId) (a1 : Addr) : entryFrame m #[(.ref a1)] 1 = mkF m 0 #[.val (.ref a1)] [] := by first | (simp [entryFrame, mkF, argsToLocals, Value.category]; done) | rfl
def Q5 (Z : State) (a1 : Addr) (h0 : Heap) (n0 : Nat) (v : Option Value) (h : Heap) (L : List Loc) : Prop := v = none ∧ Fr n0 L ∧ h = h0 ∧ (True)
set_option maxRecDepth 65536 in
set_option maxHeartbeats 40000000 in
theorem rm5 (l : Launch) (Z : State) (a0 : Array Value) (hw : ∀ d ∈ tables_1, d.before a0 Z = true) (ws : List Jvm.Cond) (a1 : Addr) (h0 : Heap) (n0 : Nat) (Z0 : n0 ≤ h0.size)  :
    MetFree l (⟨"java/util/AbstractCollection", "<init>", "()V"⟩ : MethodName) (head1 (Jvm.Cond.code (⟨"java/util/AbstractCollection", "<init>", "()V"⟩ : MethodName) jdk_22_method_1_code 1 none :: ws) ({ frames := 1, cells := 0, slots := 0, locals := 12 } : Room)) (fun a U => a = #[(.ref a1)] ∧ Z.Warmed39 U.vm ∧ U.heap = h0) (fun _ _ _ _ _ => True) (fun _ U o U' => ∃ v L, o = .returned v ∧ Q5 Z a1 h0 n0 v U'.heap L ∧ FrameEnd U o U' L ({ frames := 1, cells := 0, slots := 0, locals := 12 } : Room).cells ({ frames := 1, cells := 0, slots := 0, locals := 12 } : Room).slots) := by
  refine MetFree.of_bodySF (plainFor_of_name pn_5) hisR ?_
  intro p e s m args below meth c s₁ Bd hml0 hP hK
  obtain ⟨rfl, hZ, hh⟩ := hP
  have hx := Bd.exec
  have hby := Bd.bytes
  have hml : c.maxLocals = 1 := hml0
  have hown : s.vm.findClass "java/util/AbstractCollection" = some m.cls := findClass_of_methodNamed Bd.named
  have hnm := (name_of_methodNamed Bd.named Bd.method).1
  have X0 : Stand p l e ({ frames := 1, cells := 0, slots := 0, locals := 12 } : Room) s m #[(.ref a1)] below meth c s₁ [] 0 0 := Stand.of_body Bd
  have e0 : s₁.heap = h0 := by rw [← hh, Bd.state]; rfl
  have N0 := Fr.nil n0
  have pre0 : ∀ tq, Steps p.tables e below (s₁.setTop (mkF m 0 #[.val (.ref a1)] [])) tq → Steps p.tables e below (s₁.setTop (entryFrame m #[(.ref a1)] 1)) tq := fun tq kq => castTop (ef_5 m a1) kq
  have pre1 : ∀ tq, Steps p.tables e below (s₁.setTop (mkF m 1 #[.val (.ref a1)] [(.ref a1)])) tq → Steps p.tables e below (s₁.setTop (entryFrame m #[(.ref a1)] 1)) tq := by
    refine fun tq kq => pre0 tq ?_
    show Steps p.tables e below (s₁.setTop (mkF m 0 #[.val (.ref a1)] [])) _
    refine XS.aloadN X0.here hx rfl (hb hby d5_0) rfl rfl ?_
    exact kq
  obtain ⟨T2, X2, e2, st2⟩ := initO X0 hx hZ hown (hw _ (List.mem_of_getElem? (i := 27) rfl)) (hw _ (List.mem_of_getElem? (i := 7) rfl)) (hw _ (List.mem_of_getElem? (i := 8) rfl)) e0 (g := (mkF m 1 #[.val (.ref a1)] [(.ref a1)])) rfl (by rw [hml]; rfl) rfl (hb hby d5_1) (by decide) (W := 0) (by show 2 * 0 + _ ≤ _; exact Nat.le_of_eq rfl) (by decide)
  have pre3 : ∀ tq, Steps p.tables e below (T2.setTop (mkF m 4 #[.val (.ref a1)] [])) tq → Steps p.tables e below (s₁.setTop (entryFrame m #[(.ref a1)] 1)) tq := fun tq kq => pre1 tq (st2 _ kq)
  obtain ⟨fs, hr, hrun, hended, hW, hsame⟩ := X2.leave (v := none) (fun _ => rfl)
  refine ⟨_, _, pre3 _ ?_, hrun, hended, _, _, rfl, ?_, ⟨_, rfl⟩, hW, hsame.mono (by decide) (by decide)⟩
  · skip
    show Steps p.tables e below (T2.setTop (mkF m 4 #[.val (.ref a1)] [])) _
    exact X2.returnOut hx Bd.returns (hb hby d5_4) hr
  · show Q5 Z a1 h0 n0 _ T2.heap _
    rw [e2]
    exact ⟨rfl, N0, rfl, trivial⟩
/-! body 4 -/
theorem d4_0 : decode jdk_39_method_1_code 0 = .ok (.aload_n 0, 1) := by decide +kernel
theorem d4_1 : decode jdk_39_method_1_code 1 = .ok (.invokespecial 1, 3) := by decide +kernel
theorem d4_4 : decode jdk_39_method_1_code 4 = .ok (.aload_n 0, 1) := by decide +kernel
theorem d4_5 : decode jdk_39_method_1_code 5 = .ok (.iconst 0, 1) := by decide +kernel
theorem d4_6 : decode jdk_39_method_1_code 6 = .ok (.putfield 7, 3) := by decide +kernel
theorem d4_9 : decode jdk_39_method_1_code 9 = .ok (.return_, 1) := by decide +kernel
theorem pn_4 : plainName "java/util/AbstractList" = true := by first | (simp [plainName, overriddenIn]; done) | decide +kernel
theorem pd4_0 : parseMethodDescriptor "()V" = some ⟨[], none⟩ := by decide +kernel
theorem ef_4 (m : MethodId) (a1 : Addr) : entryFrame m #[(.ref a1)] 1 = mkF m 0 #[.val (.ref a1)] [] := by first | (simp [entryFrame, mkF, argsToLocals, Value.category]; done) | rfl
def Q4 (Z : State) (a1 : Addr) (h0 : Heap) (n0 : Nat) (v : Option Value) (h : Heap) (L : List Loc) : Prop := v = none ∧ Fr n0 L ∧ Keep h0 h [a1] ∧ Fld Z h a1 "java/util/AbstractList" "modCount" "I" (.int (0 : Int32)) ∧ Fld Z h a1 "java/util/ArrayList" "elementData" "[Ljava/lang/Object;" .null ∧ Fld Z h a1 "java/util/ArrayList" "size" "I" (.int (0 : Int32)) ∧ (True)
set_option maxRecDepth 65536 in
set_option maxHeartbeats 40000000 in
theorem rm4 (l : Launch) (Z : State) (a0 : Array Value) (hw : ∀ d ∈ tables_1, d.before a0 Z = true) (ws : List Jvm.Cond) (a1 : Addr) (h0 : Heap) (n0 : Nat) (Z0 : n0 ≤ h0.size) (E_a1 : Exa Z h0 a1 "java/util/ArrayList") (F_modCount_a1 : Fld Z h0 a1 "java/util/AbstractList" "modCount" "I" (.int (0 : Int32))) (F_elementData_a1 : Fld Z h0 a1 "java/util/ArrayList" "elementData" "[Ljava/lang/Object;" .null) (F_size_a1 : Fld Z h0 a1 "java/util/ArrayList" "size" "I" (.int (0 : Int32))) (g_a1 : n0 ≤ a1) :
    MetFree l (⟨"java/util/AbstractList", "<init>", "()V"⟩ : MethodName) (head1 (Jvm.Cond.code (⟨"java/util/AbstractList", "<init>", "()V"⟩ : MethodName) jdk_39_method_1_code 1 none :: ws) ({ frames := 2, cells := 0, slots := 0, locals := 24 } : Room)) (fun a U => a = #[(.ref a1)] ∧ Z.Warmed39 U.vm ∧ U.heap = h0) (fun _ _ _ _ _ => True) (fun _ U o U' => ∃ v L, o = .returned v ∧ Q4 Z a1 h0 n0 v U'.heap L ∧ FrameEnd U o U' L ({ frames := 2, cells := 0, slots := 0, locals := 24 } : Room).cells ({ frames := 2, cells := 0, slots := 0, locals := 24 } : Room).slots) := by
  refine MetFree.of_bodySF (plainFor_of_name pn_4) hisR ?_
  intro p e s m args below meth c s₁ Bd hml0 hP hK
  obtain ⟨rfl, hZ, hh⟩ := hP
  have hx := Bd.exec
  have hby := Bd.bytes
  have hml : c.maxLocals = 1 := hml0
  have hown : s.vm.findClass "java/util/AbstractList" = some m.cls := findClass_of_methodNamed Bd.named
  have hnm := (name_of_methodNamed Bd.named Bd.method).1
  have X0 : Stand p l e ({ frames := 2, cells := 0, slots := 0, locals := 24 } : Room) s m #[(.ref a1)] below meth c s₁ [] 0 0 := Stand.of_body Bd
  have e0 : s₁.heap = h0 := by rw [← hh, Bd.state]; rfl
  have N0 := Fr.nil n0
  have pre0 : ∀ tq, Steps p.tables e below (s₁.setTop (mkF m 0 #[.val (.ref a1)] [])) tq → Steps p.tables e below (s₁.setTop (entryFrame m #[(.ref a1)] 1)) tq := fun tq kq => castTop (ef_4 m a1) kq
  have pre1 : ∀ tq, Steps p.tables e below (s₁.setTop (mkF m 1 #[.val (.ref a1)] [(.ref a1)])) tq → Steps p.tables e below (s₁.setTop (entryFrame m #[(.ref a1)] 1)) tq := by
    refine fun tq kq => pre0 tq ?_
    show Steps p.tables e below (s₁.setTop (mkF m 0 #[.val (.ref a1)] [])) _
    refine XS.aloadN X0.here hx rfl (hb hby d4_0) rfl rfl ?_
    exact kq
  have Z2 : n0 ≤ h0.size := Z0
  obtain ⟨_, _, ⟨T2, L2, k2, n2⟩, -, X2, ⟨Lc2, hQ2, l2, y2, z2⟩, st2⟩ := X0.specialBack hx (y := (⟨"java/util/AbstractCollection", "<init>", "()V"⟩ : MethodName)) rfl hown (mvT hZ (hw _ (List.mem_of_getElem? (i := 21) rfl))) (mvT hZ (hw _ (List.mem_of_getElem? (i := 22) rfl))) (mvT hZ (hw _ (List.mem_of_getElem? (i := 26) rfl))) (by decide) (backOf (W := 0) (rm5 l Z a0 hw [] a1  h0 n0 Z2 ) hZ (hw _ (List.mem_of_getElem? (i := 26) rfl)) (hw _ (List.mem_of_getElem? (i := 25) rfl)) (by decide) (by decide)) (g := (mkF m 1 #[.val (.ref a1)] [(.ref a1)])) rfl (by rw [hml]; rfl) (Steps.refl _) (a := a1) (argsL := []) (rest := []) (lenOf pd4_0 rfl) rfl (by show 2 * 0 + _ ≤ _; exact Nat.le_of_eq rfl) (hb hby d4_1) (fun _ _ => ⟨rfl, e0, (by decide : 0 + 0 ≤ _), (by decide : 0 + 0 ≤ _)⟩)
  dsimp only [Pt.U, Pt.locs, Pt.cells, Pt.slots] at X2 l2 y2 z2 st2 hQ2
  subst l2 y2 z2
  obtain ⟨rfl, Nq2, ehq2, hq2⟩ := hQ2
  have N2 := Fr.app N0 Nq2
  have pre3 : ∀ tq, Steps p.tables e below (T2.setTop (mkF m 4 #[.val (.ref a1)] [])) tq → Steps p.tables e below (s₁.setTop (entryFrame m #[(.ref a1)] 1)) tq := fun tq kq => pre1 tq (st2.trans kq)
  have pre4 : ∀ tq, Steps p.tables e below (T2.setTop (mkF m 6 #[.val (.ref a1)] [(.int (0 : Int32)), (.ref a1)])) tq → Steps p.tables e below (s₁.setTop (entryFrame m #[(.ref a1)] 1)) tq := by
    refine fun tq kq => pre3 tq ?_
    show Steps p.tables e below (T2.setTop (mkF m 4 #[.val (.ref a1)] [])) _
    refine XS.aloadN X2.here hx rfl (hb hby d4_4) rfl rfl ?_
    show Steps p.tables e below (T2.setTop (mkF m 5 #[.val (.ref a1)] [(.ref a1)])) _
    refine XS.iconst X2.here hx rfl (hb hby d4_5) ?_
    exact kq
  obtain ⟨T5, h5, X5, e5, W5, st5⟩ := putF X2 hx hZ hown (host := "") (Or.inl (hw _ (List.mem_of_getElem? (i := 28) rfl))) Via.refl ehq2 F_modCount_a1 E_a1 (Or.inl (hw _ (List.mem_of_getElem? (i := 29) rfl))) (hw _ (List.mem_of_getElem? (i := 10) rfl)) (ty := .int) (by decide) rfl rfl (g := (mkF m 6 #[.val (.ref a1)] [(.int (0 : Int32)), (.ref a1)])) rfl rfl (hb hby d4_6)
  have pre6 : ∀ tq, Steps p.tables e below (T5.setTop (mkF m 9 #[.val (.ref a1)] [])) tq → Steps p.tables e below (s₁.setTop (entryFrame m #[(.ref a1)] 1)) tq := fun tq kq => pre4 tq (st5 _ kq)
  have N5 := Fr.snoc X5 N2 g_a1
  have K5 : Keep h0 h5 [a1] := Keep.wr (Keep.refl h0 [a1]) W5 (Or.inl (List.mem_of_getElem? (i := 0) rfl))
  have f7 := E_a1.wr W5
  have f8 := F_elementData_a1.other W5 (Or.inr (slot_ne (Or.inl (hw _ (List.mem_of_getElem? (i := 32) rfl))) (Or.inl (hw _ (List.mem_of_getElem? (i := 29) rfl))) (by decide) (t := (.array (.object "java/lang/Object"))) (t' := .int) (by decide) (by decide)))
  have f9 := F_size_a1.other W5 (Or.inr (slot_ne (Or.inl (hw _ (List.mem_of_getElem? (i := 73) rfl))) (Or.inl (hw _ (List.mem_of_getElem? (i := 29) rfl))) (by decide) (t := .int) (t' := .int) (by decide) (by decide)))
  have f10 := F_modCount_a1.same W5
  obtain ⟨fs, hr, hrun, hended, hW, hsame⟩ := X5.leave (v := none) (fun _ => rfl)
  refine ⟨_, _, pre6 _ ?_, hrun, hended, _, _, rfl, ?_, ⟨_, rfl⟩, hW, hsame.mono (by decide) (by decide)⟩
  · skip
    show Steps p.tables e below (T5.setTop (mkF m 9 #[.val (.ref a1)] [])) _
    exact X5.returnOut hx Bd.returns (hb hby d4_9) hr
  · show Q4 Z a1 h0 n0 _ T5.heap _
    rw [e5]
    refine ⟨rfl, N5, K5, f10, f8, f9, ?_⟩
    trivial
/-! body 3 -/
theorem d3_0 : decode jdk_38_method_2_code 0 = .ok (.aload_n 0, 1) := by decide +kernel
theorem d3_1 : decode jdk_38_method_2_code 1 = .ok (.invokespecial 1, 3) := by decide +kernel
theorem d3_4 : decode jdk_38_method_2_code 4 = .ok (.aload_n 0, 1) := by decide +kernel
theorem d3_5 : decode jdk_38_method_2_code 5 = .ok (.getstatic 39, 3) := by decide +kernel
theorem d3_8 : decode jdk_38_method_2_code 8 = .ok (.putfield 9, 3) := by decide +kernel
theorem d3_11 : decode jdk_38_method_2_code 11 = .ok (.return_, 1) := by decide +kernel
theorem pn_3 : plainName "java/util/ArrayList" = true := by first | (simp [plainName, overriddenIn]; done) | decide +kernel
theorem pd3_0 : parseMethodDescriptor "()V" = some ⟨[], none⟩ := by decide +kernel
theorem ef_3 (m : MethodId) (a1 : Addr) : entryFrame m #[(.ref a1)] 1 = mkF m 0 #[.val (.ref a1)] [] := by first | (simp [entryFrame, mkF, argsToLocals, Value.category]; done) | rfl
def Q3 (Z : State) (a1 : Addr) (sD : Addr) (h0 : Heap) (n0 : Nat) (v : Option Value) (h : Heap) (L : List Loc) : Prop := v = none ∧ Fr n0 L ∧ Keep h0 h [a1] ∧ Fld Z h a1 "java/util/AbstractList" "modCount" "I" (.int (0 : Int32)) ∧ Fld Z h a1 "java/util/ArrayList" "elementData" "[Ljava/lang/Object;" (.ref sD) ∧ Fld Z h a1 "java/util/ArrayList" "size" "I" (.int (0 : Int32)) ∧ (True)
set_option maxRecDepth 65536 in
set_option maxHeartbeats 40000000 in
theorem rm3 (l : Launch) (Z : State) (a0 : Array Value) (hw : ∀ d ∈ tables_1, d.before a0 Z = true) (ws : List Jvm.Cond) (a1 : Addr) (sD : Addr) (h0 : Heap) (n0 : Nat) (Z0 : n0 ≤ h0.size) (E_a1 : Exa Z h0 a1 "java/util/ArrayList") (F_modCount_a1 : Fld Z h0 a1 "java/util/AbstractList" "modCount" "I" (.int (0 : Int32))) (F_elementData_a1 : Fld Z h0 a1 "java/util/ArrayList" "elementData" "[Ljava/lang/Object;" .null) (F_size_a1 : Fld Z h0 a1 "java/util/ArrayList" "size" "I" (.int (0 : Int32))) (g_a1 : n0 ≤ a1) (S_DEFAULTCAPACITY_EMPTY_ELEMENTDATA : Sta Z h0 "java/util/ArrayList" "DEFAULTCAPACITY_EMPTY_ELEMENTDATA" "[Ljava/lang/Object;" (.ref sD)) :
    MetFree l (⟨"java/util/ArrayList", "<init>", "()V"⟩ : MethodName) (head1 (Jvm.Cond.code (⟨"java/util/ArrayList", "<init>", "()V"⟩ : MethodName) jdk_38_method_2_code 1 none :: ws) ({ frames := 3, cells := 0, slots := 0, locals := 36 } : Room)) (fun a U => a = #[(.ref a1)] ∧ Z.Warmed39 U.vm ∧ U.heap = h0) (fun _ _ _ _ _ => True) (fun _ U o U' => ∃ v L, o = .returned v ∧ Q3 Z a1 sD h0 n0 v U'.heap L ∧ FrameEnd U o U' L ({ frames := 3, cells := 0, slots := 0, locals := 36 } : Room).cells ({ frames := 3, cells := 0, slots := 0, locals := 36 } : Room).slots) := by
  refine MetFree.of_bodySF (plainFor_of_name pn_3) hisR ?_
  intro p e s m args below meth c s₁ Bd hml0 hP hK
  obtain ⟨rfl, hZ, hh⟩ := hP
  have hx := Bd.exec
  have hby := Bd.bytes
  have hml : c.maxLocals = 1 := hml0
  have hown : s.vm.findClass "java/util/ArrayList" = some m.cls := findClass_of_methodNamed Bd.named
  have hnm := (name_of_methodNamed Bd.named Bd.method).1
  have X0 : Stand p l e ({ frames := 3, cells := 0, slots := 0, locals := 36 } : Room) s m #[(.ref a1)] below meth c s₁ [] 0 0 := Stand.of_body Bd
  have e0 : s₁.heap = h0 := by rw [← hh, Bd.state]; rfl
  have N0 := Fr.nil n0
  have pre0 : ∀ tq, Steps p.tables e below (s₁.setTop (mkF m 0 #[.val (.ref a1)] [])) tq → Steps p.tables e below (s₁.setTop (entryFrame m #[(.ref a1)] 1)) tq := fun tq kq => castTop (ef_3 m a1) kq
  have pre1 : ∀ tq, Steps p.tables e below (s₁.setTop (mkF m 1 #[.val (.ref a1)] [(.ref a1)])) tq → Steps p.tables e below (s₁.setTop (entryFrame m #[(.ref a1)] 1)) tq := by
    refine fun tq kq => pre0 tq ?_
    show Steps p.tables e below (s₁.setTop (mkF m 0 #[.val (.ref a1)] [])) _
    refine XS.aloadN X0.here hx rfl (hb hby d3_0) rfl rfl ?_
    exact kq
  have Z2 : n0 ≤ h0.size := Z0
  obtain ⟨_, _, ⟨T2, L2, k2, n2⟩, -, X2, ⟨Lc2, hQ2, l2, y2, z2⟩, st2⟩ := X0.specialBack hx (y := (⟨"java/util/AbstractList", "<init>", "()V"⟩ : MethodName)) rfl hown (mvT hZ (hw _ (List.mem_of_getElem? (i := 15) rfl))) (mvT hZ (hw _ (List.mem_of_getElem? (i := 16) rfl))) (mvT hZ (hw _ (List.mem_of_getElem? (i := 20) rfl))) (by decide) (backOf (W := 0) (rm4 l Z a0 hw [] a1  h0 n0 Z2 E_a1 F_modCount_a1 F_elementData_a1 F_size_a1 g_a1) hZ (hw _ (List.mem_of_getElem? (i := 20) rfl)) (hw _ (List.mem_of_getElem? (i := 19) rfl)) (by decide) (by decide)) (g := (mkF m 1 #[.val (.ref a1)] [(.ref a1)])) rfl (by rw [hml]; rfl) (Steps.refl _) (a := a1) (argsL := []) (rest := []) (lenOf pd3_0 rfl) rfl (by show 2 * 0 + _ ≤ _; exact Nat.le_of_eq rfl) (hb hby d3_1) (fun _ _ => ⟨rfl, e0, (by decide : 0 + 0 ≤ _), (by decide : 0 + 0 ≤ _)⟩)
  dsimp only [Pt.U, Pt.locs, Pt.cells, Pt.slots] at X2 l2 y2 z2 st2 hQ2
  subst l2 y2 z2
  obtain ⟨rfl, Nq2, Kq2, f3, f4, f5, hq2⟩ := hQ2
  have N2 := Fr.app N0 Nq2
  have pre6 : ∀ tq, Steps p.tables e below (T2.setTop (mkF m 4 #[.val (.ref a1)] [])) tq → Steps p.tables e below (s₁.setTop (entryFrame m #[(.ref a1)] 1)) tq := fun tq kq => pre1 tq (st2.trans kq)
  have K2 : Keep h0 T2.heap [a1] := Keep.trans (Keep.refl h0 [a1]) Kq2 (allS (Or.inl (List.mem_of_getElem? (i := 0) rfl)) all0)
  have f7 := E_a1.keep Kq2
  have f8 := own_sta_keep S_DEFAULTCAPACITY_EMPTY_ELEMENTDATA Kq2 (allS (own_nostat E_a1) all0)
  have pre9 : ∀ tq, Steps p.tables e below (T2.setTop (mkF m 5 #[.val (.ref a1)] [(.ref a1)])) tq → Steps p.tables e below (s₁.setTop (entryFrame m #[(.ref a1)] 1)) tq := by
    refine fun tq kq => pre6 tq ?_
    show Steps p.tables e below (T2.setTop (mkF m 4 #[.val (.ref a1)] [])) _
    refine XS.aloadN X2.here hx rfl (hb hby d3_4) rfl rfl ?_
    exact kq
  obtain ⟨T10, X10, e10, st10⟩ := getS2 X2 hx hZ hown (host := "") (Or.inl (hw _ (List.mem_of_getElem? (i := 30) rfl))) Via.refl rfl f8 (g := (mkF m 5 #[.val (.ref a1)] [(.ref a1)])) rfl (hb hby d3_5)
  have pre11 : ∀ tq, Steps p.tables e below (T10.setTop (mkF m 8 #[.val (.ref a1)] [(.ref sD), (.ref a1)])) tq → Steps p.tables e below (s₁.setTop (entryFrame m #[(.ref a1)] 1)) tq := fun tq kq => pre9 tq (st10 _ kq)
  obtain ⟨T12, h12, X12, e12, W12, st12⟩ := putF X10 hx hZ hown (host := "") (Or.inl (hw _ (List.mem_of_getElem? (i := 31) rfl))) Via.refl e10 f4 f7 (Or.inl (hw _ (List.mem_of_getElem? (i := 32) rfl))) (hw _ (List.mem_of_getElem? (i := 10) rfl)) (ty := (.array (.object "java/lang/Object"))) (by decide) rfl rfl (g := (mkF m 8 #[.val (.ref a1)] [(.ref sD), (.ref a1)])) rfl rfl (hb hby d3_8)
  have pre13 : ∀ tq, Steps p.tables e below (T12.setTop (mkF m 11 #[.val (.ref a1)] [])) tq → Steps p.tables e below (s₁.setTop (entryFrame m #[(.ref a1)] 1)) tq := fun tq kq => pre11 tq (st12 _ kq)
  have N12 := Fr.snoc X12 N2 g_a1
  have K12 : Keep h0 h12 [a1] := Keep.wr K2 W12 (Or.inl (List.mem_of_getElem? (i := 0) rfl))
  have f14 := f7.wr W12
  have f15 := f8.wr W12
  have f16 := f3.other W12 (Or.inr (slot_ne (Or.inl (hw _ (List.mem_of_getElem? (i := 29) rfl))) (Or.inl (hw _ (List.mem_of_getElem? (i := 32) rfl))) (by decide) (t := .int) (t' := (.array (.object "java/lang/Object"))) (by decide) (by decide)))
  have f17 := f5.other W12 (Or.inr (slot_ne (Or.inl (hw _ (List.mem_of_getElem? (i := 73) rfl))) (Or.inl (hw _ (List.mem_of_getElem? (i := 32) rfl))) (by decide) (t := .int) (t' := (.array (.object "java/lang/Object"))) (by decide) (by decide)))
  have f18 := f4.same W12
  obtain ⟨fs, hr, hrun, hended, hW, hsame⟩ := X12.leave (v := none) (fun _ => rfl)
  refine ⟨_, _, pre13 _ ?_, hrun, hended, _, _, rfl, ?_, ⟨_, rfl⟩, hW, hsame.mono (by decide) (by decide)⟩
  · skip
    show Steps p.tables e below (T12.setTop (mkF m 11 #[.val (.ref a1)] [])) _
    exact X12.returnOut hx Bd.returns (hb hby d3_11) hr
  · show Q3 Z a1 sD h0 n0 _ T12.heap _
    rw [e12]
    refine ⟨rfl, N12, K12, f16, f18, f17, ?_⟩
    trivial
/-! body 1 -/
theorem d1_0 : decode prog_82_method_1_code 0 = .ok (.aload_n 0, 1) := by decide +kernel
theorem d1_1 : decode prog_82_method_1_code 1 = .ok (.invokespecial 3, 3) := by decide +kernel
theorem d1_4 : decode prog_82_method_1_code 4 = .ok (.aload_n 0, 1) := by decide +kernel
theorem d1_5 : decode prog_82_method_1_code 5 = .ok (.new 9, 3) := by decide +kernel
theorem d1_8 : decode prog_82_method_1_code 8 = .ok (.dup, 1) := by decide +kernel
theorem d1_9 : decode prog_82_method_1_code 9 = .ok (.invokespecial 11, 3) := by decide +kernel
theorem d1_12 : decode prog_82_method_1_code 12 = .ok (.putfield 12, 3) := by decide +kernel
theorem d1_15 : decode prog_82_method_1_code 15 = .ok (.aload_n 0, 1) := by decide +kernel
theorem d1_16 : decode prog_82_method_1_code 16 = .ok (.ldc 16, 2) := by decide +kernel
theorem d1_18 : decode prog_82_method_1_code 18 = .ok (.newarray .double, 2) := by decide +kernel
theorem d1_20 : decode prog_82_method_1_code 20 = .ok (.putfield 17, 3) := by decide +kernel
theorem d1_23 : decode prog_82_method_1_code 23 = .ok (.return_, 1) := by decide +kernel
theorem pn_1 : plainName "com/example/crisp_haptics/crisphaptics/SampleBlocks" = true := by first | (simp [plainName, overriddenIn]; done) | decide +kernel
theorem pd1_0 : parseMethodDescriptor "()V" = some ⟨[], none⟩ := by decide +kernel
theorem ef_1 (m : MethodId) (a1 : Addr) : entryFrame m #[(.ref a1)] 1 = mkF m 0 #[.val (.ref a1)] [] := by first | (simp [entryFrame, mkF, argsToLocals, Value.category]; done) | rfl
def Q1 (Z : State) (a1 : Addr) (sD : Addr) (h0 : Heap) (n0 : Nat) (v : Option Value) (h : Heap) (L : List Loc) : Prop := ∃ al : Addr, ∃ x : Addr, ∃ k : ClassId, v = none ∧ Fr n0 L ∧ Keep h0 h [a1] ∧ Fld Z h a1 "com/example/crisp_haptics/crisphaptics/SampleBlocks" "fullBlocks" "Ljava/util/List;" (.ref al) ∧ Fld Z h a1 "com/example/crisp_haptics/crisphaptics/SampleBlocks" "block" "[D" (.ref x) ∧ Fld Z h a1 "com/example/crisp_haptics/crisphaptics/SampleBlocks" "inBlock" "I" (.int (0 : Int32)) ∧ Exa Z h al "java/util/ArrayList" ∧ Fld Z h al "java/util/AbstractList" "modCount" "I" (.int (0 : Int32)) ∧ Fld Z h al "java/util/ArrayList" "elementData" "[Ljava/lang/Object;" (.ref sD) ∧ Fld Z h al "java/util/ArrayList" "size" "I" (.int (0 : Int32)) ∧ Arv Z h x k .double (32768 : Int32) [(.double 0), (.double 0), (.double 0)] (.double 0) ∧ h0.size ≤ al ∧ h0.size ≤ x ∧ al ≠ x ∧ (True)
set_option maxRecDepth 65536 in
set_option maxHeartbeats 40000000 in
theorem rm1 (l : Launch) (Z : State) (a0 : Array Value) (hw : ∀ d ∈ tables_1, d.before a0 Z = true) (ws : List Jvm.Cond) (a1 : Addr) (sD : Addr) (h0 : Heap) (n0 : Nat) (Z0 : n0 ≤ h0.size) (E_a1 : Exa Z h0 a1 "com/example/crisp_haptics/crisphaptics/SampleBlocks") (F_fullBlocks_a1 : Fld Z h0 a1 "com/example/crisp_haptics/crisphaptics/SampleBlocks" "fullBlocks" "Ljava/util/List;" .null) (F_block_a1 : Fld Z h0 a1 "com/example/crisp_haptics/crisphaptics/SampleBlocks" "block" "[D" .null) (F_inBlock_a1 : Fld Z h0 a1 "com/example/crisp_haptics/crisphaptics/SampleBlocks" "inBlock" "I" (.int (0 : Int32))) (g_a1 : n0 ≤ a1) (S_DEFAULTCAPACITY_EMPTY_ELEMENTDATA : Sta Z h0 "java/util/ArrayList" "DEFAULTCAPACITY_EMPTY_ELEMENTDATA" "[Ljava/lang/Object;" (.ref sD)) :
    MetFree l (⟨"com/example/crisp_haptics/crisphaptics/SampleBlocks", "<init>", "()V"⟩ : MethodName) (head1 (Jvm.Cond.code (⟨"com/example/crisp_haptics/crisphaptics/SampleBlocks", "<init>", "()V"⟩ : MethodName) prog_82_method_1_code 1 none :: ws) ({ frames := 4, cells := 2, slots := 32771, locals := 50 } : Room)) (fun a U => a = #[(.ref a1)] ∧ Z.Warmed39 U.vm ∧ U.heap = h0) (fun _ _ _ _ _ => True) (fun _ U o U' => ∃ v L, o = .returned v ∧ Q1 Z a1 sD h0 n0 v U'.heap L ∧ FrameEnd U o U' L ({ frames := 4, cells := 2, slots := 32771, locals := 50 } : Room).cells ({ frames := 4, cells := 2, slots := 32771, locals := 50 } : Room).slots) := by
  refine MetFree.of_bodySF (plainFor_of_name pn_1) hisR ?_
  intro p e s m args below meth c s₁ Bd hml0 hP hK
  obtain ⟨rfl, hZ, hh⟩ := hP
  have hx := Bd.exec
  have hby := Bd.bytes
  have hml : c.maxLocals = 1 := hml0
  have hown : s.vm.findClass "com/example/crisp_haptics/crisphaptics/SampleBlocks" = some m.cls := findClass_of_methodNamed Bd.named
  have hnm := (name_of_methodNamed Bd.named Bd.method).1
  have X0 : Stand p l e ({ frames := 4, cells := 2, slots := 32771, locals := 50 } : Room) s m #[(.ref a1)] below meth c s₁ [] 0 0 := Stand.of_body Bd
  have e0 : s₁.heap = h0 := by rw [← hh, Bd.state]; rfl
  have N0 := Fr.nil n0
  have pre0 : ∀ tq, Steps p.tables e below (s₁.setTop (mkF m 0 #[.val (.ref a1)] [])) tq → Steps p.tables e below (s₁.setTop (entryFrame m #[(.ref a1)] 1)) tq := fun tq kq => castTop (ef_1 m a1) kq
  have pre1 : ∀ tq, Steps p.tables e below (s₁.setTop (mkF m 1 #[.val (.ref a1)] [(.ref a1)])) tq → Steps p.tables e below (s₁.setTop (entryFrame m #[(.ref a1)] 1)) tq := by
    refine fun tq kq => pre0 tq ?_
    show Steps p.tables e below (s₁.setTop (mkF m 0 #[.val (.ref a1)] [])) _
    refine XS.aloadN X0.here hx rfl (hb hby d1_0) rfl rfl ?_
    exact kq
  obtain ⟨T2, X2, e2, st2⟩ := initO X0 hx hZ hown (hw _ (List.mem_of_getElem? (i := 6) rfl)) (hw _ (List.mem_of_getElem? (i := 7) rfl)) (hw _ (List.mem_of_getElem? (i := 8) rfl)) e0 (g := (mkF m 1 #[.val (.ref a1)] [(.ref a1)])) rfl (by rw [hml]; rfl) rfl (hb hby d1_1) (by decide) (W := 0) (by show 2 * 0 + _ ≤ _; exact Nat.le_of_eq rfl) (by decide)
  have pre3 : ∀ tq, Steps p.tables e below (T2.setTop (mkF m 4 #[.val (.ref a1)] [])) tq → Steps p.tables e below (s₁.setTop (entryFrame m #[(.ref a1)] 1)) tq := fun tq kq => pre1 tq (st2 _ kq)
  have pre4 : ∀ tq, Steps p.tables e below (T2.setTop (mkF m 5 #[.val (.ref a1)] [(.ref a1)])) tq → Steps p.tables e below (s₁.setTop (entryFrame m #[(.ref a1)] 1)) tq := by
    refine fun tq kq => pre3 tq ?_
    show Steps p.tables e below (T2.setTop (mkF m 4 #[.val (.ref a1)] [])) _
    refine XS.aloadN X2.here hx rfl (hb hby d1_4) rfl rfl ?_
    exact kq
  obtain ⟨T5, h5, X5, e5, E5, A5, D5, -, st5⟩ := newO X2 hx hZ hown (hw _ (List.mem_of_getElem? (i := 9) rfl)) (hw _ (List.mem_of_getElem? (i := 10) rfl)) (hw _ (List.mem_of_getElem? (i := 11) rfl)) e2 (g := (mkF m 5 #[.val (.ref a1)] [(.ref a1)])) rfl (hb hby d1_5) (by decide) (by decide)
  obtain ⟨b5, g5⟩ : ∃ z, z = h0.size := ⟨_, rfl⟩
  rw [← g5] at A5 D5 st5
  have g_b5 : n0 ≤ b5 := Nat.le_trans Z0 (Nat.le_of_eq g5.symm)
  have sz_b5 : h0.size ≤ b5 := Nat.le_trans (Nat.le_refl h0.size) (Nat.le_of_eq g5.symm)
  have ne6 : a1 ≠ b5 := Nat.ne_of_lt (Nat.lt_of_lt_of_le E_a1.lt (Nat.le_of_eq g5.symm))
  have pre7 : ∀ tq, Steps p.tables e below (T5.setTop (mkF m 8 #[.val (.ref a1)] [(.ref b5), (.ref a1)])) tq → Steps p.tables e below (s₁.setTop (entryFrame m #[(.ref a1)] 1)) tq := fun tq kq => pre4 tq (st5 _ kq)
  have f8 := E_a1.ext E5
  have f9 := F_fullBlocks_a1.ext E5
  have f10 := F_block_a1.ext E5
  have f11 := F_inBlock_a1.ext E5
  have f12 := S_DEFAULTCAPACITY_EMPTY_ELEMENTDATA.ext E5
  have K5 : Keep h0 h5 [a1] := Keep.ext (Keep.refl h0 [a1]) E5
  have f13 : Fld Z h5 b5 "java/util/AbstractList" "modCount" "I" (.int (0 : Int32)) := D5 (Or.inl (hw _ (List.mem_of_getElem? (i := 29) rfl))) (ty := .int) (by decide)
  have f14 : Fld Z h5 b5 "java/util/ArrayList" "elementData" "[Ljava/lang/Object;" .null := D5 (Or.inl (hw _ (List.mem_of_getElem? (i := 32) rfl))) (ty := (.array (.object "java/lang/Object"))) (by decide)
  have f15 : Fld Z h5 b5 "java/util/ArrayList" "size" "I" (.int (0 : Int32)) := D5 (Or.inl (hw _ (List.mem_of_getElem? (i := 73) rfl))) (ty := .int) (by decide)
  have pre16 : ∀ tq, Steps p.tables e below (T5.setTop (mkF m 9 #[.val (.ref a1)] [(.ref b5), (.ref b5), (.ref a1)])) tq → Steps p.tables e below (s₁.setTop (entryFrame m #[(.ref a1)] 1)) tq := by
    refine fun tq kq => pre7 tq ?_
    show Steps p.tables e below (T5.setTop (mkF m 8 #[.val (.ref a1)] [(.ref b5), (.ref a1)])) _
    refine XS.dup X5.here hx rfl (hb hby d1_8) rfl rfl ?_
    exact kq
  have Z17 : n0 ≤ h5.size := (Nat.le_trans Z0 E5.1)
  obtain ⟨_, _, ⟨T17, L17, k17, n17⟩, -, X17, ⟨Lc17, hQ17, l17, y17, z17⟩, st17⟩ := X5.specialBack hx (y := (⟨"java/util/ArrayList", "<init>", "()V"⟩ : MethodName)) rfl hown (mvT hZ (hw _ (List.mem_of_getElem? (i := 12) rfl))) (mvT hZ (hw _ (List.mem_of_getElem? (i := 13) rfl))) (mvT hZ (hw _ (List.mem_of_getElem? (i := 14) rfl))) (by decide) (backOf (W := 2) (rm3 l Z a0 hw [] b5 sD h5 n0 Z17 A5 f13 f14 f15 g_b5 f12) hZ (hw _ (List.mem_of_getElem? (i := 14) rfl)) (hw _ (List.mem_of_getElem? (i := 11) rfl)) (by decide) (by decide)) (g := (mkF m 9 #[.val (.ref a1)] [(.ref b5), (.ref b5), (.ref a1)])) rfl (by rw [hml]; rfl) (Steps.refl _) (a := b5) (argsL := []) (rest := [(.ref b5), (.ref a1)]) (lenOf pd1_0 rfl) rfl (by show 2 * 0 + _ ≤ _; exact Nat.le_of_eq rfl) (hb hby d1_9) (fun _ _ => ⟨rfl, e5, (by decide : (0 + 1) + 0 ≤ _), (by decide : (0 + 3) + 0 ≤ _)⟩)
  dsimp only [Pt.U, Pt.locs, Pt.cells, Pt.slots] at X17 l17 y17 z17 st17 hQ17
  subst l17 y17 z17
  obtain ⟨rfl, Nq17, Kq17, f18, f19, f20, hq17⟩ := hQ17
  have N17 := Fr.app N0 Nq17
  have pre21 : ∀ tq, Steps p.tables e below (T17.setTop (mkF m 12 #[.val (.ref a1)] [(.ref b5), (.ref a1)])) tq → Steps p.tables e below (s₁.setTop (entryFrame m #[(.ref a1)] 1)) tq := fun tq kq => pre16 tq (st17.trans kq)
  have K17 : Keep h0 T17.heap [a1] := Keep.trans K5 Kq17 (allS (Or.inr sz_b5) all0)
  have f22 := f8.keep Kq17
  have f23 := f9.keep Kq17 (by simp only [List.mem_cons, List.not_mem_nil, or_false, not_or]; exact ne6)
  have f24 := f10.keep Kq17 (by simp only [List.mem_cons, List.not_mem_nil, or_false, not_or]; exact ne6)
  have f25 := f11.keep Kq17 (by simp only [List.mem_cons, List.not_mem_nil, or_false, not_or]; exact ne6)
  have f26 := own_sta_keep f12 Kq17 (allS (own_nostat A5) all0)
  have f27 := A5.keep Kq17
  obtain ⟨T28, h28, X28, e28, W28, st28⟩ := putF X17 hx hZ hown (host := "") (Or.inl (hw _ (List.mem_of_getElem? (i := 33) rfl))) Via.refl rfl f23 f22 (Or.inr ⟨(hw _ (List.mem_of_getElem? (i := 34) rfl)), rfl, hnm⟩) (hw _ (List.mem_of_getElem? (i := 1) rfl)) (ty := (.object "java/util/List")) (by decide) rfl rfl (g := (mkF m 12 #[.val (.ref a1)] [(.ref b5), (.ref a1)])) rfl rfl (hb hby d1_12)
  have pre29 : ∀ tq, Steps p.tables e below (T28.setTop (mkF m 15 #[.val (.ref a1)] [])) tq → Steps p.tables e below (s₁.setTop (entryFrame m #[(.ref a1)] 1)) tq := fun tq kq => pre21 tq (st28 _ kq)
  have N28 := Fr.snoc X28 N17 g_a1
  have K28 : Keep h0 h28 [a1] := Keep.wr K17 W28 (Or.inl (List.mem_of_getElem? (i := 0) rfl))
  have f30 := f22.wr W28
  have f31 := f24.other W28 (Or.inr (slot_ne (Or.inl (hw _ (List.mem_of_getElem? (i := 38) rfl))) (Or.inr (hw _ (List.mem_of_getElem? (i := 34) rfl))) (by decide) (t := (.array .double)) (t' := (.object "java/util/List")) (by decide) (by decide)))
  have f32 := f25.other W28 (Or.inr (slot_ne (Or.inl (hw _ (List.mem_of_getElem? (i := 45) rfl))) (Or.inr (hw _ (List.mem_of_getElem? (i := 34) rfl))) (by decide) (t := .int) (t' := (.object "java/util/List")) (by decide) (by decide)))
  have f33 := f26.wr W28
  have f34 := f27.wr W28
  have f35 := f18.other W28 (Or.inl (Ne.symm ne6))
  have f36 := f19.other W28 (Or.inl (Ne.symm ne6))
  have f37 := f20.other W28 (Or.inl (Ne.symm ne6))
  have f38 := f23.same W28
  have pre39 : ∀ tq, Steps p.tables e below (T28.setTop (mkF m 18 #[.val (.ref a1)] [(.int (32768 : Int32)), (.ref a1)])) tq → Steps p.tables e below (s₁.setTop (entryFrame m #[(.ref a1)] 1)) tq := by
    refine fun tq kq => pre29 tq ?_
    show Steps p.tables e below (T28.setTop (mkF m 15 #[.val (.ref a1)] [])) _
    refine XS.aloadN X28.here hx rfl (hb hby d1_15) rfl rfl ?_
    show Steps p.tables e below (T28.setTop (mkF m 16 #[.val (.ref a1)] [(.ref a1)])) _
    refine X28.ldcInt hx hown (mvT hZ (hw _ (List.mem_of_getElem? (i := 35) rfl))) (g := (mkF m 16 #[.val (.ref a1)] [(.ref a1)])) rfl (hb hby d1_16) _ ?_
    exact kq
  obtain ⟨T40, h40, k40, X40, e40, E40, A40, st40⟩ := newP X28 hx hZ (hw _ (List.mem_of_getElem? (i := 36) rfl)) e28 (g := (mkF m 18 #[.val (.ref a1)] [(.int (32768 : Int32)), (.ref a1)])) rfl (hb hby d1_18) rfl (by decide) (cap := 32768) (by decide) (by decide) (by decide) (by decide)
  obtain ⟨b40, g40⟩ : ∃ z, z = h28.size := ⟨_, rfl⟩
  rw [← g40] at A40 st40
  have g_b40 : n0 ≤ b40 := Nat.le_trans (Nat.le_trans (Nat.le_trans Z17 Kq17.1) (Keep.of_wr W28).1) (Nat.le_of_eq g40.symm)
  have sz_b40 : h0.size ≤ b40 := Nat.le_trans (Nat.le_trans (Nat.le_trans (Nat.le_trans (Nat.le_refl h0.size) E5.1) Kq17.1) (Keep.of_wr W28).1) (Nat.le_of_eq g40.symm)
  have ne41 : a1 ≠ b40 := Nat.ne_of_lt (Nat.lt_of_lt_of_le f30.lt (Nat.le_of_eq g40.symm))
  have ne42 : b5 ≠ b40 := Nat.ne_of_lt (Nat.lt_of_lt_of_le f34.lt (Nat.le_of_eq g40.symm))
  have pre43 : ∀ tq, Steps p.tables e below (T40.setTop (mkF m 20 #[.val (.ref a1)] [(.ref b40), (.ref a1)])) tq → Steps p.tables e below (s₁.setTop (entryFrame m #[(.ref a1)] 1)) tq := fun tq kq => pre39 tq (st40 _ kq)
  have f44 := f30.ext E40
  have f45 := f31.ext E40
  have f46 := f32.ext E40
  have f47 := f33.ext E40
  have f48 := f34.ext E40
  have f49 := f35.ext E40
  have f50 := f36.ext E40
  have f51 := f37.ext E40
  have f52 := f38.ext E40
  have K40 : Keep h0 h40 [a1] := Keep.ext K28 E40
  have f53 : Arv Z h40 b40 k40 .double (32768 : Int32) [(.double 0), (.double 0), (.double 0)] (.double 0) := (Arv.new A40 (by decide)).pad (pad_rep [] (.double 0) 3)
  obtain ⟨T54, h54, X54, e54, W54, st54⟩ := putF X40 hx hZ hown (host := "") (Or.inl (hw _ (List.mem_of_getElem? (i := 37) rfl))) Via.refl e40 f45 f44 (Or.inl (hw _ (List.mem_of_getElem? (i := 38) rfl))) (hw _ (List.mem_of_getElem? (i := 1) rfl)) (ty := (.array .double)) (by decide) rfl rfl (g := (mkF m 20 #[.val (.ref a1)] [(.ref b40), (.ref a1)])) rfl rfl (hb hby d1_20)
  have pre55 : ∀ tq, Steps p.tables e below (T54.setTop (mkF m 23 #[.val (.ref a1)] [])) tq → Steps p.tables e below (s₁.setTop (entryFrame m #[(.ref a1)] 1)) tq := fun tq kq => pre43 tq (st54 _ kq)
  have N54 := Fr.snoc X54 N28 g_a1
  have K54 : Keep h0 h54 [a1] := Keep.wr K40 W54 (Or.inl (List.mem_of_getElem? (i := 0) rfl))
  have f56 := f44.wr W54
  have f57 := f46.other W54 (Or.inr (slot_ne (Or.inl (hw _ (List.mem_of_getElem? (i := 45) rfl))) (Or.inl (hw _ (List.mem_of_getElem? (i := 38) rfl))) (by decide) (t := .int) (t' := (.array .double)) (by decide) (by decide)))
  have f58 := f47.wr W54
  have f59 := f48.wr W54
  have f60 := f49.other W54 (Or.inl (Ne.symm ne6))
  have f61 := f50.other W54 (Or.inl (Ne.symm ne6))
  have f62 := f51.other W54 (Or.inl (Ne.symm ne6))
  have f63 := f52.other W54 (Or.inr (slot_ne (Or.inr (hw _ (List.mem_of_getElem? (i := 34) rfl))) (Or.inl (hw _ (List.mem_of_getElem? (i := 38) rfl))) (by decide) (t := (.object "java/util/List")) (t' := (.array .double)) (by decide) (by decide)))
  have f64 := f53.other W54 (Ne.symm ne41)
  have f65 := f45.same W54
  obtain ⟨fs, hr, hrun, hended, hW, hsame⟩ := X54.leave (v := none) (fun _ => rfl)
  refine ⟨_, _, pre55 _ ?_, hrun, hended, _, _, rfl, ?_, ⟨_, rfl⟩, hW, hsame.mono (by decide) (by decide)⟩
  · skip
    show Steps p.tables e below (T54.setTop (mkF m 23 #[.val (.ref a1)] [])) _
    exact X54.returnOut hx Bd.returns (hb hby d1_23) hr
  · show Q1 Z a1 sD h0 n0 _ T54.heap _
    rw [e54]
    refine ⟨b5, b40, k40, rfl, N54, K54, f63, f65, f57, f59, f60, f61, f62, f64, sz_b5, sz_b40, ne42, ?_⟩
    trivial
/-! body 8 -/
theorem d8_0 : decode jdk_29_method_69_code 0 = .ok (.iload_n 0, 1) := by decide +kernel
theorem d8_1 : decode jdk_29_method_69_code 1 = .ok (.iload_n 1, 1) := by decide +kernel
theorem d8_2 : decode jdk_29_method_69_code 2 = .ok (.if_icmp .gt 7, 3) := by decide +kernel
theorem d8_5 : decode jdk_29_method_69_code 5 = .ok (.iload_n 0, 1) := by decide +kernel
theorem d8_6 : decode jdk_29_method_69_code 6 = .ok (.goto 4, 3) := by decide +kernel
theorem d8_9 : decode jdk_29_method_69_code 9 = .ok (.iload_n 1, 1) := by decide +kernel
theorem d8_10 : decode jdk_29_method_69_code 10 = .ok (.ireturn, 1) := by decide +kernel
theorem ef_8 (m : MethodId) (p1 : Int32) (p2 : Int32) : entryFrame m #[(.int p1), (.int p2)] 2 = mkF m 0 #[.val (.int p1), .val (.int p2)] [] := by first | (simp [entryFrame, mkF, argsToLocals, Value.category]; done) | rfl
def Q8 (Z : State) (p1 : Int32) (p2 : Int32) (h0 : Heap) (n0 : Nat) (v : Option Value) (h : Heap) (L : List Loc) : Prop := ∃ r : Int32, v = some (.int r) ∧ Fr n0 L ∧ h = h0 ∧ ((p2 < p1 ∧ r = p2) ∨ (¬ (p2 < p1) ∧ r = p1))
set_option maxRecDepth 65536 in
set_option maxHeartbeats 40000000 in
theorem rm8 (l : Launch) (Z : State) (a0 : Array Value) (hw : ∀ d ∈ tables_1, d.before a0 Z = true) (ws : List Jvm.Cond) (p1 : Int32) (p2 : Int32) (h0 : Heap) (n0 : Nat) (Z0 : n0 ≤ h0.size)  :
    MetFree l (⟨"java/lang/Math", "min", "(II)I"⟩ : MethodName) (head1 (Jvm.Cond.code (⟨"java/lang/Math", "min", "(II)I"⟩ : MethodName) jdk_29_method_69_code 2 (some .int) :: ws) ({ frames := 0, cells := 0, slots := 0, locals := 0 } : Room)) (fun a U => a = #[(.int p1), (.int p2)] ∧ Z.Warmed39 U.vm ∧ U.heap = h0) (fun _ _ _ _ _ => True) (fun _ U o U' => ∃ v L, o = .returned v ∧ Q8 Z p1 p2 h0 n0 v U'.heap L ∧ FrameEnd U o U' L ({ frames := 0, cells := 0, slots := 0, locals := 0 } : Room).cells ({ frames := 0, cells := 0, slots := 0, locals := 0 } : Room).slots) := by
  refine MetFree.of_bodySF (Jvm.Free.JP.mathPlain rfl (by decide +kernel)) hisR ?_
  intro p e s m args below meth c s₁ Bd hml0 hP hK
  obtain ⟨rfl, hZ, hh⟩ := hP
  have hx := Bd.exec
  have hby := Bd.bytes
  have hml : c.maxLocals = 2 := hml0
  have hown : s.vm.findClass "java/lang/Math" = some m.cls := findClass_of_methodNamed Bd.named
  have hnm := (name_of_methodNamed Bd.named Bd.method).1
  have X0 : Stand p l e ({ frames := 0, cells := 0, slots := 0, locals := 0 } : Room) s m #[(.int p1), (.int p2)] below meth c s₁ [] 0 0 := Stand.of_body Bd
  have e0 : s₁.heap = h0 := by rw [← hh, Bd.state]; rfl
  have N0 := Fr.nil n0
  have pre0 : ∀ tq, Steps p.tables e below (s₁.setTop (mkF m 0 #[.val (.int p1), .val (.int p2)] [])) tq → Steps p.tables e below (s₁.setTop (entryFrame m #[(.int p1), (.int p2)] 2)) tq := fun tq kq => castTop (ef_8 m p1 p2) kq
  have pre1 : ∀ tq, Steps p.tables e below (s₁.setTop (mkF m 2 #[.val (.int p1), .val (.int p2)] [(.int p2), (.int p1)])) tq → Steps p.tables e below (s₁.setTop (entryFrame m #[(.int p1), (.int p2)] 2)) tq := by
    refine fun tq kq => pre0 tq ?_
    show Steps p.tables e below (s₁.setTop (mkF m 0 #[.val (.int p1), .val (.int p2)] [])) _
    refine XS.iloadN X0.here hx rfl (hb hby d8_0) rfl ?_
    show Steps p.tables e below (s₁.setTop (mkF m 1 #[.val (.int p1), .val (.int p2)] [(.int p1)])) _
    refine XS.iloadN X0.here hx rfl (hb hby d8_1) rfl ?_
    exact kq
  by_cases hc2 : p2 < p1
  · skip
    have pre2 : ∀ tq, Steps p.tables e below (s₁.setTop (mkF m 9 #[.val (.int p1), .val (.int p2)] [])) tq → Steps p.tables e below (s₁.setTop (entryFrame m #[(.int p1), (.int p2)] 2)) tq := by
      refine fun tq kq => pre1 tq ?_
      show Steps p.tables e below (s₁.setTop (mkF m 2 #[.val (.int p1), .val (.int p2)] [(.int p2), (.int p1)])) _
      refine XS.icmpYes X0.here hx rfl (pc0 := 2) (pc' := 9) rfl (hb hby d8_2) rfl (tlt hc2).2.2.1 (by decide) (by decide) ?_
      exact kq
    obtain ⟨fs, hr, hrun, hended, hW, hsame⟩ := X0.leave (v := some (.int p2)) (fun h => by rw [Bd.returns] at h; cases h)
    refine ⟨_, _, pre2 _ ?_, hrun, hended, _, _, rfl, ?_, ⟨_, rfl⟩, hW, hsame.mono (by decide) (by decide)⟩
    · skip
      show Steps p.tables e below (s₁.setTop (mkF m 9 #[.val (.int p1), .val (.int p2)] [])) _
      refine XS.iloadN X0.here hx rfl (hb hby d8_9) rfl ?_
      show Steps p.tables e below (s₁.setTop (mkF m 10 #[.val (.int p1), .val (.int p2)] [(.int p2)])) _
      exact retI X0 hx Bd.returns (hb hby d8_10) hr
    · show Q8 Z p1 p2 h0 n0 _ s₁.heap _
      rw [e0]
      exact ⟨p2, rfl, N0, rfl, Or.inl (⟨hc2, rfl⟩)⟩
  · skip
    have pre3 : ∀ tq, Steps p.tables e below (s₁.setTop (mkF m 5 #[.val (.int p1), .val (.int p2)] [])) tq → Steps p.tables e below (s₁.setTop (entryFrame m #[(.int p1), (.int p2)] 2)) tq := by
      refine fun tq kq => pre1 tq ?_
      show Steps p.tables e below (s₁.setTop (mkF m 2 #[.val (.int p1), .val (.int p2)] [(.int p2), (.int p1)])) _
      refine XS.icmpNo X0.here hx rfl (hb hby d8_2) rfl (flt hc2).2.2.1 ?_
      exact kq
    obtain ⟨fs, hr, hrun, hended, hW, hsame⟩ := X0.leave (v := some (.int p1)) (fun h => by rw [Bd.returns] at h; cases h)
    refine ⟨_, _, pre3 _ ?_, hrun, hended, _, _, rfl, ?_, ⟨_, rfl⟩, hW, hsame.mono (by decide) (by decide)⟩
    · skip
      show Steps p.tables e below (s₁.setTop (mkF m 5 #[.val (.int p1), .val (.int p2)] [])) _
      refine XS.iloadN X0.here hx rfl (hb hby d8_5) rfl ?_
      show Steps p.tables e below (s₁.setTop (mkF m 6 #[.val (.int p1), .val (.int p2)] [(.int p1)])) _
      refine XS.goto X0.here hx rfl (pc0 := 6) (pc' := 10) rfl (hb hby d8_6) (by decide) (by decide) ?_
      show Steps p.tables e below (s₁.setTop (mkF m 10 #[.val (.int p1), .val (.int p2)] [(.int p1)])) _
      exact retI X0 hx Bd.returns (hb hby d8_10) hr
    · show Q8 Z p1 p2 h0 n0 _ s₁.heap _
      rw [e0]
      exact ⟨p1, rfl, N0, rfl, Or.inr (⟨hc2, rfl⟩)⟩
/-! body 10 -/
theorem d10_0 : decode jdk_38_method_8_code 0 = .ok (.aload_n 0, 1) := by decide +kernel
theorem d10_1 : decode jdk_38_method_8_code 1 = .ok (.getfield 48, 3) := by decide +kernel
theorem d10_4 : decode jdk_38_method_8_code 4 = .ok (.ireturn, 1) := by decide +kernel
theorem pn_10 : plainName "java/util/ArrayList" = true := by first | (simp [plainName, overriddenIn]; done) | decide +kernel
theorem ef_10 (m : MethodId) (a1 : Addr) : entryFrame m #[(.ref a1)] 1 = mkF m 0 #[.val (.ref a1)] [] := by first | (simp [entryFrame, mkF, argsToLocals, Value.category]; done) | rfl
def Q10 (Z : State) (a1 : Addr) (w1 : Int32) (h0 : Heap) (n0 : Nat) (v : Option Value) (h : Heap) (L : List Loc) : Prop := ∃ r : Int32, v = some (.int r) ∧ Fr n0 L ∧ h = h0 ∧ (r = w1)
set_option maxRecDepth 65536 in
set_option maxHeartbeats 40000000 in
theorem rm10 (l : Launch) (Z : State) (a0 : Array Value) (hw : ∀ d ∈ tables_1, d.before a0 Z = true) (ws : List Jvm.Cond) (a1 : Addr) (w1 : Int32) (h0 : Heap) (n0 : Nat) (Z0 : n0 ≤ h0.size) (F_size_a1 : Fld Z h0 a1 "java/util/ArrayList" "size" "I" (.int w1)) :
    MetFree l (⟨"java/util/ArrayList", "size", "()I"⟩ : MethodName) (head1 (Jvm.Cond.code (⟨"java/util/ArrayList", "size", "()I"⟩ : MethodName) jdk_38_method_8_code 1 (some .int) :: ws) ({ frames := 0, cells := 0, slots := 0, locals := 0 } : Room)) (fun a U => a = #[(.ref a1)] ∧ Z.Warmed39 U.vm ∧ U.heap = h0) (fun _ _ _ _ _ => True) (fun _ U o U' => ∃ v L, o = .returned v ∧ Q10 Z a1 w1 h0 n0 v U'.heap L ∧ FrameEnd U o U' L ({ frames := 0, cells := 0, slots := 0, locals := 0 } : Room).cells ({ frames := 0, cells := 0, slots := 0, locals := 0 } : Room).slots) := by
  refine MetFree.of_bodySF (plainFor_of_name pn_10) hisR ?_
  intro p e s m args below meth c s₁ Bd hml0 hP hK
  obtain ⟨rfl, hZ, hh⟩ := hP
  have hx := Bd.exec
  have hby := Bd.bytes
  have hml : c.maxLocals = 1 := hml0
  have hown : s.vm.findClass "java/util/ArrayList" = some m.cls := findClass_of_methodNamed Bd.named
  have hnm := (name_of_methodNamed Bd.named Bd.method).1
  have X0 : Stand p l e ({ frames := 0, cells := 0, slots := 0, locals := 0 } : Room) s m #[(.ref a1)] below meth c s₁ [] 0 0 := Stand.of_body Bd
  have e0 : s₁.heap = h0 := by rw [← hh, Bd.state]; rfl
  have N0 := Fr.nil n0
  have pre0 : ∀ tq, Steps p.tables e below (s₁.setTop (mkF m 0 #[.val (.ref a1)] [])) tq → Steps p.tables e below (s₁.setTop (entryFrame m #[(.ref a1)] 1)) tq := fun tq kq => castTop (ef_10 m a1) kq
  have pre1 : ∀ tq, Steps p.tables e below (s₁.setTop (mkF m 1 #[.val (.ref a1)] [(.ref a1)])) tq → Steps p.tables e below (s₁.setTop (entryFrame m #[(.ref a1)] 1)) tq := by
    refine fun tq kq => pre0 tq ?_
    show Steps p.tables e below (s₁.setTop (mkF m 0 #[.val (.ref a1)] [])) _
    refine XS.aloadN X0.here hx rfl (hb hby d10_0) rfl rfl ?_
    exact kq
  obtain ⟨T2, X2, e2, st2⟩ := getF X0 hx hZ hown (host := "") (Or.inl (hw _ (List.mem_of_getElem? (i := 72) rfl))) Via.refl e0 F_size_a1 (g := (mkF m 1 #[.val (.ref a1)] [(.ref a1)])) rfl rfl (hb hby d10_1)
  have pre3 : ∀ tq, Steps p.tables e below (T2.setTop (mkF m 4 #[.val (.ref a1)] [(.int w1)])) tq → Steps p.tables e below (s₁.setTop (entryFrame m #[(.ref a1)] 1)) tq := fun tq kq => pre1 tq (st2 _ kq)
  obtain ⟨fs, hr, hrun, hended, hW, hsame⟩ := X2.leave (v := some (.int w1)) (fun h => by rw [Bd.returns] at h; cases h)
  refine ⟨_, _, pre3 _ ?_, hrun, hended, _, _, rfl, ?_, ⟨_, rfl⟩, hW, hsame.mono (by decide) (by decide)⟩
  · skip
    show Steps p.tables e below (T2.setTop (mkF m 4 #[.val (.ref a1)] [(.int w1)])) _
    exact retI X2 hx Bd.returns (hb hby d10_4) hr
  · show Q10 Z a1 w1 h0 n0 _ T2.heap _
    rw [e2]
    exact ⟨w1, rfl, N0, rfl, rfl⟩
/-! body 12 -/
theorem d12_0 : decode jdk_49_method_1_code 0 = .ok (.aload_n 0, 1) := by decide +kernel
theorem d12_1 : decode jdk_49_method_1_code 1 = .ok (.aload_n 1, 1) := by decide +kernel
theorem d12_2 : decode jdk_49_method_1_code 2 = .ok (.putfield 1, 3) := by decide +kernel
theorem d12_5 : decode jdk_49_method_1_code 5 = .ok (.aload_n 0, 1) := by decide +kernel
theorem d12_6 : decode jdk_49_method_1_code 6 = .ok (.invokespecial 7, 3) := by decide +kernel
theorem d12_9 : decode jdk_49_method_1_code 9 = .ok (.aload_n 0, 1) := by decide +kernel
theorem d12_10 : decode jdk_49_method_1_code 10 = .ok (.iconst (-1), 1) := by decide +kernel
theorem d12_11 : decode jdk_49_method_1_code 11 = .ok (.putfield 13, 3) := by decide +kernel
theorem d12_14 : decode jdk_49_method_1_code 14 = .ok (.aload_n 0, 1) := by decide +kernel
theorem d12_15 : decode jdk_49_method_1_code 15 = .ok (.aload_n 0, 1) := by decide +kernel
theorem d12_16 : decode jdk_49_method_1_code 16 = .ok (.getfield 1, 3) := by decide +kernel
theorem d12_19 : decode jdk_49_method_1_code 19 = .ok (.getfield 17, 3) := by decide +kernel
theorem d12_22 : decode jdk_49_method_1_code 22 = .ok (.putfield 22, 3) := by decide +kernel
theorem d12_25 : decode jdk_49_method_1_code 25 = .ok (.return_, 1) := by decide +kernel
theorem pn_12 : plainName "java/util/ArrayList$Itr" = true := by first | (simp [plainName, overriddenIn]; done) | decide +kernel
theorem ef_12 (m : MethodId) (a1 : Addr) (a2 : Addr) : entryFrame m #[(.ref a1), (.ref a2)] 2 = mkF m 0 #[.val (.ref a1), .val (.ref a2)] [] := by first | (simp [entryFrame, mkF, argsToLocals, Value.category]; done) | rfl
def Q12 (Z : State) (a1 : Addr) (a2 : Addr) (w1 : Int32) (h0 : Heap) (n0 : Nat) (v : Option Value) (h : Heap) (L : List Loc) : Prop := v = none ∧ Fr n0 L ∧ Keep h0 h [a1] ∧ Fld Z h a1 "java/util/ArrayList$Itr" "this$0" "Ljava/util/ArrayList;" (.ref a2) ∧ Fld Z h a1 "java/util/ArrayList$Itr" "cursor" "I" (.int (0 : Int32)) ∧ (True)
set_option maxRecDepth 65536 in
set_option maxHeartbeats 40000000 in
theorem rm12 (l : Launch) (Z : State) (a0 : Array Value) (hw : ∀ d ∈ tables_1, d.before a0 Z = true) (ws : List Jvm.Cond) (a1 : Addr) (a2 : Addr) (w1 : Int32) (h0 : Heap) (n0 : Nat) (Z0 : n0 ≤ h0.size) (E_a1 : Exa Z h0 a1 "java/util/ArrayList$Itr") (F_this_0_a1 : Fld Z h0 a1 "java/util/ArrayList$Itr" "this$0" "Ljava/util/ArrayList;" .null) (F_cursor_a1 : Fld Z h0 a1 "java/util/ArrayList$Itr" "cursor" "I" (.int (0 : Int32))) (F_lastRet_a1 : Fld Z h0 a1 "java/util/ArrayList$Itr" "lastRet" "I" (.int (0 : Int32))) (F_expectedModCount_a1 : Fld Z h0 a1 "java/util/ArrayList$Itr" "expectedModCount" "I" (.int (0 : Int32))) (g_a1 : n0 ≤ a1) (F_modCount_a2 : Fld Z h0 a2 "java/util/AbstractList" "modCount" "I" (.int w1)) (ne_a1_a2 : a1 ≠ a2) :
    MetFree l (⟨"java/util/ArrayList$Itr", "<init>", "(Ljava/util/ArrayList;)V"⟩ : MethodName) (head1 (Jvm.Cond.code (⟨"java/util/ArrayList$Itr", "<init>", "(Ljava/util/ArrayList;)V"⟩ : MethodName) jdk_49_method_1_code 2 none :: ws) ({ frames := 1, cells := 0, slots := 0, locals := 12 } : Room)) (fun a U => a = #[(.ref a1), (.ref a2)] ∧ Z.Warmed39 U.vm ∧ U.heap = h0) (fun _ _ _ _ _ => True) (fun _ U o U' => ∃ v L, o = .returned v ∧ Q12 Z a1 a2 w1 h0 n0 v U'.heap L ∧ FrameEnd U o U' L ({ frames := 1, cells := 0, slots := 0, locals := 12 } : Room).cells ({ frames := 1, cells := 0, slots := 0, locals := 12 } : Room).slots) := by
  refine MetFree.of_bodySF (plainFor_of_name pn_12) hisR ?_
  intro p e s m args below meth c s₁ Bd hml0 hP hK
  obtain ⟨rfl, hZ, hh⟩ := hP
  have hx := Bd.exec
  have hby := Bd.bytes
  have hml : c.maxLocals = 2 := hml0
  have hown : s.vm.findClass "java/util/ArrayList$Itr" = some m.cls := findClass_of_methodNamed Bd.named
  have hnm := (name_of_methodNamed Bd.named Bd.method).1
  have X0 : Stand p l e ({ frames := 1, cells := 0, slots := 0, locals := 12 } : Room) s m #[(.ref a1), (.ref a2)] below meth c s₁ [] 0 0 := Stand.of_body Bd
  have e0 : s₁.heap = h0 := by rw [← hh, Bd.state]; rfl
  have N0 := Fr.nil n0
  have pre0 : ∀ tq, Steps p.tables e below (s₁.setTop (mkF m 0 #[.val (.ref a1), .val (.ref a2)] [])) tq → Steps p.tables e below (s₁.setTop (entryFrame m #[(.ref a1), (.ref a2)] 2)) tq := fun tq kq => castTop (ef_12 m a1 a2) kq
  have pre1 : ∀ tq, Steps p.tables e below (s₁.setTop (mkF m 2 #[.val (.ref a1), .val (.ref a2)] [(.ref a2), (.ref a1)])) tq → Steps p.tables e below (s₁.setTop (entryFrame m #[(.ref a1), (.ref a2)] 2)) tq := by
    refine fun tq kq => pre0 tq ?_
    show Steps p.tables e below (s₁.setTop (mkF m 0 #[.val (.ref a1), .val (.ref a2)] [])) _
    refine XS.aloadN X0.here hx rfl (hb hby d12_0) rfl rfl ?_
    show Steps p.tables e below (s₁.setTop (mkF m 1 #[.val (.ref a1), .val (.ref a2)] [(.ref a1)])) _
    refine XS.aloadN X0.here hx rfl (hb hby d12_1) rfl rfl ?_
    exact kq
  obtain ⟨T2, h2, X2, e2, W2, st2⟩ := putF X0 hx hZ hown (host := "") (Or.inl (hw _ (List.mem_of_getElem? (i := 89) rfl))) Via.refl e0 F_this_0_a1 E_a1 (Or.inr ⟨(hw _ (List.mem_of_getElem? (i := 90) rfl)), rfl, hnm⟩) (hw _ (List.mem_of_getElem? (i := 83) rfl)) (ty := (.object "java/util/ArrayList")) (by decide) rfl rfl (g := (mkF m 2 #[.val (.ref a1), .val (.ref a2)] [(.ref a2), (.ref a1)])) rfl rfl (hb hby d12_2)
  have pre3 : ∀ tq, Steps p.tables e below (T2.setTop (mkF m 5 #[.val (.ref a1), .val (.ref a2)] [])) tq → Steps p.tables e below (s₁.setTop (entryFrame m #[(.ref a1), (.ref a2)] 2)) tq := fun tq kq => pre1 tq (st2 _ kq)
  have N2 := Fr.snoc X2 N0 g_a1
  have K2 : Keep h0 h2 [a1] := Keep.wr (Keep.refl h0 [a1]) W2 (Or.inl (List.mem_of_getElem? (i := 0) rfl))
  have f4 := E_a1.wr W2
  have f5 := F_cursor_a1.other W2 (Or.inr (slot_ne (Or.inl (hw _ (List.mem_of_getElem? (i := 108) rfl))) (Or.inr (hw _ (List.mem_of_getElem? (i := 90) rfl))) (by decide) (t := .int) (t' := (.object "java/util/ArrayList")) (by decide) (by decide)))
  have f6 := F_lastRet_a1.other W2 (Or.inr (slot_ne (Or.inl (hw _ (List.mem_of_getElem? (i := 93) rfl))) (Or.inr (hw _ (List.mem_of_getElem? (i := 90) rfl))) (by decide) (t := .int) (t' := (.object "java/util/ArrayList")) (by decide) (by decide)))
  have f7 := F_expectedModCount_a1.other W2 (Or.inr (slot_ne (Or.inl (hw _ (List.mem_of_getElem? (i := 97) rfl))) (Or.inr (hw _ (List.mem_of_getElem? (i := 90) rfl))) (by decide) (t := .int) (t' := (.object "java/util/ArrayList")) (by decide) (by decide)))
  have f8 := F_modCount_a2.other W2 (Or.inl (Ne.symm ne_a1_a2))
  have f9 := F_this_0_a1.same W2
  have pre10 : ∀ tq, Steps p.tables e below (T2.setTop (mkF m 6 #[.val (.ref a1), .val (.ref a2)] [(.ref a1)])) tq → Steps p.tables e below (s₁.setTop (entryFrame m #[(.ref a1), (.ref a2)] 2)) tq := by
    refine fun tq kq => pre3 tq ?_
    show Steps p.tables e below (T2.setTop (mkF m 5 #[.val (.ref a1), .val (.ref a2)] [])) _
    refine XS.aloadN X2.here hx rfl (hb hby d12_5) rfl rfl ?_
    exact kq
  obtain ⟨T11, X11, e11, st11⟩ := initO X2 hx hZ hown (hw _ (List.mem_of_getElem? (i := 91) rfl)) (hw _ (List.mem_of_getElem? (i := 7) rfl)) (hw _ (List.mem_of_getElem? (i := 8) rfl)) e2 (g := (mkF m 6 #[.val (.ref a1), .val (.ref a2)] [(.ref a1)])) rfl (by rw [hml]; rfl) rfl (hb hby d12_6) (by decide) (W := 0) (by show 2 * 0 + _ ≤ _; exact Nat.le_of_eq rfl) (by decide)
  have pre12 : ∀ tq, Steps p.tables e below (T11.setTop (mkF m 9 #[.val (.ref a1), .val (.ref a2)] [])) tq → Steps p.tables e below (s₁.setTop (entryFrame m #[(.ref a1), (.ref a2)] 2)) tq := fun tq kq => pre10 tq (st11 _ kq)
  have pre13 : ∀ tq, Steps p.tables e below (T11.setTop (mkF m 11 #[.val (.ref a1), .val (.ref a2)] [(.int (-1 : Int32)), (.ref a1)])) tq → Steps p.tables e below (s₁.setTop (entryFrame m #[(.ref a1), (.ref a2)] 2)) tq := by
    refine fun tq kq => pre12 tq ?_
    show Steps p.tables e below (T11.setTop (mkF m 9 #[.val (.ref a1), .val (.ref a2)] [])) _
    refine XS.aloadN X11.here hx rfl (hb hby d12_9) rfl rfl ?_
    show Steps p.tables e below (T11.setTop (mkF m 10 #[.val (.ref a1), .val (.ref a2)] [(.ref a1)])) _
    refine XS.iconst X11.here hx rfl (hb hby d12_10) ?_
    exact kq
  obtain ⟨T14, h14, X14, e14, W14, st14⟩ := putF X11 hx hZ hown (host := "") (Or.inl (hw _ (List.mem_of_getElem? (i := 92) rfl))) Via.refl e11 f6 f4 (Or.inl (hw _ (List.mem_of_getElem? (i := 93) rfl))) (hw _ (List.mem_of_getElem? (i := 83) rfl)) (ty := .int) (by decide) rfl rfl (g := (mkF m 11 #[.val (.ref a1), .val (.ref a2)] [(.int (-1 : Int32)), (.ref a1)])) rfl rfl (hb hby d12_11)
  have pre15 : ∀ tq, Steps p.tables e below (T14.setTop (mkF m 14 #[.val (.ref a1), .val (.ref a2)] [])) tq → Steps p.tables e below (s₁.setTop (entryFrame m #[(.ref a1), (.ref a2)] 2)) tq := fun tq kq => pre13 tq (st14 _ kq)
  have N14 := Fr.snoc X14 N2 g_a1
  have K14 : Keep h0 h14 [a1] := Keep.wr K2 W14 (Or.inl (List.mem_of_getElem? (i := 0) rfl))
  have f16 := f4.wr W14
  have f17 := f5.other W14 (Or.inr (slot_ne (Or.inl (hw _ (List.mem_of_getElem? (i := 108) rfl))) (Or.inl (hw _ (List.mem_of_getElem? (i := 93) rfl))) (by decide) (t := .int) (t' := .int) (by decide) (by decide)))
  have f18 := f7.other W14 (Or.inr (slot_ne (Or.inl (hw _ (List.mem_of_getElem? (i := 97) rfl))) (Or.inl (hw _ (List.mem_of_getElem? (i := 93) rfl))) (by decide) (t := .int) (t' := .int) (by decide) (by decide)))
  have f19 := f8.other W14 (Or.inl (Ne.symm ne_a1_a2))
  have f20 := f9.other W14 (Or.inr (slot_ne (Or.inr (hw _ (List.mem_of_getElem? (i := 90) rfl))) (Or.inl (hw _ (List.mem_of_getElem? (i := 93) rfl))) (by decide) (t := (.object "java/util/ArrayList")) (t' := .int) (by decide) (by decide)))
  have f21 := f6.same W14
  have pre22 : ∀ tq, Steps p.tables e below (T14.setTop (mkF m 16 #[.val (.ref a1), .val (.ref a2)] [(.ref a1), (.ref a1)])) tq → Steps p.tables e below (s₁.setTop (entryFrame m #[(.ref a1), (.ref a2)] 2)) tq := by
    refine fun tq kq => pre15 tq ?_
    show Steps p.tables e below (T14.setTop (mkF m 14 #[.val (.ref a1), .val (.ref a2)] [])) _
    refine XS.aloadN X14.here hx rfl (hb hby d12_14) rfl rfl ?_
    show Steps p.tables e below (T14.setTop (mkF m 15 #[.val (.ref a1), .val (.ref a2)] [(.ref a1)])) _
    refine XS.aloadN X14.here hx rfl (hb hby d12_15) rfl rfl ?_
    exact kq
  obtain ⟨T23, X23, e23, st23⟩ := getF X14 hx hZ hown (host := "") (Or.inl (hw _ (List.mem_of_getElem? (i := 89) rfl))) Via.refl e14 f20 (g := (mkF m 16 #[.val (.ref a1), .val (.ref a2)] [(.ref a1), (.ref a1)])) rfl rfl (hb hby d12_16)
  have pre24 : ∀ tq, Steps p.tables e below (T23.setTop (mkF m 19 #[.val (.ref a1), .val (.ref a2)] [(.ref a2), (.ref a1)])) tq → Steps p.tables e below (s₁.setTop (entryFrame m #[(.ref a1), (.ref a2)] 2)) tq := fun tq kq => pre22 tq (st23 _ kq)
  obtain ⟨T25, X25, e25, st25⟩ := getF X23 hx hZ hown (host := "") (Or.inl (hw _ (List.mem_of_getElem? (i := 94) rfl))) (Via.of (hw _ (List.mem_of_getElem? (i := 95) rfl))) e23 f19 (g := (mkF m 19 #[.val (.ref a1), .val (.ref a2)] [(.ref a2), (.ref a1)])) rfl rfl (hb hby d12_19)
  have pre26 : ∀ tq, Steps p.tables e below (T25.setTop (mkF m 22 #[.val (.ref a1), .val (.ref a2)] [(.int w1), (.ref a1)])) tq → Steps p.tables e below (s₁.setTop (entryFrame m #[(.ref a1), (.ref a2)] 2)) tq := fun tq kq => pre24 tq (st25 _ kq)
  obtain ⟨T27, h27, X27, e27, W27, st27⟩ := putF X25 hx hZ hown (host := "") (Or.inl (hw _ (List.mem_of_getElem? (i := 96) rfl))) Via.refl e25 f18 f16 (Or.inl (hw _ (List.mem_of_getElem? (i := 97) rfl))) (hw _ (List.mem_of_getElem? (i := 83) rfl)) (ty := .int) (by decide) rfl rfl (g := (mkF m 22 #[.val (.ref a1), .val (.ref a2)] [(.int w1), (.ref a1)])) rfl rfl (hb hby d12_22)
  have pre28 : ∀ tq, Steps p.tables e below (T27.setTop (mkF m 25 #[.val (.ref a1), .val (.ref a2)] [])) tq → Steps p.tables e below (s₁.setTop (entryFrame m #[(.ref a1), (.ref a2)] 2)) tq := fun tq kq => pre26 tq (st27 _ kq)
  have N27 := Fr.snoc X27 N14 g_a1
  have K27 : Keep h0 h27 [a1] := Keep.wr K14 W27 (Or.inl (List.mem_of_getElem? (i := 0) rfl))
  have f29 := f16.wr W27
  have f30 := f17.other W27 (Or.inr (slot_ne (Or.inl (hw _ (List.mem_of_getElem? (i := 108) rfl))) (Or.inl (hw _ (List.mem_of_getElem? (i := 97) rfl))) (by decide) (t := .int) (t' := .int) (by decide) (by decide)))
  have f31 := f19.other W27 (Or.inl (Ne.symm ne_a1_a2))
  have f32 := f20.other W27 (Or.inr (slot_ne (Or.inr (hw _ (List.mem_of_getElem? (i := 90) rfl))) (Or.inl (hw _ (List.mem_of_getElem? (i := 97) rfl))) (by decide) (t := (.object "java/util/ArrayList")) (t' := .int) (by decide) (by decide)))
  have f33 := f21.other W27 (Or.inr (slot_ne (Or.inl (hw _ (List.mem_of_getElem? (i := 93) rfl))) (Or.inl (hw _ (List.mem_of_getElem? (i := 97) rfl))) (by decide) (t := .int) (t' := .int) (by decide) (by decide)))
  have f34 := f18.same W27
  obtain ⟨fs, hr, hrun, hended, hW, hsame⟩ := X27.leave (v := none) (fun _ => rfl)
  refine ⟨_, _, pre28 _ ?_, hrun, hended, _, _, rfl, ?_, ⟨_, rfl⟩, hW, hsame.mono (by decide) (by decide)⟩
  · skip
    show Steps p.tables e below (T27.setTop (mkF m 25 #[.val (.ref a1), .val (.ref a2)] [])) _
    exact X27.returnOut hx Bd.returns (hb hby d12_25) hr
  · show Q12 Z a1 a2 w1 h0 n0 _ T27.heap _
    rw [e27]
    refine ⟨rfl, N27, K27, f32, f30, ?_⟩
    trivial
/-! body 11 -/
theorem d11_0 : decode jdk_38_method_55_code 0 = .ok (.new 267, 3) := by decide +kernel
theorem d11_3 : decode jdk_38_method_55_code 3 = .ok (.dup, 1) := by decide +kernel
theorem d11_4 : decode jdk_38_method_55_code 4 = .ok (.aload_n 0, 1) := by decide +kernel
theorem d11_5 : decode jdk_38_method_55_code 5 = .ok (.invokespecial 269, 3) := by decide +kernel
theorem d11_8 : decode jdk_38_method_55_code 8 = .ok (.areturn, 1) := by decide +kernel
theorem pn_11 : plainName "java/util/ArrayList" = true := by first | (simp [plainName, overriddenIn]; done) | decide +kernel
theorem pd11_0 : parseMethodDescriptor "(Ljava/util/ArrayList;)V" = some ⟨[(.object "java/util/ArrayList")], none⟩ := by decide +kernel
theorem ef_11 (m : MethodId) (a1 : Addr) : entryFrame m #[(.ref a1)] 1 = mkF m 0 #[.val (.ref a1)] [] := by first | (simp [entryFrame, mkF, argsToLocals, Value.category]; done) | rfl
def Q11 (Z : State) (a1 : Addr) (w1 : Int32) (h0 : Heap) (n0 : Nat) (v : Option Value) (h : Heap) (L : List Loc) : Prop := ∃ r : Addr, v = some (.ref r) ∧ Fr n0 L ∧ Keep h0 h [] ∧ Exa Z h r "java/util/ArrayList$Itr" ∧ Fld Z h r "java/util/ArrayList$Itr" "this$0" "Ljava/util/ArrayList;" (.ref a1) ∧ Fld Z h r "java/util/ArrayList$Itr" "cursor" "I" (.int (0 : Int32)) ∧ h0.size ≤ r ∧ (True)
set_option maxRecDepth 65536 in
set_option maxHeartbeats 40000000 in
theorem rm11 (l : Launch) (Z : State) (a0 : Array Value) (hw : ∀ d ∈ tables_1, d.before a0 Z = true) (ws : List Jvm.Cond) (a1 : Addr) (w1 : Int32) (h0 : Heap) (n0 : Nat) (Z0 : n0 ≤ h0.size) (E_a1 : Exa Z h0 a1 "java/util/ArrayList") (F_modCount_a1 : Fld Z h0 a1 "java/util/AbstractList" "modCount" "I" (.int w1)) :
    MetFree l (⟨"java/util/ArrayList", "iterator", "()Ljava/util/Iterator;"⟩ : MethodName) (head1 (Jvm.Cond.code (⟨"java/util/ArrayList", "iterator", "()Ljava/util/Iterator;"⟩ : MethodName) jdk_38_method_55_code 1 (some (.object "java/util/Iterator")) :: ws) ({ frames := 2, cells := 1, slots := 4, locals := 26 } : Room)) (fun a U => a = #[(.ref a1)] ∧ Z.Warmed39 U.vm ∧ U.heap = h0) (fun _ _ _ _ _ => True) (fun _ U o U' => ∃ v L, o = .returned v ∧ Q11 Z a1 w1 h0 n0 v U'.heap L ∧ FrameEnd U o U' L ({ frames := 2, cells := 1, slots := 4, locals := 26 } : Room).cells ({ frames := 2, cells := 1, slots := 4, locals := 26 } : Room).slots) := by
  refine MetFree.of_bodySF (plainFor_of_name pn_11) hisR ?_
  intro p e s m args below meth c s₁ Bd hml0 hP hK
  obtain ⟨rfl, hZ, hh⟩ := hP
  have hx := Bd.exec
  have hby := Bd.bytes
  have hml : c.maxLocals = 1 := hml0
  have hown : s.vm.findClass "java/util/ArrayList" = some m.cls := findClass_of_methodNamed Bd.named
  have hnm := (name_of_methodNamed Bd.named Bd.method).1
  have X0 : Stand p l e ({ frames := 2, cells := 1, slots := 4, locals := 26 } : Room) s m #[(.ref a1)] below meth c s₁ [] 0 0 := Stand.of_body Bd
  have e0 : s₁.heap = h0 := by rw [← hh, Bd.state]; rfl
  have N0 := Fr.nil n0
  have pre0 : ∀ tq, Steps p.tables e below (s₁.setTop (mkF m 0 #[.val (.ref a1)] [])) tq → Steps p.tables e below (s₁.setTop (entryFrame m #[(.ref a1)] 1)) tq := fun tq kq => castTop (ef_11 m a1) kq
  obtain ⟨T1, h1, X1, e1, E1, A1, D1, -, st1⟩ := newO X0 hx hZ hown (hw _ (List.mem_of_getElem? (i := 82) rfl)) (hw _ (List.mem_of_getElem? (i := 83) rfl)) (hw _ (List.mem_of_getElem? (i := 84) rfl)) e0 (g := (mkF m 0 #[.val (.ref a1)] [])) rfl (hb hby d11_0) (by decide) (by decide)
  obtain ⟨b1, g1⟩ : ∃ z, z = h0.size := ⟨_, rfl⟩
  rw [← g1] at A1 D1 st1
  have g_b1 : n0 ≤ b1 := Nat.le_trans Z0 (Nat.le_of_eq g1.symm)
  have sz_b1 : h0.size ≤ b1 := Nat.le_trans (Nat.le_refl h0.size) (Nat.le_of_eq g1.symm)
  have ne2 : a1 ≠ b1 := Nat.ne_of_lt (Nat.lt_of_lt_of_le E_a1.lt (Nat.le_of_eq g1.symm))
  have pre3 : ∀ tq, Steps p.tables e below (T1.setTop (mkF m 3 #[.val (.ref a1)] [(.ref b1)])) tq → Steps p.tables e below (s₁.setTop (entryFrame m #[(.ref a1)] 1)) tq := fun tq kq => pre0 tq (st1 _ kq)
  have f4 := E_a1.ext E1
  have f5 := F_modCount_a1.ext E1
  have K1 : Keep h0 h1 [] := Keep.ext (Keep.refl h0 []) E1
  have f6 : Fld Z h1 b1 "java/util/ArrayList$Itr" "this$0" "Ljava/util/ArrayList;" .null := D1 (Or.inr (hw _ (List.mem_of_getElem? (i := 90) rfl))) (ty := (.object "java/util/ArrayList")) (by decide)
  have f7 : Fld Z h1 b1 "java/util/ArrayList$Itr" "lastRet" "I" (.int (0 : Int32)) := D1 (Or.inl (hw _ (List.mem_of_getElem? (i := 93) rfl))) (ty := .int) (by decide)
  have f8 : Fld Z h1 b1 "java/util/ArrayList$Itr" "expectedModCount" "I" (.int (0 : Int32)) := D1 (Or.inl (hw _ (List.mem_of_getElem? (i := 97) rfl))) (ty := .int) (by decide)
  have f9 : Fld Z h1 b1 "java/util/ArrayList$Itr" "cursor" "I" (.int (0 : Int32)) := D1 (Or.inl (hw _ (List.mem_of_getElem? (i := 108) rfl))) (ty := .int) (by decide)
  have pre10 : ∀ tq, Steps p.tables e below (T1.setTop (mkF m 5 #[.val (.ref a1)] [(.ref a1), (.ref b1), (.ref b1)])) tq → Steps p.tables e below (s₁.setTop (entryFrame m #[(.ref a1)] 1)) tq := by
    refine fun tq kq => pre3 tq ?_
    show Steps p.tables e below (T1.setTop (mkF m 3 #[.val (.ref a1)] [(.ref b1)])) _
    refine XS.dup X1.here hx rfl (hb hby d11_3) rfl rfl ?_
    show Steps p.tables e below (T1.setTop (mkF m 4 #[.val (.ref a1)] [(.ref b1), (.ref b1)])) _
    refine XS.aloadN X1.here hx rfl (hb hby d11_4) rfl rfl ?_
    exact kq
  have Z11 : n0 ≤ h1.size := (Nat.le_trans Z0 E1.1)
  obtain ⟨_, _, ⟨T11, L11, k11, n11⟩, -, X11, ⟨Lc11, hQ11, l11, y11, z11⟩, st11⟩ := X1.specialBack hx (y := (⟨"java/util/ArrayList$Itr", "<init>", "(Ljava/util/ArrayList;)V"⟩ : MethodName)) rfl hown (mvT hZ (hw _ (List.mem_of_getElem? (i := 85) rfl))) (mvT hZ (hw _ (List.mem_of_getElem? (i := 86) rfl))) (mvT hZ (hw _ (List.mem_of_getElem? (i := 88) rfl))) (by decide) (backOf (W := 1) (rm12 l Z a0 hw [] b1 a1 w1 h1 n0 Z11 A1 f6 f9 f7 f8 g_b1 f5 (Ne.symm ne2)) hZ (hw _ (List.mem_of_getElem? (i := 88) rfl)) (hw _ (List.mem_of_getElem? (i := 84) rfl)) (by decide) (by decide)) (g := (mkF m 5 #[.val (.ref a1)] [(.ref a1), (.ref b1), (.ref b1)])) rfl (by rw [hml]; rfl) (Steps.refl _) (a := b1) (argsL := [(.ref a1)]) (rest := [(.ref b1)]) (lenOf pd11_0 rfl) rfl (by show 2 * 0 + _ ≤ _; exact Nat.le_of_eq rfl) (hb hby d11_5) (fun _ _ => ⟨rfl, e1, (by decide : (0 + 1) + 0 ≤ _), (by decide : (0 + 4) + 0 ≤ _)⟩)
  dsimp only [Pt.U, Pt.locs, Pt.cells, Pt.slots] at X11 l11 y11 z11 st11 hQ11
  subst l11 y11 z11
  obtain ⟨rfl, Nq11, Kq11, f12, f13, hq11⟩ := hQ11
  have N11 := Fr.app N0 Nq11
  have pre14 : ∀ tq, Steps p.tables e below (T11.setTop (mkF m 8 #[.val (.ref a1)] [(.ref b1)])) tq → Steps p.tables e below (s₁.setTop (entryFrame m #[(.ref a1)] 1)) tq := fun tq kq => pre10 tq (st11.trans kq)
  have K11 : Keep h0 T11.heap [] := Keep.trans K1 Kq11 (allS (Or.inr sz_b1) all0)
  have f15 := f4.keep Kq11
  have f16 := f5.keep Kq11 (by simp only [List.mem_cons, List.not_mem_nil, or_false, not_or]; exact ne2)
  have f17 := A1.keep Kq11
  obtain ⟨fs, hr, hrun, hended, hW, hsame⟩ := X11.leave (v := some (.ref b1)) (fun h => by rw [Bd.returns] at h; cases h)
  refine ⟨_, _, pre14 _ ?_, hrun, hended, _, _, rfl, ?_, ⟨_, rfl⟩, hW, hsame.mono (by decide) (by decide)⟩
  · skip
    show Steps p.tables e below (T11.setTop (mkF m 8 #[.val (.ref a1)] [(.ref b1)])) _
    exact X11.areturnOut hx rfl Bd.returns rfl (hb hby d11_8) hr
  · show Q11 Z a1 w1 h0 n0 _ T11.heap _
    refine ⟨b1, rfl, N11, K11, f17, f12, f13, sz_b1, ?_⟩
    trivial
/-! body 13 -/
theorem d13_0 : decode jdk_49_method_2_code 0 = .ok (.aload_n 0, 1) := by decide +kernel
theorem d13_1 : decode jdk_49_method_2_code 1 = .ok (.getfield 25, 3) := by decide +kernel
theorem d13_4 : decode jdk_49_method_2_code 4 = .ok (.aload_n 0, 1) := by decide +kernel
theorem d13_5 : decode jdk_49_method_2_code 5 = .ok (.getfield 1, 3) := by decide +kernel
theorem d13_8 : decode jdk_49_method_2_code 8 = .ok (.getfield 28, 3) := by decide +kernel
theorem d13_11 : decode jdk_49_method_2_code 11 = .ok (.if_icmp .eq 7, 3) := by decide +kernel
theorem d13_18 : decode jdk_49_method_2_code 18 = .ok (.iconst 0, 1) := by decide +kernel
theorem d13_19 : decode jdk_49_method_2_code 19 = .ok (.ireturn, 1) := by decide +kernel
theorem pn_13 : plainName "java/util/ArrayList$Itr" = true := by first | (simp [plainName, overriddenIn]; done) | decide +kernel
theorem ef_13 (m : MethodId) (a1 : Addr) : entryFrame m #[(.ref a1)] 1 = mkF m 0 #[.val (.ref a1)] [] := by first | (simp [entryFrame, mkF, argsToLocals, Value.category]; done) | rfl
def Q13 (Z : State) (a1 : Addr) (al : Addr) (h0 : Heap) (n0 : Nat) (v : Option Value) (h : Heap) (L : List Loc) : Prop := ∃ r : Int32, v = some (.int r) ∧ Fr n0 L ∧ h = h0 ∧ (r = (0 : Int32))
set_option maxRecDepth 65536 in
set_option maxHeartbeats 40000000 in
theorem rm13 (l : Launch) (Z : State) (a0 : Array Value) (hw : ∀ d ∈ tables_1, d.before a0 Z = true) (ws : List Jvm.Cond) (a1 : Addr) (al : Addr) (h0 : Heap) (n0 : Nat) (Z0 : n0 ≤ h0.size) (F_cursor_a1 : Fld Z h0 a1 "java/util/ArrayList$Itr" "cursor" "I" (.int (0 : Int32))) (F_this_0_a1 : Fld Z h0 a1 "java/util/ArrayList$Itr" "this$0" "Ljava/util/ArrayList;" (.ref al)) (F_size_al : Fld Z h0 al "java/util/ArrayList" "size" "I" (.int (0 : Int32))) :
    MetFree l (⟨"java/util/ArrayList$Itr", "hasNext", "()Z"⟩ : MethodName) (head1 (Jvm.Cond.code (⟨"java/util/ArrayList$Itr", "hasNext", "()Z"⟩ : MethodName) jdk_49_method_2_code 1 (some .boolean) :: ws) ({ frames := 0, cells := 0, slots := 0, locals := 0 } : Room)) (fun a U => a = #[(.ref a1)] ∧ Z.Warmed39 U.vm ∧ U.heap = h0) (fun _ _ _ _ _ => True) (fun _ U o U' => ∃ v L, o = .returned v ∧ Q13 Z a1 al h0 n0 v U'.heap L ∧ FrameEnd U o U' L ({ frames := 0, cells := 0, slots := 0, locals := 0 } : Room).cells ({ frames := 0, cells := 0, slots := 0, locals := 0 } : Room).slots) := by
  refine MetFree.of_bodySF (plainFor_of_name pn_13) hisR ?_
  intro p e s m args below meth c s₁ Bd hml0 hP hK
  obtain ⟨rfl, hZ, hh⟩ := hP
  have hx := Bd.exec
  have hby := Bd.bytes
  have hml : c.maxLocals = 1 := hml0
  have hown : s.vm.findClass "java/util/ArrayList$Itr" = some m.cls := findClass_of_methodNamed Bd.named
  have hnm := (name_of_methodNamed Bd.named Bd.method).1
  have X0 : Stand p l e ({ frames := 0, cells := 0, slots := 0, locals := 0 } : Room) s m #[(.ref a1)] below meth c s₁ [] 0 0 := Stand.of_body Bd
  have e0 : s₁.heap = h0 := by rw [← hh, Bd.state]; rfl
  have N0 := Fr.nil n0
  have pre0 : ∀ tq, Steps p.tables e below (s₁.setTop (mkF m 0 #[.val (.ref a1)] [])) tq → Steps p.tables e below (s₁.setTop (entryFrame m #[(.ref a1)] 1)) tq := fun tq kq => castTop (ef_13 m a1) kq
  have pre1 : ∀ tq, Steps p.tables e below (s₁.setTop (mkF m 1 #[.val (.ref a1)] [(.ref a1)])) tq → Steps p.tables e below (s₁.setTop (entryFrame m #[(.ref a1)] 1)) tq := by
    refine fun tq kq => pre0 tq ?_
    show Steps p.tables e below (s₁.setTop (mkF m 0 #[.val (.ref a1)] [])) _
    refine XS.aloadN X0.here hx rfl (hb hby d13_0) rfl rfl ?_
    exact kq
  obtain ⟨T2, X2, e2, st2⟩ := getF X0 hx hZ hown (host := "") (Or.inl (hw _ (List.mem_of_getElem? (i := 107) rfl))) Via.refl e0 F_cursor_a1 (g := (mkF m 1 #[.val (.ref a1)] [(.ref a1)])) rfl rfl (hb hby d13_1)
  have pre3 : ∀ tq, Steps p.tables e below (T2.setTop (mkF m 4 #[.val (.ref a1)] [(.int (0 : Int32))])) tq → Steps p.tables e below (s₁.setTop (entryFrame m #[(.ref a1)] 1)) tq := fun tq kq => pre1 tq (st2 _ kq)
  have pre4 : ∀ tq, Steps p.tables e below (T2.setTop (mkF m 5 #[.val (.ref a1)] [(.ref a1), (.int (0 : Int32))])) tq → Steps p.tables e below (s₁.setTop (entryFrame m #[(.ref a1)] 1)) tq := by
    refine fun tq kq => pre3 tq ?_
    show Steps p.tables e below (T2.setTop (mkF m 4 #[.val (.ref a1)] [(.int (0 : Int32))])) _
    refine XS.aloadN X2.here hx rfl (hb hby d13_4) rfl rfl ?_
    exact kq
  obtain ⟨T5, X5, e5, st5⟩ := getF X2 hx hZ hown (host := "") (Or.inl (hw _ (List.mem_of_getElem? (i := 89) rfl))) Via.refl e2 F_this_0_a1 (g := (mkF m 5 #[.val (.ref a1)] [(.ref a1), (.int (0 : Int32))])) rfl rfl (hb hby d13_5)
  have pre6 : ∀ tq, Steps p.tables e below (T5.setTop (mkF m 8 #[.val (.ref a1)] [(.ref al), (.int (0 : Int32))])) tq → Steps p.tables e below (s₁.setTop (entryFrame m #[(.ref a1)] 1)) tq := fun tq kq => pre4 tq (st5 _ kq)
  obtain ⟨T7, X7, e7, st7⟩ := getF X5 hx hZ hown (Or.inr (hw _ (List.mem_of_getElem? (i := 109) rfl))) Via.refl e5 F_size_al (g := (mkF m 8 #[.val (.ref a1)] [(.ref al), (.int (0 : Int32))])) rfl rfl (hb hby d13_8)
  have pre8 : ∀ tq, Steps p.tables e below (T7.setTop (mkF m 11 #[.val (.ref a1)] [(.int (0 : Int32)), (.int (0 : Int32))])) tq → Steps p.tables e below (s₁.setTop (entryFrame m #[(.ref a1)] 1)) tq := fun tq kq => pre6 tq (st7 _ kq)
  have pre9 : ∀ tq, Steps p.tables e below (T7.setTop (mkF m 18 #[.val (.ref a1)] [])) tq → Steps p.tables e below (s₁.setTop (entryFrame m #[(.ref a1)] 1)) tq := by
    refine fun tq kq => pre8 tq ?_
    show Steps p.tables e below (T7.setTop (mkF m 11 #[.val (.ref a1)] [(.int (0 : Int32)), (.int (0 : Int32))])) _
    refine XS.icmpYes X7.here hx rfl (pc0 := 11) (pc' := 18) rfl (hb hby d13_11) rfl (teq (by decide : (0 : Int32) = (0 : Int32))).1 (by decide) (by decide) ?_
    exact kq
  obtain ⟨fs, hr, hrun, hended, hW, hsame⟩ := X7.leave (v := some (.int (0 : Int32))) (fun h => by rw [Bd.returns] at h; cases h)
  refine ⟨_, _, pre9 _ ?_, hrun, hended, _, _, rfl, ?_, ⟨_, rfl⟩, hW, hsame.mono (by decide) (by decide)⟩
  · skip
    show Steps p.tables e below (T7.setTop (mkF m 18 #[.val (.ref a1)] [])) _
    refine XS.iconst X7.here hx rfl (hb hby d13_18) ?_
    show Steps p.tables e below (T7.setTop (mkF m 19 #[.val (.ref a1)] [(.int (0 : Int32))])) _
    exact retN X7 hx (t := .boolean) Bd.returns (by simp) (hb hby d13_19) hr
  · show Q13 Z a1 al h0 n0 _ T7.heap _
    rw [e7]
    exact ⟨(0 : Int32), rfl, N0, rfl, rfl⟩
/-! body 14 -/
theorem d14_0 : decode jdk_38_method_40_code 0 = .ok (.aload_n 0, 1) := by decide +kernel
theorem d14_1 : decode jdk_38_method_40_code 1 = .ok (.dup, 1) := by decide +kernel
theorem d14_2 : decode jdk_38_method_40_code 2 = .ok (.getfield 63, 3) := by decide +kernel
theorem d14_5 : decode jdk_38_method_40_code 5 = .ok (.iconst 1, 1) := by decide +kernel
theorem d14_6 : decode jdk_38_method_40_code 6 = .ok (.iadd, 1) := by decide +kernel
theorem d14_7 : decode jdk_38_method_40_code 7 = .ok (.putfield 63, 3) := by decide +kernel
theorem d14_10 : decode jdk_38_method_40_code 10 = .ok (.aload_n 0, 1) := by decide +kernel
theorem d14_11 : decode jdk_38_method_40_code 11 = .ok (.getfield 9, 3) := by decide +kernel
theorem d14_14 : decode jdk_38_method_40_code 14 = .ok (.astore_n 1, 1) := by decide +kernel
theorem d14_15 : decode jdk_38_method_40_code 15 = .ok (.aload_n 0, 1) := by decide +kernel
theorem d14_16 : decode jdk_38_method_40_code 16 = .ok (.getfield 48, 3) := by decide +kernel
theorem d14_19 : decode jdk_38_method_40_code 19 = .ok (.istore_n 2, 1) := by decide +kernel
theorem d14_20 : decode jdk_38_method_40_code 20 = .ok (.aload_n 0, 1) := by decide +kernel
theorem d14_21 : decode jdk_38_method_40_code 21 = .ok (.iconst 0, 1) := by decide +kernel
theorem d14_22 : decode jdk_38_method_40_code 22 = .ok (.dup_x1, 1) := by decide +kernel
theorem d14_23 : decode jdk_38_method_40_code 23 = .ok (.putfield 48, 3) := by decide +kernel
theorem d14_26 : decode jdk_38_method_40_code 26 = .ok (.istore_n 3, 1) := by decide +kernel
theorem d14_27 : decode jdk_38_method_40_code 27 = .ok (.iload_n 3, 1) := by decide +kernel
theorem d14_28 : decode jdk_38_method_40_code 28 = .ok (.iload_n 2, 1) := by decide +kernel
theorem d14_29 : decode jdk_38_method_40_code 29 = .ok (.if_icmp .ge 13, 3) := by decide +kernel
theorem d14_42 : decode jdk_38_method_40_code 42 = .ok (.return_, 1) := by decide +kernel
theorem pn_14 : plainName "java/util/ArrayList" = true := by first | (simp [plainName, overriddenIn]; done) | decide +kernel
theorem ef_14 (m : MethodId) (a1 : Addr) : entryFrame m #[(.ref a1)] 4 = mkF m 0 #[.val (.ref a1), .unset, .unset, .unset] [] := by first | (simp [entryFrame, mkF, argsToLocals, Value.category]; done) | rfl
def Q14 (Z : State) (a1 : Addr) (sD : Addr) (w1 : Int32) (h0 : Heap) (n0 : Nat) (v : Option Value) (h : Heap) (L : List Loc) : Prop := v = none ∧ Fr n0 L ∧ Keep h0 h [a1] ∧ (True)
set_option maxRecDepth 65536 in
set_option maxHeartbeats 40000000 in
theorem rm14 (l : Launch) (Z : State) (a0 : Array Value) (hw : ∀ d ∈ tables_1, d.before a0 Z = true) (ws : List Jvm.Cond) (a1 : Addr) (sD : Addr) (w1 : Int32) (h0 : Heap) (n0 : Nat) (Z0 : n0 ≤ h0.size) (E_a1 : Exa Z h0 a1 "java/util/ArrayList") (F_modCount_a1 : Fld Z h0 a1 "java/util/AbstractList" "modCount" "I" (.int w1)) (F_elementData_a1 : Fld Z h0 a1 "java/util/ArrayList" "elementData" "[Ljava/lang/Object;" (.ref sD)) (F_size_a1 : Fld Z h0 a1 "java/util/ArrayList" "size" "I" (.int (0 : Int32))) (g_a1 : n0 ≤ a1) :
    MetFree l (⟨"java/util/ArrayList", "clear", "()V"⟩ : MethodName) (head1 (Jvm.Cond.code (⟨"java/util/ArrayList", "clear", "()V"⟩ : MethodName) jdk_38_method_40_code 4 none :: ws) ({ frames := 0, cells := 0, slots := 0, locals := 0 } : Room)) (fun a U => a = #[(.ref a1)] ∧ Z.Warmed39 U.vm ∧ U.heap = h0) (fun _ _ _ _ _ => True) (fun _ U o U' => ∃ v L, o = .returned v ∧ Q14 Z a1 sD w1 h0 n0 v U'.heap L ∧ FrameEnd U o U' L ({ frames := 0, cells := 0, slots := 0, locals := 0 } : Room).cells ({ frames := 0, cells := 0, slots := 0, locals := 0 } : Room).slots) := by
  refine MetFree.of_bodySF (plainFor_of_name pn_14) hisR ?_
  intro p e s m args below meth c s₁ Bd hml0 hP hK
  obtain ⟨rfl, hZ, hh⟩ := hP
  have hx := Bd.exec
  have hby := Bd.bytes
  have hml : c.maxLocals = 4 := hml0
  have hown : s.vm.findClass "java/util/ArrayList" = some m.cls := findClass_of_methodNamed Bd.named
  have hnm := (name_of_methodNamed Bd.named Bd.method).1
  have X0 : Stand p l e ({ frames := 0, cells := 0, slots := 0, locals := 0 } : Room) s m #[(.ref a1)] below meth c s₁ [] 0 0 := Stand.of_body Bd
  have e0 : s₁.heap = h0 := by rw [← hh, Bd.state]; rfl
  have N0 := Fr.nil n0
  have pre0 : ∀ tq, Steps p.tables e below (s₁.setTop (mkF m 0 #[.val (.ref a1), .unset, .unset, .unset] [])) tq → Steps p.tables e below (s₁.setTop (entryFrame m #[(.ref a1)] 4)) tq := fun tq kq => castTop (ef_14 m a1) kq
  have pre1 : ∀ tq, Steps p.tables e below (s₁.setTop (mkF m 2 #[.val (.ref a1), .unset, .unset, .unset] [(.ref a1), (.ref a1)])) tq → Steps p.tables e below (s₁.setTop (entryFrame m #[(.ref a1)] 4)) tq := by
    refine fun tq kq => pre0 tq ?_
    show Steps p.tables e below (s₁.setTop (mkF m 0 #[.val (.ref a1), .unset, .unset, .unset] [])) _
    refine XS.aloadN X0.here hx rfl (hb hby d14_0) rfl rfl ?_
    show Steps p.tables e below (s₁.setTop (mkF m 1 #[.val (.ref a1), .unset, .unset, .unset] [(.ref a1)])) _
    refine XS.dup X0.here hx rfl (hb hby d14_1) rfl rfl ?_
    exact kq
  obtain ⟨T2, X2, e2, st2⟩ := getF X0 hx hZ hown (host := "") (Or.inl (hw _ (List.mem_of_getElem? (i := 119) rfl))) (Via.of (hw _ (List.mem_of_getElem? (i := 95) rfl))) e0 F_modCount_a1 (g := (mkF m 2 #[.val (.ref a1), .unset, .unset, .unset] [(.ref a1), (.ref a1)])) rfl rfl (hb hby d14_2)
  have pre3 : ∀ tq, Steps p.tables e below (T2.setTop (mkF m 5 #[.val (.ref a1), .unset, .unset, .unset] [(.int w1), (.ref a1)])) tq → Steps p.tables e below (s₁.setTop (entryFrame m #[(.ref a1)] 4)) tq := fun tq kq => pre1 tq (st2 _ kq)
  have pre4 : ∀ tq, Steps p.tables e below (T2.setTop (mkF m 7 #[.val (.ref a1), .unset, .unset, .unset] [(.int (w1 + (1 : Int32))), (.ref a1)])) tq → Steps p.tables e below (s₁.setTop (entryFrame m #[(.ref a1)] 4)) tq := by
    refine fun tq kq => pre3 tq ?_
    show Steps p.tables e below (T2.setTop (mkF m 5 #[.val (.ref a1), .unset, .unset, .unset] [(.int w1), (.ref a1)])) _
    refine XS.iconst X2.here hx rfl (hb hby d14_5) ?_
    show Steps p.tables e below (T2.setTop (mkF m 6 #[.val (.ref a1), .unset, .unset, .unset] [(.int (1 : Int32)), (.int w1), (.ref a1)])) _
    refine XS.iadd X2.here hx rfl (hb hby d14_6) rfl ?_
    exact kq
  obtain ⟨T5, h5, X5, e5, W5, st5⟩ := putF X2 hx hZ hown (host := "") (Or.inl (hw _ (List.mem_of_getElem? (i := 119) rfl))) (Via.of (hw _ (List.mem_of_getElem? (i := 95) rfl))) e2 F_modCount_a1 E_a1 (Or.inl (hw _ (List.mem_of_getElem? (i := 29) rfl))) (hw _ (List.mem_of_getElem? (i := 10) rfl)) (ty := .int) (by decide) rfl rfl (g := (mkF m 7 #[.val (.ref a1), .unset, .unset, .unset] [(.int (w1 + (1 : Int32))), (.ref a1)])) rfl rfl (hb hby d14_7)
  have pre6 : ∀ tq, Steps p.tables e below (T5.setTop (mkF m 10 #[.val (.ref a1), .unset, .unset, .unset] [])) tq → Steps p.tables e below (s₁.setTop (entryFrame m #[(.ref a1)] 4)) tq := fun tq kq => pre4 tq (st5 _ kq)
  have N5 := Fr.snoc X5 N0 g_a1
  have K5 : Keep h0 h5 [a1] := Keep.wr (Keep.refl h0 [a1]) W5 (Or.inl (List.mem_of_getElem? (i := 0) rfl))
  have f7 := E_a1.wr W5
  have f8 := F_elementData_a1.other W5 (Or.inr (slot_ne (Or.inl (hw _ (List.mem_of_getElem? (i := 32) rfl))) (Or.inl (hw _ (List.mem_of_getElem? (i := 29) rfl))) (by decide) (t := (.array (.object "java/lang/Object"))) (t' := .int) (by decide) (by decide)))
  have f9 := F_size_a1.other W5 (Or.inr (slot_ne (Or.inl (hw _ (List.mem_of_getElem? (i := 73) rfl))) (Or.inl (hw _ (List.mem_of_getElem? (i := 29) rfl))) (by decide) (t := .int) (t' := .int) (by decide) (by decide)))
  have f10 := F_modCount_a1.same W5
  have pre11 : ∀ tq, Steps p.tables e below (T5.setTop (mkF m 11 #[.val (.ref a1), .unset, .unset, .unset] [(.ref a1)])) tq → Steps p.tables e below (s₁.setTop (entryFrame m #[(.ref a1)] 4)) tq := by
    refine fun tq kq => pre6 tq ?_
    show Steps p.tables e below (T5.setTop (mkF m 10 #[.val (.ref a1), .unset, .unset, .unset] [])) _
    refine XS.aloadN X5.here hx rfl (hb hby d14_10) rfl rfl ?_
    exact kq
  obtain ⟨T12, X12, e12, st12⟩ := getF X5 hx hZ hown (host := "") (Or.inl (hw _ (List.mem_of_getElem? (i := 31) rfl))) Via.refl e5 f8 (g := (mkF m 11 #[.val (.ref a1), .unset, .unset, .unset] [(.ref a1)])) rfl rfl (hb hby d14_11)
  have pre13 : ∀ tq, Steps p.tables e below (T12.setTop (mkF m 14 #[.val (.ref a1), .unset, .unset, .unset] [(.ref sD)])) tq → Steps p.tables e below (s₁.setTop (entryFrame m #[(.ref a1)] 4)) tq := fun tq kq => pre11 tq (st12 _ kq)
  have pre14 : ∀ tq, Steps p.tables e below (T12.setTop (mkF m 16 #[.val (.ref a1), .val (.ref sD), .unset, .unset] [(.ref a1)])) tq → Steps p.tables e below (s₁.setTop (entryFrame m #[(.ref a1)] 4)) tq := by
    refine fun tq kq => pre13 tq ?_
    show Steps p.tables e below (T12.setTop (mkF m 14 #[.val (.ref a1), .unset, .unset, .unset] [(.ref sD)])) _
    refine XS.astoreN X12.here hx rfl (hb hby d14_14) rfl rfl (l' := #[.val (.ref a1), .val (.ref sD), .unset, .unset]) rfl ?_
    show Steps p.tables e below (T12.setTop (mkF m 15 #[.val (.ref a1), .val (.ref sD), .unset, .unset] [])) _
    refine XS.aloadN X12.here hx rfl (hb hby d14_15) rfl rfl ?_
    exact kq
  obtain ⟨T15, X15, e15, st15⟩ := getF X12 hx hZ hown (host := "") (Or.inl (hw _ (List.mem_of_getElem? (i := 72) rfl))) Via.refl e12 f9 (g := (mkF m 16 #[.val (.ref a1), .val (.ref sD), .unset, .unset] [(.ref a1)])) rfl rfl (hb hby d14_16)
  have pre16 : ∀ tq, Steps p.tables e below (T15.setTop (mkF m 19 #[.val (.ref a1), .val (.ref sD), .unset, .unset] [(.int (0 : Int32))])) tq → Steps p.tables e below (s₁.setTop (entryFrame m #[(.ref a1)] 4)) tq := fun tq kq => pre14 tq (st15 _ kq)
  have pre17 : ∀ tq, Steps p.tables e below (T15.setTop (mkF m 23 #[.val (.ref a1), .val (.ref sD), .val (.int (0 : Int32)), .unset] [(.int (0 : Int32)), (.ref a1), (.int (0 : Int32))])) tq → Steps p.tables e below (s₁.setTop (entryFrame m #[(.ref a1)] 4)) tq := by
    refine fun tq kq => pre16 tq ?_
    show Steps p.tables e below (T15.setTop (mkF m 19 #[.val (.ref a1), .val (.ref sD), .unset, .unset] [(.int (0 : Int32))])) _
    refine XS.istoreN X15.here hx rfl (hb hby d14_19) rfl (l' := #[.val (.ref a1), .val (.ref sD), .val (.int (0 : Int32)), .unset]) rfl ?_
    show Steps p.tables e below (T15.setTop (mkF m 20 #[.val (.ref a1), .val (.ref sD), .val (.int (0 : Int32)), .unset] [])) _
    refine XS.aloadN X15.here hx rfl (hb hby d14_20) rfl rfl ?_
    show Steps p.tables e below (T15.setTop (mkF m 21 #[.val (.ref a1), .val (.ref sD), .val (.int (0 : Int32)), .unset] [(.ref a1)])) _
    refine XS.iconst X15.here hx rfl (hb hby d14_21) ?_
    show Steps p.tables e below (T15.setTop (mkF m 22 #[.val (.ref a1), .val (.ref sD), .val (.int (0 : Int32)), .unset] [(.int (0 : Int32)), (.ref a1)])) _
    refine XS.dupX1 X15.here hx rfl (hb hby d14_22) rfl rfl rfl ?_
    exact kq
  obtain ⟨T18, h18, X18, e18, W18, st18⟩ := putF X15 hx hZ hown (host := "") (Or.inl (hw _ (List.mem_of_getElem? (i := 72) rfl))) Via.refl e15 f9 f7 (Or.inl (hw _ (List.mem_of_getElem? (i := 73) rfl))) (hw _ (List.mem_of_getElem? (i := 10) rfl)) (ty := .int) (by decide) rfl rfl (g := (mkF m 23 #[.val (.ref a1), .val (.ref sD), .val (.int (0 : Int32)), .unset] [(.int (0 : Int32)), (.ref a1), (.int (0 : Int32))])) rfl rfl (hb hby d14_23)
  have pre19 : ∀ tq, Steps p.tables e below (T18.setTop (mkF m 26 #[.val (.ref a1), .val (.ref sD), .val (.int (0 : Int32)), .unset] [(.int (0 : Int32))])) tq → Steps p.tables e below (s₁.setTop (entryFrame m #[(.ref a1)] 4)) tq := fun tq kq => pre17 tq (st18 _ kq)
  have N18 := Fr.snoc X18 N5 g_a1
  have K18 : Keep h0 h18 [a1] := Keep.wr K5 W18 (Or.inl (List.mem_of_getElem? (i := 0) rfl))
  have f20 := f7.wr W18
  have f21 := f8.other W18 (Or.inr (slot_ne (Or.inl (hw _ (List.mem_of_getElem? (i := 32) rfl))) (Or.inl (hw _ (List.mem_of_getElem? (i := 73) rfl))) (by decide) (t := (.array (.object "java/lang/Object"))) (t' := .int) (by decide) (by decide)))
  have f22 := f10.other W18 (Or.inr (slot_ne (Or.inl (hw _ (List.mem_of_getElem? (i := 29) rfl))) (Or.inl (hw _ (List.mem_of_getElem? (i := 73) rfl))) (by decide) (t := .int) (t' := .int) (by decide) (by decide)))
  have f23 := f9.same W18
  have pre24 : ∀ tq, Steps p.tables e below (T18.setTop (mkF m 42 #[.val (.ref a1), .val (.ref sD), .val (.int (0 : Int32)), .val (.int (0 : Int32))] [])) tq → Steps p.tables e below (s₁.setTop (entryFrame m #[(.ref a1)] 4)) tq := by
    refine fun tq kq => pre19 tq ?_
    show Steps p.tables e below (T18.setTop (mkF m 26 #[.val (.ref a1), .val (.ref sD), .val (.int (0 : Int32)), .unset] [(.int (0 : Int32))])) _
    refine XS.istoreN X18.here hx rfl (hb hby d14_26) rfl (l' := #[.val (.ref a1), .val (.ref sD), .val (.int (0 : Int32)), .val (.int (0 : Int32))]) rfl ?_
    show Steps p.tables e below (T18.setTop (mkF m 27 #[.val (.ref a1), .val (.ref sD), .val (.int (0 : Int32)), .val (.int (0 : Int32))] [])) _
    refine XS.iloadN X18.here hx rfl (hb hby d14_27) rfl ?_
    show Steps p.tables e below (T18.setTop (mkF m 28 #[.val (.ref a1), .val (.ref sD), .val (.int (0 : Int32)), .val (.int (0 : Int32))] [(.int (0 : Int32))])) _
    refine XS.iloadN X18.here hx rfl (hb hby d14_28) rfl ?_
    show Steps p.tables e below (T18.setTop (mkF m 29 #[.val (.ref a1), .val (.ref sD), .val (.int (0 : Int32)), .val (.int (0 : Int32))] [(.int (0 : Int32)), (.int (0 : Int32))])) _
    refine XS.icmpYes X18.here hx rfl (pc0 := 29) (pc' := 42) rfl (hb hby d14_29) rfl (flt (by decide : ¬ ((0 : Int32) < (0 : Int32)))).2.1 (by decide) (by decide) ?_
    exact kq
  obtain ⟨fs, hr, hrun, hended, hW, hsame⟩ := X18.leave (v := none) (fun _ => rfl)
  refine ⟨_, _, pre24 _ ?_, hrun, hended, _, _, rfl, ?_, ⟨_, rfl⟩, hW, hsame.mono (by decide) (by decide)⟩
  · skip
    show Steps p.tables e below (T18.setTop (mkF m 42 #[.val (.ref a1), .val (.ref sD), .val (.int (0 : Int32)), .val (.int (0 : Int32))] [])) _
    exact X18.returnOut hx Bd.returns (hb hby d14_42) hr
  · show Q14 Z a1 sD w1 h0 n0 _ T18.heap _
    rw [e18]
    refine ⟨rfl, N18, K18, ?_⟩
    trivial
/-! body 15_0 -/
theorem d15_0_0 : decode prog_82_method_2_code 0 = .ok (.aload_n 0, 1) := by decide +kernel
theorem d15_0_1 : decode prog_82_method_2_code 1 = .ok (.getfield 21, 3) := by decide +kernel
theorem d15_0_4 : decode prog_82_method_2_code 4 = .ok (.ldc 16, 2) := by decide +kernel
theorem d15_0_6 : decode prog_82_method_2_code 6 = .ok (.if_icmp .ne 30, 3) := by decide +kernel
theorem d15_0_36 : decode prog_82_method_2_code 36 = .ok (.aload_n 0, 1) := by decide +kernel
theorem d15_0_37 : decode prog_82_method_2_code 37 = .ok (.getfield 17, 3) := by decide +kernel
theorem d15_0_40 : decode prog_82_method_2_code 40 = .ok (.aload_n 0, 1) := by decide +kernel
theorem d15_0_41 : decode prog_82_method_2_code 41 = .ok (.getfield 21, 3) := by decide +kernel
theorem d15_0_44 : decode prog_82_method_2_code 44 = .ok (.dload_n 1, 1) := by decide +kernel
theorem d15_0_45 : decode prog_82_method_2_code 45 = .ok (.dastore, 1) := by decide +kernel
theorem d15_0_46 : decode prog_82_method_2_code 46 = .ok (.aload_n 0, 1) := by decide +kernel
theorem d15_0_47 : decode prog_82_method_2_code 47 = .ok (.dup, 1) := by decide +kernel
theorem d15_0_48 : decode prog_82_method_2_code 48 = .ok (.getfield 21, 3) := by decide +kernel
theorem d15_0_51 : decode prog_82_method_2_code 51 = .ok (.iconst 1, 1) := by decide +kernel
theorem d15_0_52 : decode prog_82_method_2_code 52 = .ok (.iadd, 1) := by decide +kernel
theorem d15_0_53 : decode prog_82_method_2_code 53 = .ok (.putfield 21, 3) := by decide +kernel
theorem d15_0_56 : decode prog_82_method_2_code 56 = .ok (.return_, 1) := by decide +kernel
theorem pn_15_0 : plainName "com/example/crisp_haptics/crisphaptics/SampleBlocks" = true := by first | (simp [plainName, overriddenIn]; done) | decide +kernel
theorem ef_15_0 (m : MethodId) (a1 : Addr) (d2 : UInt64) : entryFrame m #[(.ref a1), (.double d2)] 3 = mkF m 0 #[.val (.ref a1), .val (.double d2), .second] [] := by first | (simp [entryFrame, mkF, argsToLocals, Value.category]; done) | rfl
def Q15_0 (Z : State) (a1 : Addr) (d2 : UInt64) (al : Addr) (x : Addr) (k : ClassId) (u0 : UInt64) (u1 : UInt64) (u2 : UInt64) (h0 : Heap) (n0 : Nat) (v : Option Value) (h : Heap) (L : List Loc) : Prop := v = none ∧ Fr n0 L ∧ Keep h0 h [a1, x] ∧ Fld Z h a1 "com/example/crisp_haptics/crisphaptics/SampleBlocks" "inBlock" "I" (.int (1 : Int32)) ∧ Fld Z h a1 "com/example/crisp_haptics/crisphaptics/SampleBlocks" "block" "[D" (.ref x) ∧ Fld Z h a1 "com/example/crisp_haptics/crisphaptics/SampleBlocks" "fullBlocks" "Ljava/util/List;" (.ref al) ∧ Arv Z h x k .double (32768 : Int32) [(.double d2), (.double u1), (.double u2)] (.double 0) ∧ (True)
set_option maxRecDepth 65536 in
set_option maxHeartbeats 40000000 in
theorem rm15_0 (l : Launch) (Z : State) (a0 : Array Value) (hw : ∀ d ∈ tables_1, d.before a0 Z = true) (ws : List Jvm.Cond) (a1 : Addr) (d2 : UInt64) (al : Addr) (x : Addr) (k : ClassId) (u0 : UInt64) (u1 : UInt64) (u2 : UInt64) (h0 : Heap) (n0 : Nat) (Z0 : n0 ≤ h0.size) (E_a1 : Exa Z h0 a1 "com/example/crisp_haptics/crisphaptics/SampleBlocks") (F_inBlock_a1 : Fld Z h0 a1 "com/example/crisp_haptics/crisphaptics/SampleBlocks" "inBlock" "I" (.int (0 : Int32))) (F_block_a1 : Fld Z h0 a1 "com/example/crisp_haptics/crisphaptics/SampleBlocks" "block" "[D" (.ref x)) (F_fullBlocks_a1 : Fld Z h0 a1 "com/example/crisp_haptics/crisphaptics/SampleBlocks" "fullBlocks" "Ljava/util/List;" (.ref al)) (V_x : Arv Z h0 x k .double (32768 : Int32) [(.double u0), (.double u1), (.double u2)] (.double 0)) (g_a1 : n0 ≤ a1) (g_x : n0 ≤ x) (ne_a1_x : a1 ≠ x) :
    MetFree l (⟨"com/example/crisp_haptics/crisphaptics/SampleBlocks", "add", "(D)V"⟩ : MethodName) (head1 (Jvm.Cond.code (⟨"com/example/crisp_haptics/crisphaptics/SampleBlocks", "add", "(D)V"⟩ : MethodName) prog_82_method_2_code 3 none :: ws) ({ frames := 0, cells := 0, slots := 0, locals := 0 } : Room)) (fun a U => a = #[(.ref a1), (.double d2)] ∧ Z.Warmed39 U.vm ∧ U.heap = h0) (fun _ _ _ _ _ => True) (fun _ U o U' => ∃ v L, o = .returned v ∧ Q15_0 Z a1 d2 al x k u0 u1 u2 h0 n0 v U'.heap L ∧ FrameEnd U o U' L ({ frames := 0, cells := 0, slots := 0, locals := 0 } : Room).cells ({ frames := 0, cells := 0, slots := 0, locals := 0 } : Room).slots) := by
  refine MetFree.of_bodySF (plainFor_of_name pn_15_0) hisR ?_
  intro p e s m args below meth c s₁ Bd hml0 hP hK
  obtain ⟨rfl, hZ, hh⟩ := hP
  have hx := Bd.exec
  have hby := Bd.bytes
  have hml : c.maxLocals = 3 := hml0
  have hown : s.vm.findClass "com/example/crisp_haptics/crisphaptics/SampleBlocks" = some m.cls := findClass_of_methodNamed Bd.named
  have hnm := (name_of_methodNamed Bd.named Bd.method).1
  have X0 : Stand p l e ({ frames := 0, cells := 0, slots := 0, locals := 0 } : Room) s m #[(.ref a1), (.double d2)] below meth c s₁ [] 0 0 := Stand.of_body Bd
  have e0 : s₁.heap = h0 := by rw [← hh, Bd.state]; rfl
  have N0 := Fr.nil n0
  have pre0 : ∀ tq, Steps p.tables e below (s₁.setTop (mkF m 0 #[.val (.ref a1), .val (.double d2), .second] [])) tq → Steps p.tables e below (s₁.setTop (entryFrame m #[(.ref a1), (.double d2)] 3)) tq := fun tq kq => castTop (ef_15_0 m a1 d2) kq
  have pre1 : ∀ tq, Steps p.tables e below (s₁.setTop (mkF m 1 #[.val (.ref a1), .val (.double d2), .second] [(.ref a1)])) tq → Steps p.tables e below (s₁.setTop (entryFrame m #[(.ref a1), (.double d2)] 3)) tq := by
    refine fun tq kq => pre0 tq ?_
    show Steps p.tables e below (s₁.setTop (mkF m 0 #[.val (.ref a1), .val (.double d2), .second] [])) _
    refine XS.aloadN X0.here hx rfl (hb hby d15_0_0) rfl rfl ?_
    exact kq
  obtain ⟨T2, X2, e2, st2⟩ := getF X0 hx hZ hown (host := "") (Or.inl (hw _ (List.mem_of_getElem? (i := 44) rfl))) Via.refl e0 F_inBlock_a1 (g := (mkF m 1 #[.val (.ref a1), .val (.double d2), .second] [(.ref a1)])) rfl rfl (hb hby d15_0_1)
  have pre3 : ∀ tq, Steps p.tables e below (T2.setTop (mkF m 4 #[.val (.ref a1), .val (.double d2), .second] [(.int (0 : Int32))])) tq → Steps p.tables e below (s₁.setTop (entryFrame m #[(.ref a1), (.double d2)] 3)) tq := fun tq kq => pre1 tq (st2 _ kq)
  have pre4 : ∀ tq, Steps p.tables e below (T2.setTop (mkF m 36 #[.val (.ref a1), .val (.double d2), .second] [])) tq → Steps p.tables e below (s₁.setTop (entryFrame m #[(.ref a1), (.double d2)] 3)) tq := by
    refine fun tq kq => pre3 tq ?_
    show Steps p.tables e below (T2.setTop (mkF m 4 #[.val (.ref a1), .val (.double d2), .second] [(.int (0 : Int32))])) _
    refine X2.ldcInt hx hown (mvT hZ (hw _ (List.mem_of_getElem? (i := 35) rfl))) (g := (mkF m 4 #[.val (.ref a1), .val (.double d2), .second] [(.int (0 : Int32))])) rfl (hb hby d15_0_4) _ ?_
    show Steps p.tables e below (T2.setTop (mkF m 6 #[.val (.ref a1), .val (.double d2), .second] [(.int (32768 : Int32)), (.int (0 : Int32))])) _
    refine XS.icmpYes X2.here hx rfl (pc0 := 6) (pc' := 36) rfl (hb hby d15_0_6) rfl (feq (by decide : ¬ ((0 : Int32) = (32768 : Int32)))).2 (by decide) (by decide) ?_
    exact kq
  have pre5 : ∀ tq, Steps p.tables e below (T2.setTop (mkF m 37 #[.val (.ref a1), .val (.double d2), .second] [(.ref a1)])) tq → Steps p.tables e below (s₁.setTop (entryFrame m #[(.ref a1), (.double d2)] 3)) tq := by
    refine fun tq kq => pre4 tq ?_
    show Steps p.tables e below (T2.setTop (mkF m 36 #[.val (.ref a1), .val (.double d2), .second] [])) _
    refine XS.aloadN X2.here hx rfl (hb hby d15_0_36) rfl rfl ?_
    exact kq
  obtain ⟨T6, X6, e6, st6⟩ := getF X2 hx hZ hown (host := "") (Or.inl (hw _ (List.mem_of_getElem? (i := 37) rfl))) Via.refl e2 F_block_a1 (g := (mkF m 37 #[.val (.ref a1), .val (.double d2), .second] [(.ref a1)])) rfl rfl (hb hby d15_0_37)
  have pre7 : ∀ tq, Steps p.tables e below (T6.setTop (mkF m 40 #[.val (.ref a1), .val (.double d2), .second] [(.ref x)])) tq → Steps p.tables e below (s₁.setTop (entryFrame m #[(.ref a1), (.double d2)] 3)) tq := fun tq kq => pre5 tq (st6 _ kq)
  have pre8 : ∀ tq, Steps p.tables e below (T6.setTop (mkF m 41 #[.val (.ref a1), .val (.double d2), .second] [(.ref a1), (.ref x)])) tq → Steps p.tables e below (s₁.setTop (entryFrame m #[(.ref a1), (.double d2)] 3)) tq := by
    refine fun tq kq => pre7 tq ?_
    show Steps p.tables e below (T6.setTop (mkF m 40 #[.val (.ref a1), .val (.double d2), .second] [(.ref x)])) _
    refine XS.aloadN X6.here hx rfl (hb hby d15_0_40) rfl rfl ?_
    exact kq
  obtain ⟨T9, X9, e9, st9⟩ := getF X6 hx hZ hown (host := "") (Or.inl (hw _ (List.mem_of_getElem? (i := 44) rfl))) Via.refl e6 F_inBlock_a1 (g := (mkF m 41 #[.val (.ref a1), .val (.double d2), .second] [(.ref a1), (.ref x)])) rfl rfl (hb hby d15_0_41)
  have pre10 : ∀ tq, Steps p.tables e below (T9.setTop (mkF m 44 #[.val (.ref a1), .val (.double d2), .second] [(.int (0 : Int32)), (.ref x)])) tq → Steps p.tables e below (s₁.setTop (entryFrame m #[(.ref a1), (.double d2)] 3)) tq := fun tq kq => pre8 tq (st9 _ kq)
  have pre11 : ∀ tq, Steps p.tables e below (T9.setTop (mkF m 45 #[.val (.ref a1), .val (.double d2), .second] [(.double d2), (.int (0 : Int32)), (.ref x)])) tq → Steps p.tables e below (s₁.setTop (entryFrame m #[(.ref a1), (.double d2)] 3)) tq := by
    refine fun tq kq => pre10 tq ?_
    show Steps p.tables e below (T9.setTop (mkF m 44 #[.val (.ref a1), .val (.double d2), .second] [(.int (0 : Int32)), (.ref x)])) _
    refine XS.dloadN X9.here hx rfl (hb hby d15_0_44) rfl ?_
    exact kq
  have Vc12 := V_x
  obtain ⟨cl12, Ar12, Aq12, As12, An12, Ah12, Ag12⟩ := Vc12
  have hin12 : ¬ ((0 : Int32) < 0 ∨ cl12.slots.size ≤ ((0 : Int32)).toNatClampNeg) := inb_of As12 ⟨by decide, by decide⟩
  obtain ⟨T12, h12, X12, e12, W12, st12⟩ := stD X9 hx hZ e9 Ar12 (j := (0 : Int32)) hin12 (g := (mkF m 45 #[.val (.ref a1), .val (.double d2), .second] [(.double d2), (.int (0 : Int32)), (.ref x)])) rfl rfl (hb hby d15_0_45)
  have pre13 : ∀ tq, Steps p.tables e below (T12.setTop (mkF m 46 #[.val (.ref a1), .val (.double d2), .second] [])) tq → Steps p.tables e below (s₁.setTop (entryFrame m #[(.ref a1), (.double d2)] 3)) tq := fun tq kq => pre11 tq (st12 _ kq)
  have N12 := Fr.snoc X12 N0 g_x
  have K12 : Keep h0 h12 [a1, x] := Keep.wr (Keep.refl h0 [a1, x]) W12 (Or.inl (List.mem_of_getElem? (i := 1) rfl))
  have f14 := E_a1.wr W12
  have f15 := F_inBlock_a1.other W12 (Or.inl ne_a1_x)
  have f16 := F_block_a1.other W12 (Or.inl ne_a1_x)
  have f17 := F_fullBlocks_a1.other W12 (Or.inl ne_a1_x)
  have f18 : Arv Z h12 x k .double (32768 : Int32) [(.double d2), (.double u1), (.double u2)] (.double 0) := Arv.set Ar12 Aq12 As12 An12 Ah12 Ag12 rfl W12 0 rfl (Nat.le_of_ble_eq_true rfl)
  have pre19 : ∀ tq, Steps p.tables e below (T12.setTop (mkF m 48 #[.val (.ref a1), .val (.double d2), .second] [(.ref a1), (.ref a1)])) tq → Steps p.tables e below (s₁.setTop (entryFrame m #[(.ref a1), (.double d2)] 3)) tq := by
    refine fun tq kq => pre13 tq ?_
    show Steps p.tables e below (T12.setTop (mkF m 46 #[.val (.ref a1), .val (.double d2), .second] [])) _
    refine XS.aloadN X12.here hx rfl (hb hby d15_0_46) rfl rfl ?_
    show Steps p.tables e below (T12.setTop (mkF m 47 #[.val (.ref a1), .val (.double d2), .second] [(.ref a1)])) _
    refine XS.dup X12.here hx rfl (hb hby d15_0_47) rfl rfl ?_
    exact kq
  obtain ⟨T20, X20, e20, st20⟩ := getF X12 hx hZ hown (host := "") (Or.inl (hw _ (List.mem_of_getElem? (i := 44) rfl))) Via.refl e12 f15 (g := (mkF m 48 #[.val (.ref a1), .val (.double d2), .second] [(.ref a1), (.ref a1)])) rfl rfl (hb hby d15_0_48)
  have pre21 : ∀ tq, Steps p.tables e below (T20.setTop (mkF m 51 #[.val (.ref a1), .val (.double d2), .second] [(.int (0 : Int32)), (.ref a1)])) tq → Steps p.tables e below (s₁.setTop (entryFrame m #[(.ref a1), (.double d2)] 3)) tq := fun tq kq => pre19 tq (st20 _ kq)
  have pre22 : ∀ tq, Steps p.tables e below (T20.setTop (mkF m 53 #[.val (.ref a1), .val (.double d2), .second] [(.int (1 : Int32)), (.ref a1)])) tq → Steps p.tables e below (s₁.setTop (entryFrame m #[(.ref a1), (.double d2)] 3)) tq := by
    refine fun tq kq => pre21 tq ?_
    show Steps p.tables e below (T20.setTop (mkF m 51 #[.val (.ref a1), .val (.double d2), .second] [(.int (0 : Int32)), (.ref a1)])) _
    refine XS.iconst X20.here hx rfl (hb hby d15_0_51) ?_
    show Steps p.tables e below (T20.setTop (mkF m 52 #[.val (.ref a1), .val (.double d2), .second] [(.int (1 : Int32)), (.int (0 : Int32)), (.ref a1)])) _
    refine XS.iadd X20.here hx rfl (hb hby d15_0_52) rfl ?_
    exact kq
  obtain ⟨T23, h23, X23, e23, W23, st23⟩ := putF X20 hx hZ hown (host := "") (Or.inl (hw _ (List.mem_of_getElem? (i := 44) rfl))) Via.refl e20 f15 f14 (Or.inl (hw _ (List.mem_of_getElem? (i := 45) rfl))) (hw _ (List.mem_of_getElem? (i := 1) rfl)) (ty := .int) (by decide) rfl rfl (g := (mkF m 53 #[.val (.ref a1), .val (.double d2), .second] [(.int (1 : Int32)), (.ref a1)])) rfl rfl (hb hby d15_0_53)
  have pre24 : ∀ tq, Steps p.tables e below (T23.setTop (mkF m 56 #[.val (.ref a1), .val (.double d2), .second] [])) tq → Steps p.tables e below (s₁.setTop (entryFrame m #[(.ref a1), (.double d2)] 3)) tq := fun tq kq => pre22 tq (st23 _ kq)
  have N23 := Fr.snoc X23 N12 g_a1
  have K23 : Keep h0 h23 [a1, x] := Keep.wr K12 W23 (Or.inl (List.mem_of_getElem? (i := 0) rfl))
  have f25 := f14.wr W23
  have f26 := f16.other W23 (Or.inr (slot_ne (Or.inl (hw _ (List.mem_of_getElem? (i := 38) rfl))) (Or.inl (hw _ (List.mem_of_getElem? (i := 45) rfl))) (by decide) (t := (.array .double)) (t' := .int) (by decide) (by decide)))
  have f27 := f17.other W23 (Or.inr (slot_ne (Or.inr (hw _ (List.mem_of_getElem? (i := 34) rfl))) (Or.inl (hw _ (List.mem_of_getElem? (i := 45) rfl))) (by decide) (t := (.object "java/util/List")) (t' := .int) (by decide) (by decide)))
  have f28 := f18.other W23 (Ne.symm ne_a1_x)
  have f29 := f15.same W23
  obtain ⟨fs, hr, hrun, hended, hW, hsame⟩ := X23.leave (v := none) (fun _ => rfl)
  refine ⟨_, _, pre24 _ ?_, hrun, hended, _, _, rfl, ?_, ⟨_, rfl⟩, hW, hsame.mono (by decide) (by decide)⟩
  · skip
    show Steps p.tables e below (T23.setTop (mkF m 56 #[.val (.ref a1), .val (.double d2), .second] [])) _
    exact X23.returnOut hx Bd.returns (hb hby d15_0_56) hr
  · show Q15_0 Z a1 d2 al x k u0 u1 u2 h0 n0 _ T23.heap _
    rw [e23]
    refine ⟨rfl, N23, K23, f29, f26, f27, f28, ?_⟩
    trivial
/-! body 15_1 -/
theorem d15_1_0 : decode prog_82_method_2_code 0 = .ok (.aload_n 0, 1) := by decide +kernel
theorem d15_1_1 : decode prog_82_method_2_code 1 = .ok (.getfield 21, 3) := by decide +kernel
theorem d15_1_4 : decode prog_82_method_2_code 4 = .ok (.ldc 16, 2) := by decide +kernel
theorem d15_1_6 : decode prog_82_method_2_code 6 = .ok (.if_icmp .ne 30, 3) := by decide +kernel
theorem d15_1_36 : decode prog_82_method_2_code 36 = .ok (.aload_n 0, 1) := by decide +kernel
theorem d15_1_37 : decode prog_82_method_2_code 37 = .ok (.getfield 17, 3) := by decide +kernel
theorem d15_1_40 : decode prog_82_method_2_code 40 = .ok (.aload_n 0, 1) := by decide +kernel
theorem d15_1_41 : decode prog_82_method_2_code 41 = .ok (.getfield 21, 3) := by decide +kernel
theorem d15_1_44 : decode prog_82_method_2_code 44 = .ok (.dload_n 1, 1) := by decide +kernel
theorem d15_1_45 : decode prog_82_method_2_code 45 = .ok (.dastore, 1) := by decide +kernel
theorem d15_1_46 : decode prog_82_method_2_code 46 = .ok (.aload_n 0, 1) := by decide +kernel
theorem d15_1_47 : decode prog_82_method_2_code 47 = .ok (.dup, 1) := by decide +kernel
theorem d15_1_48 : decode prog_82_method_2_code 48 = .ok (.getfield 21, 3) := by decide +kernel
theorem d15_1_51 : decode prog_82_method_2_code 51 = .ok (.iconst 1, 1) := by decide +kernel
theorem d15_1_52 : decode prog_82_method_2_code 52 = .ok (.iadd, 1) := by decide +kernel
theorem d15_1_53 : decode prog_82_method_2_code 53 = .ok (.putfield 21, 3) := by decide +kernel
theorem d15_1_56 : decode prog_82_method_2_code 56 = .ok (.return_, 1) := by decide +kernel
theorem pn_15_1 : plainName "com/example/crisp_haptics/crisphaptics/SampleBlocks" = true := by first | (simp [plainName, overriddenIn]; done) | decide +kernel
theorem ef_15_1 (m : MethodId) (a1 : Addr) (d2 : UInt64) : entryFrame m #[(.ref a1), (.double d2)] 3 = mkF m 0 #[.val (.ref a1), .val (.double d2), .second] [] := by first | (simp [entryFrame, mkF, argsToLocals, Value.category]; done) | rfl
def Q15_1 (Z : State) (a1 : Addr) (d2 : UInt64) (al : Addr) (x : Addr) (k : ClassId) (u0 : UInt64) (u1 : UInt64) (u2 : UInt64) (h0 : Heap) (n0 : Nat) (v : Option Value) (h : Heap) (L : List Loc) : Prop := v = none ∧ Fr n0 L ∧ Keep h0 h [a1, x] ∧ Fld Z h a1 "com/example/crisp_haptics/crisphaptics/SampleBlocks" "inBlock" "I" (.int (2 : Int32)) ∧ Fld Z h a1 "com/example/crisp_haptics/crisphaptics/SampleBlocks" "block" "[D" (.ref x) ∧ Fld Z h a1 "com/example/crisp_haptics/crisphaptics/SampleBlocks" "fullBlocks" "Ljava/util/List;" (.ref al) ∧ Arv Z h x k .double (32768 : Int32) [(.double u0), (.double d2), (.double u2)] (.double 0) ∧ (True)
set_option maxRecDepth 65536 in
set_option maxHeartbeats 40000000 in
theorem rm15_1 (l : Launch) (Z : State) (a0 : Array Value) (hw : ∀ d ∈ tables_1, d.before a0 Z = true) (ws : List Jvm.Cond) (a1 : Addr) (d2 : UInt64) (al : Addr) (x : Addr) (k : ClassId) (u0 : UInt64) (u1 : UInt64) (u2 : UInt64) (h0 : Heap) (n0 : Nat) (Z0 : n0 ≤ h0.size) (E_a1 : Exa Z h0 a1 "com/example/crisp_haptics/crisphaptics/SampleBlocks") (F_inBlock_a1 : Fld Z h0 a1 "com/example/crisp_haptics/crisphaptics/SampleBlocks" "inBlock" "I" (.int (1 : Int32))) (F_block_a1 : Fld Z h0 a1 "com/example/crisp_haptics/crisphaptics/SampleBlocks" "block" "[D" (.ref x)) (F_fullBlocks_a1 : Fld Z h0 a1 "com/example/crisp_haptics/crisphaptics/SampleBlocks" "fullBlocks" "Ljava/util/List;" (.ref al)) (V_x : Arv Z h0 x k .double (32768 : Int32) [(.double u0), (.double u1), (.double u2)] (.double 0)) (g_a1 : n0 ≤ a1) (g_x : n0 ≤ x) (ne_a1_x : a1 ≠ x) :
    MetFree l (⟨"com/example/crisp_haptics/crisphaptics/SampleBlocks", "add", "(D)V"⟩ : MethodName) (head1 (Jvm.Cond.code (⟨"com/example/crisp_haptics/crisphaptics/SampleBlocks", "add", "(D)V"⟩ : MethodName) prog_82_method_2_code 3 none :: ws) ({ frames := 0, cells := 0, slots := 0, locals := 0 } : Room)) (fun a U => a = #[(.ref a1), (.double d2)] ∧ Z.Warmed39 U.vm ∧ U.heap = h0) (fun _ _ _ _ _ => True) (fun _ U o U' => ∃ v L, o = .returned v ∧ Q15_1 Z a1 d2 al x k u0 u1 u2 h0 n0 v U'.heap L ∧ FrameEnd U o U' L ({ frames := 0, cells := 0, slots := 0, locals := 0 } : Room).cells ({ frames := 0, cells := 0, slots := 0, locals := 0 } : Room).slots) := by
  refine MetFree.of_bodySF (plainFor_of_name pn_15_1) hisR ?_
  intro p e s m args below meth c s₁ Bd hml0 hP hK
  obtain ⟨rfl, hZ, hh⟩ := hP
  have hx := Bd.exec
  have hby := Bd.bytes
  have hml : c.maxLocals = 3 := hml0
  have hown : s.vm.findClass "com/example/crisp_haptics/crisphaptics/SampleBlocks" = some m.cls := findClass_of_methodNamed Bd.named
  have hnm := (name_of_methodNamed Bd.named Bd.method).1
  have X0 : Stand p l e ({ frames := 0, cells := 0, slots := 0, locals := 0 } : Room) s m #[(.ref a1), (.double d2)] below meth c s₁ [] 0 0 := Stand.of_body Bd
  have e0 : s₁.heap = h0 := by rw [← hh, Bd.state]; rfl
  have N0 := Fr.nil n0
  have pre0 : ∀ tq, Steps p.tables e below (s₁.setTop (mkF m 0 #[.val (.ref a1), .val (.double d2), .second] [])) tq → Steps p.tables e below (s₁.setTop (entryFrame m #[(.ref a1), (.double d2)] 3)) tq := fun tq kq => castTop (ef_15_1 m a1 d2) kq
  have pre1 : ∀ tq, Steps p.tables e below (s₁.setTop (mkF m 1 #[.val (.ref a1), .val (.double d2), .second] [(.ref a1)])) tq → Steps p.tables e below (s₁.setTop (entryFrame m #[(.ref a1), (.double d2)] 3)) tq := by
    refine fun tq kq => pre0 tq ?_
    show Steps p.tables e below (s₁.setTop (mkF m 0 #[.val (.ref a1), .val (.double d2), .second] [])) _
    refine XS.aloadN X0.here hx rfl (hb hby d15_1_0) rfl rfl ?_
    exact kq
  obtain ⟨T2, X2, e2, st2⟩ := getF X0 hx hZ hown (host := "") (Or.inl (hw _ (List.mem_of_getElem? (i := 44) rfl))) Via.refl e0 F_inBlock_a1 (g := (mkF m 1 #[.val (.ref a1), .val (.double d2), .second] [(.ref a1)])) rfl rfl (hb hby d15_1_1)
  have pre3 : ∀ tq, Steps p.tables e below (T2.setTop (mkF m 4 #[.val (.ref a1), .val (.double d2), .second] [(.int (1 : Int32))])) tq → Steps p.tables e below (s₁.setTop (entryFrame m #[(.ref a1), (.double d2)] 3)) tq := fun tq kq => pre1 tq (st2 _ kq)
  have pre4 : ∀ tq, Steps p.tables e below (T2.setTop (mkF m 36 #[.val (.ref a1), .val (.double d2), .second] [])) tq → Steps p.tables e below (s₁.setTop (entryFrame m #[(.ref a1), (.double d2)] 3)) tq := by
    refine fun tq kq => pre3 tq ?_
    show Steps p.tables e below (T2.setTop (mkF m 4 #[.val (.ref a1), .val (.double d2), .second] [(.int (1 : Int32))])) _
    refine X2.ldcInt hx hown (mvT hZ (hw _ (List.mem_of_getElem? (i := 35) rfl))) (g := (mkF m 4 #[.val (.ref a1), .val (.double d2), .second] [(.int (1 : Int32))])) rfl (hb hby d15_1_4) _ ?_
    show Steps p.tables e below (T2.setTop (mkF m 6 #[.val (.ref a1), .val (.double d2), .second] [(.int (32768 : Int32)), (.int (1 : Int32))])) _
    refine XS.icmpYes X2.here hx rfl (pc0 := 6) (pc' := 36) rfl (hb hby d15_1_6) rfl (feq (by decide : ¬ ((1 : Int32) = (32768 : Int32)))).2 (by decide) (by decide) ?_
    exact kq
  have pre5 : ∀ tq, Steps p.tables e below (T2.setTop (mkF m 37 #[.val (.ref a1), .val (.double d2), .second] [(.ref a1)])) tq → Steps p.tables e below (s₁.setTop (entryFrame m #[(.ref a1), (.double d2)] 3)) tq := by
    refine fun tq kq => pre4 tq ?_
    show Steps p.tables e below (T2.setTop (mkF m 36 #[.val (.ref a1), .val (.double d2), .second] [])) _
    refine XS.aloadN X2.here hx rfl (hb hby d15_1_36) rfl rfl ?_
    exact kq
  obtain ⟨T6, X6, e6, st6⟩ := getF X2 hx hZ hown (host := "") (Or.inl (hw _ (List.mem_of_getElem? (i := 37) rfl))) Via.refl e2 F_block_a1 (g := (mkF m 37 #[.val (.ref a1), .val (.double d2), .second] [(.ref a1)])) rfl rfl (hb hby d15_1_37)
  have pre7 : ∀ tq, Steps p.tables e below (T6.setTop (mkF m 40 #[.val (.ref a1), .val (.double d2), .second] [(.ref x)])) tq → Steps p.tables e below (s₁.setTop (entryFrame m #[(.ref a1), (.double d2)] 3)) tq := fun tq kq => pre5 tq (st6 _ kq)
  have pre8 : ∀ tq, Steps p.tables e below (T6.setTop (mkF m 41 #[.val (.ref a1), .val (.double d2), .second] [(.ref a1), (.ref x)])) tq → Steps p.tables e below (s₁.setTop (entryFrame m #[(.ref a1), (.double d2)] 3)) tq := by
    refine fun tq kq => pre7 tq ?_
    show Steps p.tables e below (T6.setTop (mkF m 40 #[.val (.ref a1), .val (.double d2), .second] [(.ref x)])) _
    refine XS.aloadN X6.here hx rfl (hb hby d15_1_40) rfl rfl ?_
    exact kq
  obtain ⟨T9, X9, e9, st9⟩ := getF X6 hx hZ hown (host := "") (Or.inl (hw _ (List.mem_of_getElem? (i := 44) rfl))) Via.refl e6 F_inBlock_a1 (g := (mkF m 41 #[.val (.ref a1), .val (.double d2), .second] [(.ref a1), (.ref x)])) rfl rfl (hb hby d15_1_41)
  have pre10 : ∀ tq, Steps p.tables e below (T9.setTop (mkF m 44 #[.val (.ref a1), .val (.double d2), .second] [(.int (1 : Int32)), (.ref x)])) tq → Steps p.tables e below (s₁.setTop (entryFrame m #[(.ref a1), (.double d2)] 3)) tq := fun tq kq => pre8 tq (st9 _ kq)
  have pre11 : ∀ tq, Steps p.tables e below (T9.setTop (mkF m 45 #[.val (.ref a1), .val (.double d2), .second] [(.double d2), (.int (1 : Int32)), (.ref x)])) tq → Steps p.tables e below (s₁.setTop (entryFrame m #[(.ref a1), (.double d2)] 3)) tq := by
    refine fun tq kq => pre10 tq ?_
    show Steps p.tables e below (T9.setTop (mkF m 44 #[.val (.ref a1), .val (.double d2), .second] [(.int (1 : Int32)), (.ref x)])) _
    refine XS.dloadN X9.here hx rfl (hb hby d15_1_44) rfl ?_
    exact kq
  have Vc12 := V_x
  obtain ⟨cl12, Ar12, Aq12, As12, An12, Ah12, Ag12⟩ := Vc12
  have hin12 : ¬ ((1 : Int32) < 0 ∨ cl12.slots.size ≤ ((1 : Int32)).toNatClampNeg) := inb_of As12 ⟨by decide, by decide⟩
  obtain ⟨T12, h12, X12, e12, W12, st12⟩ := stD X9 hx hZ e9 Ar12 (j := (1 : Int32)) hin12 (g := (mkF m 45 #[.val (.ref a1), .val (.double d2), .second] [(.double d2), (.int (1 : Int32)), (.ref x)])) rfl rfl (hb hby d15_1_45)
  have pre13 : ∀ tq, Steps p.tables e below (T12.setTop (mkF m 46 #[.val (.ref a1), .val (.double d2), .second] [])) tq → Steps p.tables e below (s₁.setTop (entryFrame m #[(.ref a1), (.double d2)] 3)) tq := fun tq kq => pre11 tq (st12 _ kq)
  have N12 := Fr.snoc X12 N0 g_x
  have K12 : Keep h0 h12 [a1, x] := Keep.wr (Keep.refl h0 [a1, x]) W12 (Or.inl (List.mem_of_getElem? (i := 1) rfl))
  have f14 := E_a1.wr W12
  have f15 := F_inBlock_a1.other W12 (Or.inl ne_a1_x)
  have f16 := F_block_a1.other W12 (Or.inl ne_a1_x)
  have f17 := F_fullBlocks_a1.other W12 (Or.inl ne_a1_x)
  have f18 : Arv Z h12 x k .double (32768 : Int32) [(.double u0), (.double d2), (.double u2)] (.double 0) := Arv.set Ar12 Aq12 As12 An12 Ah12 Ag12 rfl W12 1 rfl (Nat.le_of_ble_eq_true rfl)
  have pre19 : ∀ tq, Steps p.tables e below (T12.setTop (mkF m 48 #[.val (.ref a1), .val (.double d2), .second] [(.ref a1), (.ref a1)])) tq → Steps p.tables e below (s₁.setTop (entryFrame m #[(.ref a1), (.double d2)] 3)) tq := by
    refine fun tq kq => pre13 tq ?_
    show Steps p.tables e below (T12.setTop (mkF m 46 #[.val (.ref a1), .val (.double d2), .second] [])) _
    refine XS.aloadN X12.here hx rfl (hb hby d15_1_46) rfl rfl ?_
    show Steps p.tables e below (T12.setTop (mkF m 47 #[.val (.ref a1), .val (.double d2), .second] [(.ref a1)])) _
    refine XS.dup X12.here hx rfl (hb hby d15_1_47) rfl rfl ?_
    exact kq
  obtain ⟨T20, X20, e20, st20⟩ := getF X12 hx hZ hown (host := "") (Or.inl (hw _ (List.mem_of_getElem? (i := 44) rfl))) Via.refl e12 f15 (g := (mkF m 48 #[.val (.ref a1), .val (.double d2), .second] [(.ref a1), (.ref a1)])) rfl rfl (hb hby d15_1_48)
  have pre21 : ∀ tq, Steps p.tables e below (T20.setTop (mkF m 51 #[.val (.ref a1), .val (.double d2), .second] [(.int (1 : Int32)), (.ref a1)])) tq → Steps p.tables e below (s₁.setTop (entryFrame m #[(.ref a1), (.double d2)] 3)) tq := fun tq kq => pre19 tq (st20 _ kq)
  have pre22 : ∀ tq, Steps p.tables e below (T20.setTop (mkF m 53 #[.val (.ref a1), .val (.double d2), .second] [(.int (2 : Int32)), (.ref a1)])) tq → Steps p.tables e below (s₁.setTop (entryFrame m #[(.ref a1), (.double d2)] 3)) tq := by
    refine fun tq kq => pre21 tq ?_
    show Steps p.tables e below (T20.setTop (mkF m 51 #[.val (.ref a1), .val (.double d2), .second] [(.int (1 : Int32)), (.ref a1)])) _
    refine XS.iconst X20.here hx rfl (hb hby d15_1_51) ?_
    show Steps p.tables e below (T20.setTop (mkF m 52 #[.val (.ref a1), .val (.double d2), .second] [(.int (1 : Int32)), (.int (1 : Int32)), (.ref a1)])) _
    refine XS.iadd X20.here hx rfl (hb hby d15_1_52) rfl ?_
    exact kq
  obtain ⟨T23, h23, X23, e23, W23, st23⟩ := putF X20 hx hZ hown (host := "") (Or.inl (hw _ (List.mem_of_getElem? (i := 44) rfl))) Via.refl e20 f15 f14 (Or.inl (hw _ (List.mem_of_getElem? (i := 45) rfl))) (hw _ (List.mem_of_getElem? (i := 1) rfl)) (ty := .int) (by decide) rfl rfl (g := (mkF m 53 #[.val (.ref a1), .val (.double d2), .second] [(.int (2 : Int32)), (.ref a1)])) rfl rfl (hb hby d15_1_53)
  have pre24 : ∀ tq, Steps p.tables e below (T23.setTop (mkF m 56 #[.val (.ref a1), .val (.double d2), .second] [])) tq → Steps p.tables e below (s₁.setTop (entryFrame m #[(.ref a1), (.double d2)] 3)) tq := fun tq kq => pre22 tq (st23 _ kq)
  have N23 := Fr.snoc X23 N12 g_a1
  have K23 : Keep h0 h23 [a1, x] := Keep.wr K12 W23 (Or.inl (List.mem_of_getElem? (i := 0) rfl))
  have f25 := f14.wr W23
  have f26 := f16.other W23 (Or.inr (slot_ne (Or.inl (hw _ (List.mem_of_getElem? (i := 38) rfl))) (Or.inl (hw _ (List.mem_of_getElem? (i := 45) rfl))) (by decide) (t := (.array .double)) (t' := .int) (by decide) (by decide)))
  have f27 := f17.other W23 (Or.inr (slot_ne (Or.inr (hw _ (List.mem_of_getElem? (i := 34) rfl))) (Or.inl (hw _ (List.mem_of_getElem? (i := 45) rfl))) (by decide) (t := (.object "java/util/List")) (t' := .int) (by decide) (by decide)))
  have f28 := f18.other W23 (Ne.symm ne_a1_x)
  have f29 := f15.same W23
  obtain ⟨fs, hr, hrun, hended, hW, hsame⟩ := X23.leave (v := none) (fun _ => rfl)
  refine ⟨_, _, pre24 _ ?_, hrun, hended, _, _, rfl, ?_, ⟨_, rfl⟩, hW, hsame.mono (by decide) (by decide)⟩
  · skip
    show Steps p.tables e below (T23.setTop (mkF m 56 #[.val (.ref a1), .val (.double d2), .second] [])) _
    exact X23.returnOut hx Bd.returns (hb hby d15_1_56) hr
  · show Q15_1 Z a1 d2 al x k u0 u1 u2 h0 n0 _ T23.heap _
    rw [e23]
    refine ⟨rfl, N23, K23, f29, f26, f27, f28, ?_⟩
    trivial
/-! body 15_2 -/
theorem d15_2_0 : decode prog_82_method_2_code 0 = .ok (.aload_n 0, 1) := by decide +kernel
theorem d15_2_1 : decode prog_82_method_2_code 1 = .ok (.getfield 21, 3) := by decide +kernel
theorem d15_2_4 : decode prog_82_method_2_code 4 = .ok (.ldc 16, 2) := by decide +kernel
theorem d15_2_6 : decode prog_82_method_2_code 6 = .ok (.if_icmp .ne 30, 3) := by decide +kernel
theorem d15_2_36 : decode prog_82_method_2_code 36 = .ok (.aload_n 0, 1) := by decide +kernel
theorem d15_2_37 : decode prog_82_method_2_code 37 = .ok (.getfield 17, 3) := by decide +kernel
theorem d15_2_40 : decode prog_82_method_2_code 40 = .ok (.aload_n 0, 1) := by decide +kernel
theorem d15_2_41 : decode prog_82_method_2_code 41 = .ok (.getfield 21, 3) := by decide +kernel
theorem d15_2_44 : decode prog_82_method_2_code 44 = .ok (.dload_n 1, 1) := by decide +kernel
theorem d15_2_45 : decode prog_82_method_2_code 45 = .ok (.dastore, 1) := by decide +kernel
theorem d15_2_46 : decode prog_82_method_2_code 46 = .ok (.aload_n 0, 1) := by decide +kernel
theorem d15_2_47 : decode prog_82_method_2_code 47 = .ok (.dup, 1) := by decide +kernel
theorem d15_2_48 : decode prog_82_method_2_code 48 = .ok (.getfield 21, 3) := by decide +kernel
theorem d15_2_51 : decode prog_82_method_2_code 51 = .ok (.iconst 1, 1) := by decide +kernel
theorem d15_2_52 : decode prog_82_method_2_code 52 = .ok (.iadd, 1) := by decide +kernel
theorem d15_2_53 : decode prog_82_method_2_code 53 = .ok (.putfield 21, 3) := by decide +kernel
theorem d15_2_56 : decode prog_82_method_2_code 56 = .ok (.return_, 1) := by decide +kernel
theorem pn_15_2 : plainName "com/example/crisp_haptics/crisphaptics/SampleBlocks" = true := by first | (simp [plainName, overriddenIn]; done) | decide +kernel
theorem ef_15_2 (m : MethodId) (a1 : Addr) (d2 : UInt64) : entryFrame m #[(.ref a1), (.double d2)] 3 = mkF m 0 #[.val (.ref a1), .val (.double d2), .second] [] := by first | (simp [entryFrame, mkF, argsToLocals, Value.category]; done) | rfl
def Q15_2 (Z : State) (a1 : Addr) (d2 : UInt64) (al : Addr) (x : Addr) (k : ClassId) (u0 : UInt64) (u1 : UInt64) (u2 : UInt64) (h0 : Heap) (n0 : Nat) (v : Option Value) (h : Heap) (L : List Loc) : Prop := v = none ∧ Fr n0 L ∧ Keep h0 h [a1, x] ∧ Fld Z h a1 "com/example/crisp_haptics/crisphaptics/SampleBlocks" "inBlock" "I" (.int (3 : Int32)) ∧ Fld Z h a1 "com/example/crisp_haptics/crisphaptics/SampleBlocks" "block" "[D" (.ref x) ∧ Fld Z h a1 "com/example/crisp_haptics/crisphaptics/SampleBlocks" "fullBlocks" "Ljava/util/List;" (.ref al) ∧ Arv Z h x k .double (32768 : Int32) [(.double u0), (.double u1), (.double d2)] (.double 0) ∧ (True)
set_option maxRecDepth 65536 in
set_option maxHeartbeats 40000000 in
theorem rm15_2 (l : Launch) (Z : State) (a0 : Array Value) (hw : ∀ d ∈ tables_1, d.before a0 Z = true) (ws : List Jvm.Cond) (a1 : Addr) (d2 : UInt64) (al : Addr) (x : Addr) (k : ClassId) (u0 : UInt64) (u1 : UInt64) (u2 : UInt64) (h0 : Heap) (n0 : Nat) (Z0 : n0 ≤ h0.size) (E_a1 : Exa Z h0 a1 "com/example/crisp_haptics/crisphaptics/SampleBlocks") (F_inBlock_a1 : Fld Z h0 a1 "com/example/crisp_haptics/crisphaptics/SampleBlocks" "inBlock" "I" (.int (2 : Int32))) (F_block_a1 : Fld Z h0 a1 "com/example/crisp_haptics/crisphaptics/SampleBlocks" "block" "[D" (.ref x)) (F_fullBlocks_a1 : Fld Z h0 a1 "com/example/crisp_haptics/crisphaptics/SampleBlocks" "fullBlocks" "Ljava/util/List;" (.ref al)) (V_x : Arv Z h0 x k .double (32768 : Int32) [(.double u0), (.double u1), (.double u2)] (.double 0)) (g_a1 : n0 ≤ a1) (g_x : n0 ≤ x) (ne_a1_x : a1 ≠ x) :
    MetFree l (⟨"com/example/crisp_haptics/crisphaptics/SampleBlocks", "add", "(D)V"⟩ : MethodName) (head1 (Jvm.Cond.code (⟨"com/example/crisp_haptics/crisphaptics/SampleBlocks", "add", "(D)V"⟩ : MethodName) prog_82_method_2_code 3 none :: ws) ({ frames := 0, cells := 0, slots := 0, locals := 0 } : Room)) (fun a U => a = #[(.ref a1), (.double d2)] ∧ Z.Warmed39 U.vm ∧ U.heap = h0) (fun _ _ _ _ _ => True) (fun _ U o U' => ∃ v L, o = .returned v ∧ Q15_2 Z a1 d2 al x k u0 u1 u2 h0 n0 v U'.heap L ∧ FrameEnd U o U' L ({ frames := 0, cells := 0, slots := 0, locals := 0 } : Room).cells ({ frames := 0, cells := 0, slots := 0, locals := 0 } : Room).slots) := by
  refine MetFree.of_bodySF (plainFor_of_name pn_15_2) hisR ?_
  intro p e s m args below meth c s₁ Bd hml0 hP hK
  obtain ⟨rfl, hZ, hh⟩ := hP
  have hx := Bd.exec
  have hby := Bd.bytes
  have hml : c.maxLocals = 3 := hml0
  have hown : s.vm.findClass "com/example/crisp_haptics/crisphaptics/SampleBlocks" = some m.cls := findClass_of_methodNamed Bd.named
  have hnm := (name_of_methodNamed Bd.named Bd.method).1
  have X0 : Stand p l e ({ frames := 0, cells := 0, slots := 0, locals := 0 } : Room) s m #[(.ref a1), (.double d2)] below meth c s₁ [] 0 0 := Stand.of_body Bd
  have e0 : s₁.heap = h0 := by rw [← hh, Bd.state]; rfl
  have N0 := Fr.nil n0
  have pre0 : ∀ tq, Steps p.tables e below (s₁.setTop (mkF m 0 #[.val (.ref a1), .val (.double d2), .second] [])) tq → Steps p.tables e below (s₁.setTop (entryFrame m #[(.ref a1), (.double d2)] 3)) tq := fun tq kq => castTop (ef_15_2 m a1 d2) kq
  have pre1 : ∀ tq, Steps p.tables e below (s₁.setTop (mkF m 1 #[.val (.ref a1), .val (.double d2), .second] [(.ref a1)])) tq → Steps p.tables e below (s₁.setTop (entryFrame m #[(.ref a1), (.double d2)] 3)) tq := by
    refine fun tq kq => pre0 tq ?_
    show Steps p.tables e below (s₁.setTop (mkF m 0 #[.val (.ref a1), .val (.double d2), .second] [])) _
    refine XS.aloadN X0.here hx rfl (hb hby d15_2_0) rfl rfl ?_
    exact kq
  obtain ⟨T2, X2, e2, st2⟩ := getF X0 hx hZ hown (host := "") (Or.inl (hw _ (List.mem_of_getElem? (i := 44) rfl))) Via.refl e0 F_inBlock_a1 (g := (mkF m 1 #[.val (.ref a1), .val (.double d2), .second] [(.ref a1)])) rfl rfl (hb hby d15_2_1)
  have pre3 : ∀ tq, Steps p.tables e below (T2.setTop (mkF m 4 #[.val (.ref a1), .val (.double d2), .second] [(.int (2 : Int32))])) tq → Steps p.tables e below (s₁.setTop (entryFrame m #[(.ref a1), (.double d2)] 3)) tq := fun tq kq => pre1 tq (st2 _ kq)
  have pre4 : ∀ tq, Steps p.tables e below (T2.setTop (mkF m 36 #[.val (.ref a1), .val (.double d2), .second] [])) tq → Steps p.tables e below (s₁.setTop (entryFrame m #[(.ref a1), (.double d2)] 3)) tq := by
    refine fun tq kq => pre3 tq ?_
    show Steps p.tables e below (T2.setTop (mkF m 4 #[.val (.ref a1), .val (.double d2), .second] [(.int (2 : Int32))])) _
    refine X2.ldcInt hx hown (mvT hZ (hw _ (List.mem_of_getElem? (i := 35) rfl))) (g := (mkF m 4 #[.val (.ref a1), .val (.double d2), .second] [(.int (2 : Int32))])) rfl (hb hby d15_2_4) _ ?_
    show Steps p.tables e below (T2.setTop (mkF m 6 #[.val (.ref a1), .val (.double d2), .second] [(.int (32768 : Int32)), (.int (2 : Int32))])) _
    refine XS.icmpYes X2.here hx rfl (pc0 := 6) (pc' := 36) rfl (hb hby d15_2_6) rfl (feq (by decide : ¬ ((2 : Int32) = (32768 : Int32)))).2 (by decide) (by decide) ?_
    exact kq
  have pre5 : ∀ tq, Steps p.tables e below (T2.setTop (mkF m 37 #[.val (.ref a1), .val (.double d2), .second] [(.ref a1)])) tq → Steps p.tables e below (s₁.setTop (entryFrame m #[(.ref a1), (.double d2)] 3)) tq := by
    refine fun tq kq => pre4 tq ?_
    show Steps p.tables e below (T2.setTop (mkF m 36 #[.val (.ref a1), .val (.double d2), .second] [])) _
    refine XS.aloadN X2.here hx rfl (hb hby d15_2_36) rfl rfl ?_
    exact kq
  obtain ⟨T6, X6, e6, st6⟩ := getF X2 hx hZ hown (host := "") (Or.inl (hw _ (List.mem_of_getElem? (i := 37) rfl))) Via.refl e2 F_block_a1 (g := (mkF m 37 #[.val (.ref a1), .val (.double d2), .second] [(.ref a1)])) rfl rfl (hb hby d15_2_37)
  have pre7 : ∀ tq, Steps p.tables e below (T6.setTop (mkF m 40 #[.val (.ref a1), .val (.double d2), .second] [(.ref x)])) tq → Steps p.tables e below (s₁.setTop (entryFrame m #[(.ref a1), (.double d2)] 3)) tq := fun tq kq => pre5 tq (st6 _ kq)
  have pre8 : ∀ tq, Steps p.tables e below (T6.setTop (mkF m 41 #[.val (.ref a1), .val (.double d2), .second] [(.ref a1), (.ref x)])) tq → Steps p.tables e below (s₁.setTop (entryFrame m #[(.ref a1), (.double d2)] 3)) tq := by
    refine fun tq kq => pre7 tq ?_
    show Steps p.tables e below (T6.setTop (mkF m 40 #[.val (.ref a1), .val (.double d2), .second] [(.ref x)])) _
    refine XS.aloadN X6.here hx rfl (hb hby d15_2_40) rfl rfl ?_
    exact kq
  obtain ⟨T9, X9, e9, st9⟩ := getF X6 hx hZ hown (host := "") (Or.inl (hw _ (List.mem_of_getElem? (i := 44) rfl))) Via.refl e6 F_inBlock_a1 (g := (mkF m 41 #[.val (.ref a1), .val (.double d2), .second] [(.ref a1), (.ref x)])) rfl rfl (hb hby d15_2_41)
  have pre10 : ∀ tq, Steps p.tables e below (T9.setTop (mkF m 44 #[.val (.ref a1), .val (.double d2), .second] [(.int (2 : Int32)), (.ref x)])) tq → Steps p.tables e below (s₁.setTop (entryFrame m #[(.ref a1), (.double d2)] 3)) tq := fun tq kq => pre8 tq (st9 _ kq)
  have pre11 : ∀ tq, Steps p.tables e below (T9.setTop (mkF m 45 #[.val (.ref a1), .val (.double d2), .second] [(.double d2), (.int (2 : Int32)), (.ref x)])) tq → Steps p.tables e below (s₁.setTop (entryFrame m #[(.ref a1), (.double d2)] 3)) tq := by
    refine fun tq kq => pre10 tq ?_
    show Steps p.tables e below (T9.setTop (mkF m 44 #[.val (.ref a1), .val (.double d2), .second] [(.int (2 : Int32)), (.ref x)])) _
    refine XS.dloadN X9.here hx rfl (hb hby d15_2_44) rfl ?_
    exact kq
  have Vc12 := V_x
  obtain ⟨cl12, Ar12, Aq12, As12, An12, Ah12, Ag12⟩ := Vc12
  have hin12 : ¬ ((2 : Int32) < 0 ∨ cl12.slots.size ≤ ((2 : Int32)).toNatClampNeg) := inb_of As12 ⟨by decide, by decide⟩
  obtain ⟨T12, h12, X12, e12, W12, st12⟩ := stD X9 hx hZ e9 Ar12 (j := (2 : Int32)) hin12 (g := (mkF m 45 #[.val (.ref a1), .val (.double d2), .second] [(.double d2), (.int (2 : Int32)), (.ref x)])) rfl rfl (hb hby d15_2_45)
  have pre13 : ∀ tq, Steps p.tables e below (T12.setTop (mkF m 46 #[.val (.ref a1), .val (.double d2), .second] [])) tq → Steps p.tables e below (s₁.setTop (entryFrame m #[(.ref a1), (.double d2)] 3)) tq := fun tq kq => pre11 tq (st12 _ kq)
  have N12 := Fr.snoc X12 N0 g_x
  have K12 : Keep h0 h12 [a1, x] := Keep.wr (Keep.refl h0 [a1, x]) W12 (Or.inl (List.mem_of_getElem? (i := 1) rfl))
  have f14 := E_a1.wr W12
  have f15 := F_inBlock_a1.other W12 (Or.inl ne_a1_x)
  have f16 := F_block_a1.other W12 (Or.inl ne_a1_x)
  have f17 := F_fullBlocks_a1.other W12 (Or.inl ne_a1_x)
  have f18 : Arv Z h12 x k .double (32768 : Int32) [(.double u0), (.double u1), (.double d2)] (.double 0) := Arv.set Ar12 Aq12 As12 An12 Ah12 Ag12 rfl W12 2 rfl (Nat.le_of_ble_eq_true rfl)
  have pre19 : ∀ tq, Steps p.tables e below (T12.setTop (mkF m 48 #[.val (.ref a1), .val (.double d2), .second] [(.ref a1), (.ref a1)])) tq → Steps p.tables e below (s₁.setTop (entryFrame m #[(.ref a1), (.double d2)] 3)) tq := by
    refine fun tq kq => pre13 tq ?_
    show Steps p.tables e below (T12.setTop (mkF m 46 #[.val (.ref a1), .val (.double d2), .second] [])) _
    refine XS.aloadN X12.here hx rfl (hb hby d15_2_46) rfl rfl ?_
    show Steps p.tables e below (T12.setTop (mkF m 47 #[.val (.ref a1), .val (.double d2), .second] [(.ref a1)])) _
    refine XS.dup X12.here hx rfl (hb hby d15_2_47) rfl rfl ?_
    exact kq
  obtain ⟨T20, X20, e20, st20⟩ := getF X12 hx hZ hown (host := "") (Or.inl (hw _ (List.mem_of_getElem? (i := 44) rfl))) Via.refl e12 f15 (g := (mkF m 48 #[.val (.ref a1), .val (.double d2), .second] [(.ref a1), (.ref a1)])) rfl rfl (hb hby d15_2_48)
  have pre21 : ∀ tq, Steps p.tables e below (T20.setTop (mkF m 51 #[.val (.ref a1), .val (.double d2), .second] [(.int (2 : Int32)), (.ref a1)])) tq → Steps p.tables e below (s₁.setTop (entryFrame m #[(.ref a1), (.double d2)] 3)) tq := fun tq kq => pre19 tq (st20 _ kq)
  have pre22 : ∀ tq, Steps p.tables e below (T20.setTop (mkF m 53 #[.val (.ref a1), .val (.double d2), .second] [(.int (3 : Int32)), (.ref a1)])) tq → Steps p.tables e below (s₁.setTop (entryFrame m #[(.ref a1), (.double d2)] 3)) tq := by
    refine fun tq kq => pre21 tq ?_
    show Steps p.tables e below (T20.setTop (mkF m 51 #[.val (.ref a1), .val (.double d2), .second] [(.int (2 : Int32)), (.ref a1)])) _
    refine XS.iconst X20.here hx rfl (hb hby d15_2_51) ?_
    show Steps p.tables e below (T20.setTop (mkF m 52 #[.val (.ref a1), .val (.double d2), .second] [(.int (1 : Int32)), (.int (2 : Int32)), (.ref a1)])) _
    refine XS.iadd X20.here hx rfl (hb hby d15_2_52) rfl ?_
    exact kq
  obtain ⟨T23, h23, X23, e23, W23, st23⟩ := putF X20 hx hZ hown (host := "") (Or.inl (hw _ (List.mem_of_getElem? (i := 44) rfl))) Via.refl e20 f15 f14 (Or.inl (hw _ (List.mem_of_getElem? (i := 45) rfl))) (hw _ (List.mem_of_getElem? (i := 1) rfl)) (ty := .int) (by decide) rfl rfl (g := (mkF m 53 #[.val (.ref a1), .val (.double d2), .second] [(.int (3 : Int32)), (.ref a1)])) rfl rfl (hb hby d15_2_53)
  have pre24 : ∀ tq, Steps p.tables e below (T23.setTop (mkF m 56 #[.val (.ref a1), .val (.double d2), .second] [])) tq → Steps p.tables e below (s₁.setTop (entryFrame m #[(.ref a1), (.double d2)] 3)) tq := fun tq kq => pre22 tq (st23 _ kq)
  have N23 := Fr.snoc X23 N12 g_a1
  have K23 : Keep h0 h23 [a1, x] := Keep.wr K12 W23 (Or.inl (List.mem_of_getElem? (i := 0) rfl))
  have f25 := f14.wr W23
  have f26 := f16.other W23 (Or.inr (slot_ne (Or.inl (hw _ (List.mem_of_getElem? (i := 38) rfl))) (Or.inl (hw _ (List.mem_of_getElem? (i := 45) rfl))) (by decide) (t := (.array .double)) (t' := .int) (by decide) (by decide)))
  have f27 := f17.other W23 (Or.inr (slot_ne (Or.inr (hw _ (List.mem_of_getElem? (i := 34) rfl))) (Or.inl (hw _ (List.mem_of_getElem? (i := 45) rfl))) (by decide) (t := (.object "java/util/List")) (t' := .int) (by decide) (by decide)))
  have f28 := f18.other W23 (Ne.symm ne_a1_x)
  have f29 := f15.same W23
  obtain ⟨fs, hr, hrun, hended, hW, hsame⟩ := X23.leave (v := none) (fun _ => rfl)
  refine ⟨_, _, pre24 _ ?_, hrun, hended, _, _, rfl, ?_, ⟨_, rfl⟩, hW, hsame.mono (by decide) (by decide)⟩
  · skip
    show Steps p.tables e below (T23.setTop (mkF m 56 #[.val (.ref a1), .val (.double d2), .second] [])) _
    exact X23.returnOut hx Bd.returns (hb hby d15_2_56) hr
  · show Q15_2 Z a1 d2 al x k u0 u1 u2 h0 n0 _ T23.heap _
    rw [e23]
    refine ⟨rfl, N23, K23, f29, f26, f27, f28, ?_⟩
    trivial
/-! body 7_0 -/
theorem d7_0_0 : decode jdk_65_method_127_code 0 = .ok (.iload_n 1, 1) := by decide +kernel
theorem d7_0_1 : decode jdk_65_method_127_code 1 = .ok (.aload_n 0, 1) := by decide +kernel
theorem d7_0_2 : decode jdk_65_method_127_code 2 = .ok (.arraylength, 1) := by decide +kernel
theorem d7_0_3 : decode jdk_65_method_127_code 3 = .ok (.if_icmp .ne 11, 3) := by decide +kernel
theorem d7_0_14 : decode jdk_65_method_127_code 14 = .ok (.iload_n 1, 1) := by decide +kernel
theorem d7_0_15 : decode jdk_65_method_127_code 15 = .ok (.newarray .double, 2) := by decide +kernel
theorem d7_0_17 : decode jdk_65_method_127_code 17 = .ok (.astore_n 2, 1) := by decide +kernel
theorem d7_0_18 : decode jdk_65_method_127_code 18 = .ok (.aload_n 0, 1) := by decide +kernel
theorem d7_0_19 : decode jdk_65_method_127_code 19 = .ok (.iconst 0, 1) := by decide +kernel
theorem d7_0_20 : decode jdk_65_method_127_code 20 = .ok (.aload_n 2, 1) := by decide +kernel
theorem d7_0_21 : decode jdk_65_method_127_code 21 = .ok (.iconst 0, 1) := by decide +kernel
theorem d7_0_22 : decode jdk_65_method_127_code 22 = .ok (.aload_n 0, 1) := by decide +kernel
theorem d7_0_23 : decode jdk_65_method_127_code 23 = .ok (.arraylength, 1) := by decide +kernel
theorem d7_0_24 : decode jdk_65_method_127_code 24 = .ok (.iload_n 1, 1) := by decide +kernel
theorem d7_0_25 : decode jdk_65_method_127_code 25 = .ok (.invokestatic 304, 3) := by decide +kernel
theorem d7_0_28 : decode jdk_65_method_127_code 28 = .ok (.invokestatic 150, 3) := by decide +kernel
theorem d7_0_31 : decode jdk_65_method_127_code 31 = .ok (.aload_n 2, 1) := by decide +kernel
theorem d7_0_32 : decode jdk_65_method_127_code 32 = .ok (.areturn, 1) := by decide +kernel
theorem pn_7_0 : plainName "java/util/Arrays" = true := by first | (simp [plainName, overriddenIn]; done) | decide +kernel
theorem pd7_0_0 : parseMethodDescriptor "(II)I" = some ⟨[.int, .int], some .int⟩ := by decide +kernel
theorem ef_7_0 (m : MethodId) (a1 : Addr) : entryFrame m #[(.ref a1), (.int (0 : Int32))] 3 = mkF m 0 #[.val (.ref a1), .val (.int (0 : Int32)), .unset] [] := by first | (simp [entryFrame, mkF, argsToLocals, Value.category]; done) | rfl
def Q7_0 (Z : State) (a1 : Addr) (k : ClassId) (u0 : UInt64) (u1 : UInt64) (u2 : UInt64) (h0 : Heap) (n0 : Nat) (v : Option Value) (h : Heap) (L : List Loc) : Prop := ∃ r : Addr, ∃ k2 : ClassId, v = some (.ref r) ∧ Fr n0 L ∧ Keep h0 h [] ∧ Arv Z h r k2 .double (0 : Int32) [] (.double 0) ∧ h0.size ≤ r ∧ (True)
set_option maxRecDepth 65536 in
set_option maxHeartbeats 40000000 in
theorem rm7_0 (l : Launch) (Z : State) (a0 : Array Value) (hw : ∀ d ∈ tables_1, d.before a0 Z = true) (ws : List Jvm.Cond) (a1 : Addr) (k : ClassId) (u0 : UInt64) (u1 : UInt64) (u2 : UInt64) (h0 : Heap) (n0 : Nat) (Z0 : n0 ≤ h0.size) (V_a1 : Arv Z h0 a1 k .double (32768 : Int32) [(.double u0), (.double u1), (.double u2)] (.double 0)) :
    MetFree l (⟨"java/util/Arrays", "copyOf", "([DI)[D"⟩ : MethodName) (head1 (Jvm.Cond.code (⟨"java/util/Arrays", "copyOf", "([DI)[D"⟩ : MethodName) jdk_65_method_127_code 3 (some (.array .double)) :: ws) ({ frames := 1, cells := 1, slots := 0, locals := 40 } : Room)) (fun a U => a = #[(.ref a1), (.int (0 : Int32))] ∧ Z.Warmed39 U.vm ∧ U.heap = h0) (fun _ _ _ _ _ => True) (fun _ U o U' => ∃ v L, o = .returned v ∧ Q7_0 Z a1 k u0 u1 u2 h0 n0 v U'.heap L ∧ FrameEnd U o U' L ({ frames := 1, cells := 1, slots := 0, locals := 40 } : Room).cells ({ frames := 1, cells := 1, slots := 0, locals := 40 } : Room).slots) := by
  refine MetFree.of_bodySF (plainFor_of_name pn_7_0) hisR ?_
  intro p e s m args below meth c s₁ Bd hml0 hP hK
  obtain ⟨rfl, hZ, hh⟩ := hP
  have hx := Bd.exec
  have hby := Bd.bytes
  have hml : c.maxLocals = 3 := hml0
  have hown : s.vm.findClass "java/util/Arrays" = some m.cls := findClass_of_methodNamed Bd.named
  have hnm := (name_of_methodNamed Bd.named Bd.method).1
  have X0 : Stand p l e ({ frames := 1, cells := 1, slots := 0, locals := 40 } : Room) s m #[(.ref a1), (.int (0 : Int32))] below meth c s₁ [] 0 0 := Stand.of_body Bd
  have e0 : s₁.heap = h0 := by rw [← hh, Bd.state]; rfl
  have N0 := Fr.nil n0
  have pre0 : ∀ tq, Steps p.tables e below (s₁.setTop (mkF m 0 #[.val (.ref a1), .val (.int (0 : Int32)), .unset] [])) tq → Steps p.tables e below (s₁.setTop (entryFrame m #[(.ref a1), (.int (0 : Int32))] 3)) tq := fun tq kq => castTop (ef_7_0 m a1) kq
  have pre1 : ∀ tq, Steps p.tables e below (s₁.setTop (mkF m 2 #[.val (.ref a1), .val (.int (0 : Int32)), .unset] [(.ref a1), (.int (0 : Int32))])) tq → Steps p.tables e below (s₁.setTop (entryFrame m #[(.ref a1), (.int (0 : Int32))] 3)) tq := by
    refine fun tq kq => pre0 tq ?_
    show Steps p.tables e below (s₁.setTop (mkF m 0 #[.val (.ref a1), .val (.int (0 : Int32)), .unset] [])) _
    refine XS.iloadN X0.here hx rfl (hb hby d7_0_0) rfl ?_
    show Steps p.tables e below (s₁.setTop (mkF m 1 #[.val (.ref a1), .val (.int (0 : Int32)), .unset] [(.int (0 : Int32))])) _
    refine XS.aloadN X0.here hx rfl (hb hby d7_0_1) rfl rfl ?_
    exact kq
  have Vc2 := V_a1
  obtain ⟨cl2, Ar2, Aq2, As2, An2, Ah2, Ag2⟩ := Vc2
  have pre3 : ∀ tq, Steps p.tables e below (s₁.setTop (mkF m 3 #[.val (.ref a1), .val (.int (0 : Int32)), .unset] [(.int (32768 : Int32)), (.int (0 : Int32))])) tq → Steps p.tables e below (s₁.setTop (entryFrame m #[(.ref a1), (.int (0 : Int32))] 3)) tq := fun tq kq => pre1 tq (X0.arraylength hx (by rw [e0]; exact Ar2.1) (State.isArrayOf_alike hZ.alike Ar2.2.1) (g := (mkF m 2 #[.val (.ref a1), .val (.int (0 : Int32)), .unset] [(.ref a1), (.int (0 : Int32))])) rfl rfl (hb hby d7_0_2) _ (by rw [len_of As2 An2]; exact kq))
  have pre4 : ∀ tq, Steps p.tables e below (s₁.setTop (mkF m 14 #[.val (.ref a1), .val (.int (0 : Int32)), .unset] [])) tq → Steps p.tables e below (s₁.setTop (entryFrame m #[(.ref a1), (.int (0 : Int32))] 3)) tq := by
    refine fun tq kq => pre3 tq ?_
    show Steps p.tables e below (s₁.setTop (mkF m 3 #[.val (.ref a1), .val (.int (0 : Int32)), .unset] [(.int (32768 : Int32)), (.int (0 : Int32))])) _
    refine XS.icmpYes X0.here hx rfl (pc0 := 3) (pc' := 14) rfl (hb hby d7_0_3) rfl (feq (by decide : ¬ ((0 : Int32) = (32768 : Int32)))).2 (by decide) (by decide) ?_
    exact kq
  have pre5 : ∀ tq, Steps p.tables e below (s₁.setTop (mkF m 15 #[.val (.ref a1), .val (.int (0 : Int32)), .unset] [(.int (0 : Int32))])) tq → Steps p.tables e below (s₁.setTop (entryFrame m #[(.ref a1), (.int (0 : Int32))] 3)) tq := by
    refine fun tq kq => pre4 tq ?_
    show Steps p.tables e below (s₁.setTop (mkF m 14 #[.val (.ref a1), .val (.int (0 : Int32)), .unset] [])) _
    refine XS.iloadN X0.here hx rfl (hb hby d7_0_14) rfl ?_
    exact kq
  obtain ⟨T6, h6, k6, X6, e6, E6, A6, st6⟩ := newP X0 hx hZ (hw _ (List.mem_of_getElem? (i := 36) rfl)) e0 (g := (mkF m 15 #[.val (.ref a1), .val (.int (0 : Int32)), .unset] [(.int (0 : Int32))])) rfl (hb hby d7_0_15) rfl (by decide) (cap := 0) (by decide) (by decide) (by decide) (by decide)
  obtain ⟨b6, g6⟩ : ∃ z, z = h0.size := ⟨_, rfl⟩
  rw [← g6] at A6 st6
  have g_b6 : n0 ≤ b6 := Nat.le_trans Z0 (Nat.le_of_eq g6.symm)
  have sz_b6 : h0.size ≤ b6 := Nat.le_trans (Nat.le_refl h0.size) (Nat.le_of_eq g6.symm)
  have ne7 : a1 ≠ b6 := Nat.ne_of_lt (Nat.lt_of_lt_of_le V_a1.lt (Nat.le_of_eq g6.symm))
  have pre8 : ∀ tq, Steps p.tables e below (T6.setTop (mkF m 17 #[.val (.ref a1), .val (.int (0 : Int32)), .unset] [(.ref b6)])) tq → Steps p.tables e below (s₁.setTop (entryFrame m #[(.ref a1), (.int (0 : Int32))] 3)) tq := fun tq kq => pre5 tq (st6 _ kq)
  have f9 := V_a1.ext E6
  have K6 : Keep h0 h6 [] := Keep.ext (Keep.refl h0 []) E6
  have f10 : Arv Z h6 b6 k6 .double (0 : Int32) [] (.double 0) := (Arv.new A6 (by decide)).pad (pad_rep [] (.double 0) 0)
  have pre11 : ∀ tq, Steps p.tables e below (T6.setTop (mkF m 23 #[.val (.ref a1), .val (.int (0 : Int32)), .val (.ref b6)] [(.ref a1), (.int (0 : Int32)), (.ref b6), (.int (0 : Int32)), (.ref a1)])) tq → Steps p.tables e below (s₁.setTop (entryFrame m #[(.ref a1), (.int (0 : Int32))] 3)) tq := by
    refine fun tq kq => pre8 tq ?_
    show Steps p.tables e below (T6.setTop (mkF m 17 #[.val (.ref a1), .val (.int (0 : Int32)), .unset] [(.ref b6)])) _
    refine XS.astoreN X6.here hx rfl (hb hby d7_0_17) rfl rfl (l' := #[.val (.ref a1), .val (.int (0 : Int32)), .val (.ref b6)]) rfl ?_
    show Steps p.tables e below (T6.setTop (mkF m 18 #[.val (.ref a1), .val (.int (0 : Int32)), .val (.ref b6)] [])) _
    refine XS.aloadN X6.here hx rfl (hb hby d7_0_18) rfl rfl ?_
    show Steps p.tables e below (T6.setTop (mkF m 19 #[.val (.ref a1), .val (.int (0 : Int32)), .val (.ref b6)] [(.ref a1)])) _
    refine XS.iconst X6.here hx rfl (hb hby d7_0_19) ?_
    show Steps p.tables e below (T6.setTop (mkF m 20 #[.val (.ref a1), .val (.int (0 : Int32)), .val (.ref b6)] [(.int (0 : Int32)), (.ref a1)])) _
    refine XS.aloadN X6.here hx rfl (hb hby d7_0_20) rfl rfl ?_
    show Steps p.tables e below (T6.setTop (mkF m 21 #[.val (.ref a1), .val (.int (0 : Int32)), .val (.ref b6)] [(.ref b6), (.int (0 : Int32)), (.ref a1)])) _
    refine XS.iconst X6.here hx rfl (hb hby d7_0_21) ?_
    show Steps p.tables e below (T6.setTop (mkF m 22 #[.val (.ref a1), .val (.int (0 : Int32)), .val (.ref b6)] [(.int (0 : Int32)), (.ref b6), (.int (0 : Int32)), (.ref a1)])) _
    refine XS.aloadN X6.here hx rfl (hb hby d7_0_22) rfl rfl ?_
    exact kq
  have Vc12 := f9
  obtain ⟨cl12, Ar12, Aq12, As12, An12, Ah12, Ag12⟩ := Vc12
  have pre13 : ∀ tq, Steps p.tables e below (T6.setTop (mkF m 24 #[.val (.ref a1), .val (.int (0 : Int32)), .val (.ref b6)] [(.int (32768 : Int32)), (.int (0 : Int32)), (.ref b6), (.int (0 : Int32)), (.ref a1)])) tq → Steps p.tables e below (s₁.setTop (entryFrame m #[(.ref a1), (.int (0 : Int32))] 3)) tq := fun tq kq => pre11 tq (X6.arraylength hx (by rw [e6]; exact Ar12.1) (State.isArrayOf_alike hZ.alike Ar12.2.1) (g := (mkF m 23 #[.val (.ref a1), .val (.int (0 : Int32)), .val (.ref b6)] [(.ref a1), (.int (0 : Int32)), (.ref b6), (.int (0 : Int32)), (.ref a1)])) rfl rfl (hb hby d7_0_23) _ (by rw [len_of As12 An12]; exact kq))
  have pre14 : ∀ tq, Steps p.tables e below (T6.setTop (mkF m 25 #[.val (.ref a1), .val (.int (0 : Int32)), .val (.ref b6)] [(.int (0 : Int32)), (.int (32768 : Int32)), (.int (0 : Int32)), (.ref b6), (.int (0 : Int32)), (.ref a1)])) tq → Steps p.tables e below (s₁.setTop (entryFrame m #[(.ref a1), (.int (0 : Int32))] 3)) tq := by
    refine fun tq kq => pre13 tq ?_
    show Steps p.tables e below (T6.setTop (mkF m 24 #[.val (.ref a1), .val (.int (0 : Int32)), .val (.ref b6)] [(.int (32768 : Int32)), (.int (0 : Int32)), (.ref b6), (.int (0 : Int32)), (.ref a1)])) _
    refine XS.iloadN X6.here hx rfl (hb hby d7_0_24) rfl ?_
    exact kq
  have Z15 : n0 ≤ h6.size := (Nat.le_trans Z0 E6.1)
  obtain ⟨_, _, ⟨T15, L15, k15, n15⟩, -, X15, ⟨Lc15, hQ15, l15, y15, z15⟩, st15⟩ := Jvm.LawKit.callS X6 hx (y := (⟨"java/lang/Math", "min", "(II)I"⟩ : MethodName)) hown (mvT hZ (hw _ (List.mem_of_getElem? (i := 50) rfl))) (mvT hZ (hw _ (List.mem_of_getElem? (i := 51) rfl))) (mvT hZ (hw _ (List.mem_of_getElem? (i := 52) rfl))) (mvT hZ (hw _ (List.mem_of_getElem? (i := 53) rfl))) (by decide) (backOf (W := 4) (rm8 l Z a0 hw [] (32768 : Int32) (0 : Int32)  h6 n0 Z15 ) hZ (hw _ (List.mem_of_getElem? (i := 53) rfl)) (hw _ (List.mem_of_getElem? (i := 52) rfl)) (by decide) (by decide)) (g := (mkF m 25 #[.val (.ref a1), .val (.int (0 : Int32)), .val (.ref b6)] [(.int (0 : Int32)), (.int (32768 : Int32)), (.int (0 : Int32)), (.ref b6), (.int (0 : Int32)), (.ref a1)])) rfl (by rw [hml]; rfl) (argsL := [(.int (32768 : Int32)), (.int (0 : Int32))]) (rest := [(.int (0 : Int32)), (.ref b6), (.int (0 : Int32)), (.ref a1)]) (lenOf pd7_0_0 rfl) rfl (by show 2 * 0 + _ ≤ _; exact Nat.le_of_eq rfl) (hb hby d7_0_25) (fun _ _ => ⟨rfl, e6, (by decide : (0 + 1) + 0 ≤ _), (by decide : (0 + 0) + 0 ≤ _)⟩)
  dsimp only [Pt.U, Pt.locs, Pt.cells, Pt.slots] at X15 l15 y15 z15 st15 hQ15
  subst l15 y15 z15
  obtain ⟨r16, rfl, Nq15, ehq15, hq15⟩ := hQ15
  have N15 := Fr.app N0 Nq15
  have pre17 : ∀ tq, Steps p.tables e below (T15.setTop (mkF m 28 #[.val (.ref a1), .val (.int (0 : Int32)), .val (.ref b6)] [(.int r16), (.int (0 : Int32)), (.ref b6), (.int (0 : Int32)), (.ref a1)])) tq → Steps p.tables e below (s₁.setTop (entryFrame m #[(.ref a1), (.int (0 : Int32))] 3)) tq := fun tq kq => pre14 tq (st15 _ kq)
  have hm_r16 : r16 = (0 : Int32) := by rcases hq15 with ⟨q1, q2⟩ | ⟨q1, q2⟩ <;> first | exact q2 | exact absurd q1 (by decide)
  subst hm_r16
  obtain ⟨T18, h18, Lc18, X18, e18, N18, Kq18, f19', st18⟩ := cpA X15 hx hZ hown (hw _ (List.mem_of_getElem? (i := 54) rfl)) (hw _ (List.mem_of_getElem? (i := 57) rfl)) (hw _ (List.mem_of_getElem? (i := 55) rfl)) (hw _ (List.mem_of_getElem? (i := 56) rfl)) ehq15 f9 f10 (us := []) (Or.inl ⟨rfl, rfl⟩) (by decide) (by decide) (by decide) (by decide) (by decide) rfl (by decide) N15 g_b6 (g := (mkF m 28 #[.val (.ref a1), .val (.int (0 : Int32)), .val (.ref b6)] [(.int (0 : Int32)), (.int (0 : Int32)), (.ref b6), (.int (0 : Int32)), (.ref a1)])) rfl (by rw [hml]; rfl) (rest := []) rfl (hb hby d7_0_28) (by decide) (W := 0) (by show 2 * 0 + _ ≤ _; exact Nat.le_of_eq rfl) (by decide)
  have f19 : Arv Z h18 b6 k6 .double (0 : Int32) [] (.double 0) := f19'
  have pre20 : ∀ tq, Steps p.tables e below (T18.setTop (mkF m 31 #[.val (.ref a1), .val (.int (0 : Int32)), .val (.ref b6)] [])) tq → Steps p.tables e below (s₁.setTop (entryFrame m #[(.ref a1), (.int (0 : Int32))] 3)) tq := fun tq kq => pre17 tq (st18 _ kq)
  have K18 : Keep h0 h18 [] := Keep.trans K6 Kq18 (allS (Or.inr sz_b6) all0)
  have f21 := f9.keep Kq18 (by simp only [List.mem_cons, List.not_mem_nil, or_false, not_or]; exact ne7)
  obtain ⟨fs, hr, hrun, hended, hW, hsame⟩ := X18.leave (v := some (.ref b6)) (fun h => by rw [Bd.returns] at h; cases h)
  refine ⟨_, _, pre20 _ ?_, hrun, hended, _, _, rfl, ?_, ⟨_, rfl⟩, hW, hsame.mono (by decide) (by decide)⟩
  · skip
    show Steps p.tables e below (T18.setTop (mkF m 31 #[.val (.ref a1), .val (.int (0 : Int32)), .val (.ref b6)] [])) _
    refine XS.aloadN X18.here hx rfl (hb hby d7_0_31) rfl rfl ?_
    show Steps p.tables e below (T18.setTop (mkF m 32 #[.val (.ref a1), .val (.int (0 : Int32)), .val (.ref b6)] [(.ref b6)])) _
    exact X18.areturnOut hx rfl Bd.returns rfl (hb hby d7_0_32) hr
  · show Q7_0 Z a1 k u0 u1 u2 h0 n0 _ T18.heap _
    rw [e18]
    refine ⟨b6, k6, rfl, N18, K18, f19, sz_b6, ?_⟩
    trivial
/-! body 7_1 -/
theorem d7_1_0 : decode jdk_65_method_127_code 0 = .ok (.iload_n 1, 1) := by decide +kernel
theorem d7_1_1 : decode jdk_65_method_127_code 1 = .ok (.aload_n 0, 1) := by decide +kernel
theorem d7_1_2 : decode jdk_65_method_127_code 2 = .ok (.arraylength, 1) := by decide +kernel
theorem d7_1_3 : decode jdk_65_method_127_code 3 = .ok (.if_icmp .ne 11, 3) := by decide +kernel
theorem d7_1_14 : decode jdk_65_method_127_code 14 = .ok (.iload_n 1, 1) := by decide +kernel
theorem d7_1_15 : decode jdk_65_method_127_code 15 = .ok (.newarray .double, 2) := by decide +kernel
theorem d7_1_17 : decode jdk_65_method_127_code 17 = .ok (.astore_n 2, 1) := by decide +kernel
theorem d7_1_18 : decode jdk_65_method_127_code 18 = .ok (.aload_n 0, 1) := by decide +kernel
theorem d7_1_19 : decode jdk_65_method_127_code 19 = .ok (.iconst 0, 1) := by decide +kernel
theorem d7_1_20 : decode jdk_65_method_127_code 20 = .ok (.aload_n 2, 1) := by decide +kernel
theorem d7_1_21 : decode jdk_65_method_127_code 21 = .ok (.iconst 0, 1) := by decide +kernel
theorem d7_1_22 : decode jdk_65_method_127_code 22 = .ok (.aload_n 0, 1) := by decide +kernel
theorem d7_1_23 : decode jdk_65_method_127_code 23 = .ok (.arraylength, 1) := by decide +kernel
theorem d7_1_24 : decode jdk_65_method_127_code 24 = .ok (.iload_n 1, 1) := by decide +kernel
theorem d7_1_25 : decode jdk_65_method_127_code 25 = .ok (.invokestatic 304, 3) := by decide +kernel
theorem d7_1_28 : decode jdk_65_method_127_code 28 = .ok (.invokestatic 150, 3) := by decide +kernel
theorem d7_1_31 : decode jdk_65_method_127_code 31 = .ok (.aload_n 2, 1) := by decide +kernel
theorem d7_1_32 : decode jdk_65_method_127_code 32 = .ok (.areturn, 1) := by decide +kernel
theorem pn_7_1 : plainName "java/util/Arrays" = true := by first | (simp [plainName, overriddenIn]; done) | decide +kernel
theorem pd7_1_0 : parseMethodDescriptor "(II)I" = some ⟨[.int, .int], some .int⟩ := by decide +kernel
theorem ef_7_1 (m : MethodId) (a1 : Addr) : entryFrame m #[(.ref a1), (.int (1 : Int32))] 3 = mkF m 0 #[.val (.ref a1), .val (.int (1 : Int32)), .unset] [] := by first | (simp [entryFrame, mkF, argsToLocals, Value.category]; done) | rfl
def Q7_1 (Z : State) (a1 : Addr) (k : ClassId) (u0 : UInt64) (u1 : UInt64) (u2 : UInt64) (h0 : Heap) (n0 : Nat) (v : Option Value) (h : Heap) (L : List Loc) : Prop := ∃ r : Addr, ∃ k2 : ClassId, v = some (.ref r) ∧ Fr n0 L ∧ Keep h0 h [] ∧ Arv Z h r k2 .double (1 : Int32) [(.double u0)] (.double 0) ∧ h0.size ≤ r ∧ (True)
set_option maxRecDepth 65536 in
set_option maxHeartbeats 40000000 in
theorem rm7_1 (l : Launch) (Z : State) (a0 : Array Value) (hw : ∀ d ∈ tables_1, d.before a0 Z = true) (ws : List Jvm.Cond) (a1 : Addr) (k : ClassId) (u0 : UInt64) (u1 : UInt64) (u2 : UInt64) (h0 : Heap) (n0 : Nat) (Z0 : n0 ≤ h0.size) (V_a1 : Arv Z h0 a1 k .double (32768 : Int32) [(.double u0), (.double u1), (.double u2)] (.double 0)) :
    MetFree l (⟨"java/util/Arrays", "copyOf", "([DI)[D"⟩ : MethodName) (head1 (Jvm.Cond.code (⟨"java/util/Arrays", "copyOf", "([DI)[D"⟩ : MethodName) jdk_65_method_127_code 3 (some (.array .double)) :: ws) ({ frames := 1, cells := 1, slots := 1, locals := 40 } : Room)) (fun a U => a = #[(.ref a1), (.int (1 : Int32))] ∧ Z.Warmed39 U.vm ∧ U.heap = h0) (fun _ _ _ _ _ => True) (fun _ U o U' => ∃ v L, o = .returned v ∧ Q7_1 Z a1 k u0 u1 u2 h0 n0 v U'.heap L ∧ FrameEnd U o U' L ({ frames := 1, cells := 1, slots := 1, locals := 40 } : Room).cells ({ frames := 1, cells := 1, slots := 1, locals := 40 } : Room).slots) := by
  refine MetFree.of_bodySF (plainFor_of_name pn_7_1) hisR ?_
  intro p e s m args below meth c s₁ Bd hml0 hP hK
  obtain ⟨rfl, hZ, hh⟩ := hP
  have hx := Bd.exec
  have hby := Bd.bytes
  have hml : c.maxLocals = 3 := hml0
  have hown : s.vm.findClass "java/util/Arrays" = some m.cls := findClass_of_methodNamed Bd.named
  have hnm := (name_of_methodNamed Bd.named Bd.method).1
  have X0 : Stand p l e ({ frames := 1, cells := 1, slots := 1, locals := 40 } : Room) s m #[(.ref a1), (.int (1 : Int32))] below meth c s₁ [] 0 0 := Stand.of_body Bd
  have e0 : s₁.heap = h0 := by rw [← hh, Bd.state]; rfl
  have N0 := Fr.nil n0
  have pre0 : ∀ tq, Steps p.tables e below (s₁.setTop (mkF m 0 #[.val (.ref a1), .val (.int (1 : Int32)), .unset] [])) tq → Steps p.tables e below (s₁.setTop (entryFrame m #[(.ref a1), (.int (1 : Int32))] 3)) tq := fun tq kq => castTop (ef_7_1 m a1) kq
  have pre1 : ∀ tq, Steps p.tables e below (s₁.setTop (mkF m 2 #[.val (.ref a1), .val (.int (1 : Int32)), .unset] [(.ref a1), (.int (1 : Int32))])) tq → Steps p.tables e below (s₁.setTop (entryFrame m #[(.ref a1), (.int (1 : Int32))] 3)) tq := by
    refine fun tq kq => pre0 tq ?_
    show Steps p.tables e below (s₁.setTop (mkF m 0 #[.val (.ref a1), .val (.int (1 : Int32)), .unset] [])) _
    refine XS.iloadN X0.here hx rfl (hb hby d7_1_0) rfl ?_
    show Steps p.tables e below (s₁.setTop (mkF m 1 #[.val (.ref a1), .val (.int (1 : Int32)), .unset] [(.int (1 : Int32))])) _
    refine XS.aloadN X0.here hx rfl (hb hby d7_1_1) rfl rfl ?_
    exact kq
  have Vc2 := V_a1
  obtain ⟨cl2, Ar2, Aq2, As2, An2, Ah2, Ag2⟩ := Vc2
  have pre3 : ∀ tq, Steps p.tables e below (s₁.setTop (mkF m 3 #[.val (.ref a1), .val (.int (1 : Int32)), .unset] [(.int (32768 : Int32)), (.int (1 : Int32))])) tq → Steps p.tables e below (s₁.setTop (entryFrame m #[(.ref a1), (.int (1 : Int32))] 3)) tq := fun tq kq => pre1 tq (X0.arraylength hx (by rw [e0]; exact Ar2.1) (State.isArrayOf_alike hZ.alike Ar2.2.1) (g := (mkF m 2 #[.val (.ref a1), .val (.int (1 : Int32)), .unset] [(.ref a1), (.int (1 : Int32))])) rfl rfl (hb hby d7_1_2) _ (by rw [len_of As2 An2]; exact kq))
  have pre4 : ∀ tq, Steps p.tables e below (s₁.setTop (mkF m 14 #[.val (.ref a1), .val (.int (1 : Int32)), .unset] [])) tq → Steps p.tables e below (s₁.setTop (entryFrame m #[(.ref a1), (.int (1 : Int32))] 3)) tq := by
    refine fun tq kq => pre3 tq ?_
    show Steps p.tables e below (s₁.setTop (mkF m 3 #[.val (.ref a1), .val (.int (1 : Int32)), .unset] [(.int (32768 : Int32)), (.int (1 : Int32))])) _
    refine XS.icmpYes X0.here hx rfl (pc0 := 3) (pc' := 14) rfl (hb hby d7_1_3) rfl (feq (by decide : ¬ ((1 : Int32) = (32768 : Int32)))).2 (by decide) (by decide) ?_
    exact kq
  have pre5 : ∀ tq, Steps p.tables e below (s₁.setTop (mkF m 15 #[.val (.ref a1), .val (.int (1 : Int32)), .unset] [(.int (1 : Int32))])) tq → Steps p.tables e below (s₁.setTop (entryFrame m #[(.ref a1), (.int (1 : Int32))] 3)) tq := by
    refine fun tq kq => pre4 tq ?_
    show Steps p.tables e below (s₁.setTop (mkF m 14 #[.val (.ref a1), .val (.int (1 : Int32)), .unset] [])) _
    refine XS.iloadN X0.here hx rfl (hb hby d7_1_14) rfl ?_
    exact kq
  obtain ⟨T6, h6, k6, X6, e6, E6, A6, st6⟩ := newP X0 hx hZ (hw _ (List.mem_of_getElem? (i := 36) rfl)) e0 (g := (mkF m 15 #[.val (.ref a1), .val (.int (1 : Int32)), .unset] [(.int (1 : Int32))])) rfl (hb hby d7_1_15) rfl (by decide) (cap := 1) (by decide) (by decide) (by decide) (by decide)
  obtain ⟨b6, g6⟩ : ∃ z, z = h0.size := ⟨_, rfl⟩
  rw [← g6] at A6 st6
  have g_b6 : n0 ≤ b6 := Nat.le_trans Z0 (Nat.le_of_eq g6.symm)
  have sz_b6 : h0.size ≤ b6 := Nat.le_trans (Nat.le_refl h0.size) (Nat.le_of_eq g6.symm)
  have ne7 : a1 ≠ b6 := Nat.ne_of_lt (Nat.lt_of_lt_of_le V_a1.lt (Nat.le_of_eq g6.symm))
  have pre8 : ∀ tq, Steps p.tables e below (T6.setTop (mkF m 17 #[.val (.ref a1), .val (.int (1 : Int32)), .unset] [(.ref b6)])) tq → Steps p.tables e below (s₁.setTop (entryFrame m #[(.ref a1), (.int (1 : Int32))] 3)) tq := fun tq kq => pre5 tq (st6 _ kq)
  have f9 := V_a1.ext E6
  have K6 : Keep h0 h6 [] := Keep.ext (Keep.refl h0 []) E6
  have f10 : Arv Z h6 b6 k6 .double (1 : Int32) [(.double 0)] (.double 0) := (Arv.new A6 (by decide)).pad (pad_rep [] (.double 0) 1)
  have pre11 : ∀ tq, Steps p.tables e below (T6.setTop (mkF m 23 #[.val (.ref a1), .val (.int (1 : Int32)), .val (.ref b6)] [(.ref a1), (.int (0 : Int32)), (.ref b6), (.int (0 : Int32)), (.ref a1)])) tq → Steps p.tables e below (s₁.setTop (entryFrame m #[(.ref a1), (.int (1 : Int32))] 3)) tq := by
    refine fun tq kq => pre8 tq ?_
    show Steps p.tables e below (T6.setTop (mkF m 17 #[.val (.ref a1), .val (.int (1 : Int32)), .unset] [(.ref b6)])) _
    refine XS.astoreN X6.here hx rfl (hb hby d7_1_17) rfl rfl (l' := #[.val (.ref a1), .val (.int (1 : Int32)), .val (.ref b6)]) rfl ?_
    show Steps p.tables e below (T6.setTop (mkF m 18 #[.val (.ref a1), .val (.int (1 : Int32)), .val (.ref b6)] [])) _
    refine XS.aloadN X6.here hx rfl (hb hby d7_1_18) rfl rfl ?_
    show Steps p.tables e below (T6.setTop (mkF m 19 #[.val (.ref a1), .val (.int (1 : Int32)), .val (.ref b6)] [(.ref a1)])) _
    refine XS.iconst X6.here hx rfl (hb hby d7_1_19) ?_
    show Steps p.tables e below (T6.setTop (mkF m 20 #[.val (.ref a1), .val (.int (1 : Int32)), .val (.ref b6)] [(.int (0 : Int32)), (.ref a1)])) _
    refine XS.aloadN X6.here hx rfl (hb hby d7_1_20) rfl rfl ?_
    show Steps p.tables e below (T6.setTop (mkF m 21 #[.val (.ref a1), .val (.int (1 : Int32)), .val (.ref b6)] [(.ref b6), (.int (0 : Int32)), (.ref a1)])) _
    refine XS.iconst X6.here hx rfl (hb hby d7_1_21) ?_
    show Steps p.tables e below (T6.setTop (mkF m 22 #[.val (.ref a1), .val (.int (1 : Int32)), .val (.ref b6)] [(.int (0 : Int32)), (.ref b6), (.int (0 : Int32)), (.ref a1)])) _
    refine XS.aloadN X6.here hx rfl (hb hby d7_1_22) rfl rfl ?_
    exact kq
  have Vc12 := f9
  obtain ⟨cl12, Ar12, Aq12, As12, An12, Ah12, Ag12⟩ := Vc12
  have pre13 : ∀ tq, Steps p.tables e below (T6.setTop (mkF m 24 #[.val (.ref a1), .val (.int (1 : Int32)), .val (.ref b6)] [(.int (32768 : Int32)), (.int (0 : Int32)), (.ref b6), (.int (0 : Int32)), (.ref a1)])) tq → Steps p.tables e below (s₁.setTop (entryFrame m #[(.ref a1), (.int (1 : Int32))] 3)) tq := fun tq kq => pre11 tq (X6.arraylength hx (by rw [e6]; exact Ar12.1) (State.isArrayOf_alike hZ.alike Ar12.2.1) (g := (mkF m 23 #[.val (.ref a1), .val (.int (1 : Int32)), .val (.ref b6)] [(.ref a1), (.int (0 : Int32)), (.ref b6), (.int (0 : Int32)), (.ref a1)])) rfl rfl (hb hby d7_1_23) _ (by rw [len_of As12 An12]; exact kq))
  have pre14 : ∀ tq, Steps p.tables e below (T6.setTop (mkF m 25 #[.val (.ref a1), .val (.int (1 : Int32)), .val (.ref b6)] [(.int (1 : Int32)), (.int (32768 : Int32)), (.int (0 : Int32)), (.ref b6), (.int (0 : Int32)), (.ref a1)])) tq → Steps p.tables e below (s₁.setTop (entryFrame m #[(.ref a1), (.int (1 : Int32))] 3)) tq := by
    refine fun tq kq => pre13 tq ?_
    show Steps p.tables e below (T6.setTop (mkF m 24 #[.val (.ref a1), .val (.int (1 : Int32)), .val (.ref b6)] [(.int (32768 : Int32)), (.int (0 : Int32)), (.ref b6), (.int (0 : Int32)), (.ref a1)])) _
    refine XS.iloadN X6.here hx rfl (hb hby d7_1_24) rfl ?_
    exact kq
  have Z15 : n0 ≤ h6.size := (Nat.le_trans Z0 E6.1)
  obtain ⟨_, _, ⟨T15, L15, k15, n15⟩, -, X15, ⟨Lc15, hQ15, l15, y15, z15⟩, st15⟩ := Jvm.LawKit.callS X6 hx (y := (⟨"java/lang/Math", "min", "(II)I"⟩ : MethodName)) hown (mvT hZ (hw _ (List.mem_of_getElem? (i := 50) rfl))) (mvT hZ (hw _ (List.mem_of_getElem? (i := 51) rfl))) (mvT hZ (hw _ (List.mem_of_getElem? (i := 52) rfl))) (mvT hZ (hw _ (List.mem_of_getElem? (i := 53) rfl))) (by decide) (backOf (W := 4) (rm8 l Z a0 hw [] (32768 : Int32) (1 : Int32)  h6 n0 Z15 ) hZ (hw _ (List.mem_of_getElem? (i := 53) rfl)) (hw _ (List.mem_of_getElem? (i := 52) rfl)) (by decide) (by decide)) (g := (mkF m 25 #[.val (.ref a1), .val (.int (1 : Int32)), .val (.ref b6)] [(.int (1 : Int32)), (.int (32768 : Int32)), (.int (0 : Int32)), (.ref b6), (.int (0 : Int32)), (.ref a1)])) rfl (by rw [hml]; rfl) (argsL := [(.int (32768 : Int32)), (.int (1 : Int32))]) (rest := [(.int (0 : Int32)), (.ref b6), (.int (0 : Int32)), (.ref a1)]) (lenOf pd7_1_0 rfl) rfl (by show 2 * 0 + _ ≤ _; exact Nat.le_of_eq rfl) (hb hby d7_1_25) (fun _ _ => ⟨rfl, e6, (by decide : (0 + 1) + 0 ≤ _), (by decide : (0 + 1) + 0 ≤ _)⟩)
  dsimp only [Pt.U, Pt.locs, Pt.cells, Pt.slots] at X15 l15 y15 z15 st15 hQ15
  subst l15 y15 z15
  obtain ⟨r16, rfl, Nq15, ehq15, hq15⟩ := hQ15
  have N15 := Fr.app N0 Nq15
  have pre17 : ∀ tq, Steps p.tables e below (T15.setTop (mkF m 28 #[.val (.ref a1), .val (.int (1 : Int32)), .val (.ref b6)] [(.int r16), (.int (0 : Int32)), (.ref b6), (.int (0 : Int32)), (.ref a1)])) tq → Steps p.tables e below (s₁.setTop (entryFrame m #[(.ref a1), (.int (1 : Int32))] 3)) tq := fun tq kq => pre14 tq (st15 _ kq)
  have hm_r16 : r16 = (1 : Int32) := by rcases hq15 with ⟨q1, q2⟩ | ⟨q1, q2⟩ <;> first | exact q2 | exact absurd q1 (by decide)
  subst hm_r16
  obtain ⟨T18, h18, Lc18, X18, e18, N18, Kq18, f19', st18⟩ := cpA X15 hx hZ hown (hw _ (List.mem_of_getElem? (i := 54) rfl)) (hw _ (List.mem_of_getElem? (i := 57) rfl)) (hw _ (List.mem_of_getElem? (i := 55) rfl)) (hw _ (List.mem_of_getElem? (i := 56) rfl)) ehq15 f9 f10 (us := [(.double u0)]) (Or.inl ⟨rfl, rfl⟩) (by decide) (by decide) (by decide) (by decide) (by decide) rfl (by decide) N15 g_b6 (g := (mkF m 28 #[.val (.ref a1), .val (.int (1 : Int32)), .val (.ref b6)] [(.int (1 : Int32)), (.int (0 : Int32)), (.ref b6), (.int (0 : Int32)), (.ref a1)])) rfl (by rw [hml]; rfl) (rest := []) rfl (hb hby d7_1_28) (by decide) (W := 0) (by show 2 * 0 + _ ≤ _; exact Nat.le_of_eq rfl) (by decide)
  have f19 : Arv Z h18 b6 k6 .double (1 : Int32) [(.double u0)] (.double 0) := f19'
  have pre20 : ∀ tq, Steps p.tables e below (T18.setTop (mkF m 31 #[.val (.ref a1), .val (.int (1 : Int32)), .val (.ref b6)] [])) tq → Steps p.tables e below (s₁.setTop (entryFrame m #[(.ref a1), (.int (1 : Int32))] 3)) tq := fun tq kq => pre17 tq (st18 _ kq)
  have K18 : Keep h0 h18 [] := Keep.trans K6 Kq18 (allS (Or.inr sz_b6) all0)
  have f21 := f9.keep Kq18 (by simp only [List.mem_cons, List.not_mem_nil, or_false, not_or]; exact ne7)
  obtain ⟨fs, hr, hrun, hended, hW, hsame⟩ := X18.leave (v := some (.ref b6)) (fun h => by rw [Bd.returns] at h; cases h)
  refine ⟨_, _, pre20 _ ?_, hrun, hended, _, _, rfl, ?_, ⟨_, rfl⟩, hW, hsame.mono (by decide) (by decide)⟩
  · skip
    show Steps p.tables e below (T18.setTop (mkF m 31 #[.val (.ref a1), .val (.int (1 : Int32)), .val (.ref b6)] [])) _
    refine XS.aloadN X18.here hx rfl (hb hby d7_1_31) rfl rfl ?_
    show Steps p.tables e below (T18.setTop (mkF m 32 #[.val (.ref a1), .val (.int (1 : Int32)), .val (.ref b6)] [(.ref b6)])) _
    exact X18.areturnOut hx rfl Bd.returns rfl (hb hby d7_1_32) hr
  · show Q7_1 Z a1 k u0 u1 u2 h0 n0 _ T18.heap _
    rw [e18]
    refine ⟨b6, k6, rfl, N18, K18, f19, sz_b6, ?_⟩
    trivial
/-! body 7_2 -/
theorem d7_2_0 : decode jdk_65_method_127_code 0 = .ok (.iload_n 1, 1) := by decide +kernel
theorem d7_2_1 : decode jdk_65_method_127_code 1 = .ok (.aload_n 0, 1) := by decide +kernel
theorem d7_2_2 : decode jdk_65_method_127_code 2 = .ok (.arraylength, 1) := by decide +kernel
theorem d7_2_3 : decode jdk_65_method_127_code 3 = .ok (.if_icmp .ne 11, 3) := by decide +kernel
theorem d7_2_14 : decode jdk_65_method_127_code 14 = .ok (.iload_n 1, 1) := by decide +kernel
theorem d7_2_15 : decode jdk_65_method_127_code 15 = .ok (.newarray .double, 2) := by decide +kernel
theorem d7_2_17 : decode jdk_65_method_127_code 17 = .ok (.astore_n 2, 1) := by decide +kernel
theorem d7_2_18 : decode jdk_65_method_127_code 18 = .ok (.aload_n 0, 1) := by decide +kernel
theorem d7_2_19 : decode jdk_65_method_127_code 19 = .ok (.iconst 0, 1) := by decide +kernel
theorem d7_2_20 : decode jdk_65_method_127_code 20 = .ok (.aload_n 2, 1) := by decide +kernel
theorem d7_2_21 : decode jdk_65_method_127_code 21 = .ok (.iconst 0, 1) := by decide +kernel
theorem d7_2_22 : decode jdk_65_method_127_code 22 = .ok (.aload_n 0, 1) := by decide +kernel
theorem d7_2_23 : decode jdk_65_method_127_code 23 = .ok (.arraylength, 1) := by decide +kernel
theorem d7_2_24 : decode jdk_65_method_127_code 24 = .ok (.iload_n 1, 1) := by decide +kernel
theorem d7_2_25 : decode jdk_65_method_127_code 25 = .ok (.invokestatic 304, 3) := by decide +kernel
theorem d7_2_28 : decode jdk_65_method_127_code 28 = .ok (.invokestatic 150, 3) := by decide +kernel
theorem d7_2_31 : decode jdk_65_method_127_code 31 = .ok (.aload_n 2, 1) := by decide +kernel
theorem d7_2_32 : decode jdk_65_method_127_code 32 = .ok (.areturn, 1) := by decide +kernel
theorem pn_7_2 : plainName "java/util/Arrays" = true := by first | (simp [plainName, overriddenIn]; done) | decide +kernel
theorem pd7_2_0 : parseMethodDescriptor "(II)I" = some ⟨[.int, .int], some .int⟩ := by decide +kernel
theorem ef_7_2 (m : MethodId) (a1 : Addr) : entryFrame m #[(.ref a1), (.int (2 : Int32))] 3 = mkF m 0 #[.val (.ref a1), .val (.int (2 : Int32)), .unset] [] := by first | (simp [entryFrame, mkF, argsToLocals, Value.category]; done) | rfl
def Q7_2 (Z : State) (a1 : Addr) (k : ClassId) (u0 : UInt64) (u1 : UInt64) (u2 : UInt64) (h0 : Heap) (n0 : Nat) (v : Option Value) (h : Heap) (L : List Loc) : Prop := ∃ r : Addr, ∃ k2 : ClassId, v = some (.ref r) ∧ Fr n0 L ∧ Keep h0 h [] ∧ Arv Z h r k2 .double (2 : Int32) [(.double u0), (.double u1)] (.double 0) ∧ h0.size ≤ r ∧ (True)
set_option maxRecDepth 65536 in
set_option maxHeartbeats 40000000 in
theorem rm7_2 (l : Launch) (Z : State) (a0 : Array Value) (hw : ∀ d ∈ tables_1, d.before a0 Z = true) (ws : List Jvm.Cond) (a1 : Addr) (k : ClassId) (u0 : UInt64) (u1 : UInt64) (u2 : UInt64) (h0 : Heap) (n0 : Nat) (Z0 : n0 ≤ h0.size) (V_a1 : Arv Z h0 a1 k .double (32768 : Int32) [(.double u0), (.double u1), (.double u2)] (.double 0)) :
    MetFree l (⟨"java/util/Arrays", "copyOf", "([DI)[D"⟩ : MethodName) (head1 (Jvm.Cond.code (⟨"java/util/Arrays", "copyOf", "([DI)[D"⟩ : MethodName) jdk_65_method_127_code 3 (some (.array .double)) :: ws) ({ frames := 1, cells := 1, slots := 2, locals := 40 } : Room)) (fun a U => a = #[(.ref a1), (.int (2 : Int32))] ∧ Z.Warmed39 U.vm ∧ U.heap = h0) (fun _ _ _ _ _ => True) (fun _ U o U' => ∃ v L, o = .returned v ∧ Q7_2 Z a1 k u0 u1 u2 h0 n0 v U'.heap L ∧ FrameEnd U o U' L ({ frames := 1, cells := 1, slots := 2, locals := 40 } : Room).cells ({ frames := 1, cells := 1, slots := 2, locals := 40 } : Room).slots) := by
  refine MetFree.of_bodySF (plainFor_of_name pn_7_2) hisR ?_
  intro p e s m args below meth c s₁ Bd hml0 hP hK
  obtain ⟨rfl, hZ, hh⟩ := hP
  have hx := Bd.exec
  have hby := Bd.bytes
  have hml : c.maxLocals = 3 := hml0
  have hown : s.vm.findClass "java/util/Arrays" = some m.cls := findClass_of_methodNamed Bd.named
  have hnm := (name_of_methodNamed Bd.named Bd.method).1
  have X0 : Stand p l e ({ frames := 1, cells := 1, slots := 2, locals := 40 } : Room) s m #[(.ref a1), (.int (2 : Int32))] below meth c s₁ [] 0 0 := Stand.of_body Bd
  have e0 : s₁.heap = h0 := by rw [← hh, Bd.state]; rfl
  have N0 := Fr.nil n0
  have pre0 : ∀ tq, Steps p.tables e below (s₁.setTop (mkF m 0 #[.val (.ref a1), .val (.int (2 : Int32)), .unset] [])) tq → Steps p.tables e below (s₁.setTop (entryFrame m #[(.ref a1), (.int (2 : Int32))] 3)) tq := fun tq kq => castTop (ef_7_2 m a1) kq
  have pre1 : ∀ tq, Steps p.tables e below (s₁.setTop (mkF m 2 #[.val (.ref a1), .val (.int (2 : Int32)), .unset] [(.ref a1), (.int (2 : Int32))])) tq → Steps p.tables e below (s₁.setTop (entryFrame m #[(.ref a1), (.int (2 : Int32))] 3)) tq := by
    refine fun tq kq => pre0 tq ?_
    show Steps p.tables e below (s₁.setTop (mkF m 0 #[.val (.ref a1), .val (.int (2 : Int32)), .unset] [])) _
    refine XS.iloadN X0.here hx rfl (hb hby d7_2_0) rfl ?_
    show Steps p.tables e below (s₁.setTop (mkF m 1 #[.val (.ref a1), .val (.int (2 : Int32)), .unset] [(.int (2 : Int32))])) _
    refine XS.aloadN X0.here hx rfl (hb hby d7_2_1) rfl rfl ?_
    exact kq
  have Vc2 := V_a1
  obtain ⟨cl2, Ar2, Aq2, As2, An2, Ah2, Ag2⟩ := Vc2
  have pre3 : ∀ tq, Steps p.tables e below (s₁.setTop (mkF m 3 #[.val (.ref a1), .val (.int (2 : Int32)), .unset] [(.int (32768 : Int32)), (.int (2 : Int32))])) tq → Steps p.tables e below (s₁.setTop (entryFrame m #[(.ref a1), (.int (2 : Int32))] 3)) tq := fun tq kq => pre1 tq (X0.arraylength hx (by rw [e0]; exact Ar2.1) (State.isArrayOf_alike hZ.alike Ar2.2.1) (g := (mkF m 2 #[.val (.ref a1), .val (.int (2 : Int32)), .unset] [(.ref a1), (.int (2 : Int32))])) rfl rfl (hb hby d7_2_2) _ (by rw [len_of As2 An2]; exact kq))
  have pre4 : ∀ tq, Steps p.tables e below (s₁.setTop (mkF m 14 #[.val (.ref a1), .val (.int (2 : Int32)), .unset] [])) tq → Steps p.tables e below (s₁.setTop (entryFrame m #[(.ref a1), (.int (2 : Int32))] 3)) tq := by
    refine fun tq kq => pre3 tq ?_
    show Steps p.tables e below (s₁.setTop (mkF m 3 #[.val (.ref a1), .val (.int (2 : Int32)), .unset] [(.int (32768 : Int32)), (.int (2 : Int32))])) _
    refine XS.icmpYes X0.here hx rfl (pc0 := 3) (pc' := 14) rfl (hb hby d7_2_3) rfl (feq (by decide : ¬ ((2 : Int32) = (32768 : Int32)))).2 (by decide) (by decide) ?_
    exact kq
  have pre5 : ∀ tq, Steps p.tables e below (s₁.setTop (mkF m 15 #[.val (.ref a1), .val (.int (2 : Int32)), .unset] [(.int (2 : Int32))])) tq → Steps p.tables e below (s₁.setTop (entryFrame m #[(.ref a1), (.int (2 : Int32))] 3)) tq := by
    refine fun tq kq => pre4 tq ?_
    show Steps p.tables e below (s₁.setTop (mkF m 14 #[.val (.ref a1), .val (.int (2 : Int32)), .unset] [])) _
    refine XS.iloadN X0.here hx rfl (hb hby d7_2_14) rfl ?_
    exact kq
  obtain ⟨T6, h6, k6, X6, e6, E6, A6, st6⟩ := newP X0 hx hZ (hw _ (List.mem_of_getElem? (i := 36) rfl)) e0 (g := (mkF m 15 #[.val (.ref a1), .val (.int (2 : Int32)), .unset] [(.int (2 : Int32))])) rfl (hb hby d7_2_15) rfl (by decide) (cap := 2) (by decide) (by decide) (by decide) (by decide)
  obtain ⟨b6, g6⟩ : ∃ z, z = h0.size := ⟨_, rfl⟩
  rw [← g6] at A6 st6
  have g_b6 : n0 ≤ b6 := Nat.le_trans Z0 (Nat.le_of_eq g6.symm)
  have sz_b6 : h0.size ≤ b6 := Nat.le_trans (Nat.le_refl h0.size) (Nat.le_of_eq g6.symm)
  have ne7 : a1 ≠ b6 := Nat.ne_of_lt (Nat.lt_of_lt_of_le V_a1.lt (Nat.le_of_eq g6.symm))
  have pre8 : ∀ tq, Steps p.tables e below (T6.setTop (mkF m 17 #[.val (.ref a1), .val (.int (2 : Int32)), .unset] [(.ref b6)])) tq → Steps p.tables e below (s₁.setTop (entryFrame m #[(.ref a1), (.int (2 : Int32))] 3)) tq := fun tq kq => pre5 tq (st6 _ kq)
  have f9 := V_a1.ext E6
  have K6 : Keep h0 h6 [] := Keep.ext (Keep.refl h0 []) E6
  have f10 : Arv Z h6 b6 k6 .double (2 : Int32) [(.double 0), (.double 0)] (.double 0) := (Arv.new A6 (by decide)).pad (pad_rep [] (.double 0) 2)
  have pre11 : ∀ tq, Steps p.tables e below (T6.setTop (mkF m 23 #[.val (.ref a1), .val (.int (2 : Int32)), .val (.ref b6)] [(.ref a1), (.int (0 : Int32)), (.ref b6), (.int (0 : Int32)), (.ref a1)])) tq → Steps p.tables e below (s₁.setTop (entryFrame m #[(.ref a1), (.int (2 : Int32))] 3)) tq := by
    refine fun tq kq => pre8 tq ?_
    show Steps p.tables e below (T6.setTop (mkF m 17 #[.val (.ref a1), .val (.int (2 : Int32)), .unset] [(.ref b6)])) _
    refine XS.astoreN X6.here hx rfl (hb hby d7_2_17) rfl rfl (l' := #[.val (.ref a1), .val (.int (2 : Int32)), .val (.ref b6)]) rfl ?_
    show Steps p.tables e below (T6.setTop (mkF m 18 #[.val (.ref a1), .val (.int (2 : Int32)), .val (.ref b6)] [])) _
    refine XS.aloadN X6.here hx rfl (hb hby d7_2_18) rfl rfl ?_
    show Steps p.tables e below (T6.setTop (mkF m 19 #[.val (.ref a1), .val (.int (2 : Int32)), .val (.ref b6)] [(.ref a1)])) _
    refine XS.iconst X6.here hx rfl (hb hby d7_2_19) ?_
    show Steps p.tables e below (T6.setTop (mkF m 20 #[.val (.ref a1), .val (.int (2 : Int32)), .val (.ref b6)] [(.int (0 : Int32)), (.ref a1)])) _
    refine XS.aloadN X6.here hx rfl (hb hby d7_2_20) rfl rfl ?_
    show Steps p.tables e below (T6.setTop (mkF m 21 #[.val (.ref a1), .val (.int (2 : Int32)), .val (.ref b6)] [(.ref b6), (.int (0 : Int32)), (.ref a1)])) _
    refine XS.iconst X6.here hx rfl (hb hby d7_2_21) ?_
    show Steps p.tables e below (T6.setTop (mkF m 22 #[.val (.ref a1), .val (.int (2 : Int32)), .val (.ref b6)] [(.int (0 : Int32)), (.ref b6), (.int (0 : Int32)), (.ref a1)])) _
    refine XS.aloadN X6.here hx rfl (hb hby d7_2_22) rfl rfl ?_
    exact kq
  have Vc12 := f9
  obtain ⟨cl12, Ar12, Aq12, As12, An12, Ah12, Ag12⟩ := Vc12
  have pre13 : ∀ tq, Steps p.tables e below (T6.setTop (mkF m 24 #[.val (.ref a1), .val (.int (2 : Int32)), .val (.ref b6)] [(.int (32768 : Int32)), (.int (0 : Int32)), (.ref b6), (.int (0 : Int32)), (.ref a1)])) tq → Steps p.tables e below (s₁.setTop (entryFrame m #[(.ref a1), (.int (2 : Int32))] 3)) tq := fun tq kq => pre11 tq (X6.arraylength hx (by rw [e6]; exact Ar12.1) (State.isArrayOf_alike hZ.alike Ar12.2.1) (g := (mkF m 23 #[.val (.ref a1), .val (.int (2 : Int32)), .val (.ref b6)] [(.ref a1), (.int (0 : Int32)), (.ref b6), (.int (0 : Int32)), (.ref a1)])) rfl rfl (hb hby d7_2_23) _ (by rw [len_of As12 An12]; exact kq))
  have pre14 : ∀ tq, Steps p.tables e below (T6.setTop (mkF m 25 #[.val (.ref a1), .val (.int (2 : Int32)), .val (.ref b6)] [(.int (2 : Int32)), (.int (32768 : Int32)), (.int (0 : Int32)), (.ref b6), (.int (0 : Int32)), (.ref a1)])) tq → Steps p.tables e below (s₁.setTop (entryFrame m #[(.ref a1), (.int (2 : Int32))] 3)) tq := by
    refine fun tq kq => pre13 tq ?_
    show Steps p.tables e below (T6.setTop (mkF m 24 #[.val (.ref a1), .val (.int (2 : Int32)), .val (.ref b6)] [(.int (32768 : Int32)), (.int (0 : Int32)), (.ref b6), (.int (0 : Int32)), (.ref a1)])) _
    refine XS.iloadN X6.here hx rfl (hb hby d7_2_24) rfl ?_
    exact kq
  have Z15 : n0 ≤ h6.size := (Nat.le_trans Z0 E6.1)
  obtain ⟨_, _, ⟨T15, L15, k15, n15⟩, -, X15, ⟨Lc15, hQ15, l15, y15, z15⟩, st15⟩ := Jvm.LawKit.callS X6 hx (y := (⟨"java/lang/Math", "min", "(II)I"⟩ : MethodName)) hown (mvT hZ (hw _ (List.mem_of_getElem? (i := 50) rfl))) (mvT hZ (hw _ (List.mem_of_getElem? (i := 51) rfl))) (mvT hZ (hw _ (List.mem_of_getElem? (i := 52) rfl))) (mvT hZ (hw _ (List.mem_of_getElem? (i := 53) rfl))) (by decide) (backOf (W := 4) (rm8 l Z a0 hw [] (32768 : Int32) (2 : Int32)  h6 n0 Z15 ) hZ (hw _ (List.mem_of_getElem? (i := 53) rfl)) (hw _ (List.mem_of_getElem? (i := 52) rfl)) (by decide) (by decide)) (g := (mkF m 25 #[.val (.ref a1), .val (.int (2 : Int32)), .val (.ref b6)] [(.int (2 : Int32)), (.int (32768 : Int32)), (.int (0 : Int32)), (.ref b6), (.int (0 : Int32)), (.ref a1)])) rfl (by rw [hml]; rfl) (argsL := [(.int (32768 : Int32)), (.int (2 : Int32))]) (rest := [(.int (0 : Int32)), (.ref b6), (.int (0 : Int32)), (.ref a1)]) (lenOf pd7_2_0 rfl) rfl (by show 2 * 0 + _ ≤ _; exact Nat.le_of_eq rfl) (hb hby d7_2_25) (fun _ _ => ⟨rfl, e6, (by decide : (0 + 1) + 0 ≤ _), (by decide : (0 + 2) + 0 ≤ _)⟩)
  dsimp only [Pt.U, Pt.locs, Pt.cells, Pt.slots] at X15 l15 y15 z15 st15 hQ15
  subst l15 y15 z15
  obtain ⟨r16, rfl, Nq15, ehq15, hq15⟩ := hQ15
  have N15 := Fr.app N0 Nq15
  have pre17 : ∀ tq, Steps p.tables e below (T15.setTop (mkF m 28 #[.val (.ref a1), .val (.int (2 : Int32)), .val (.ref b6)] [(.int r16), (.int (0 : Int32)), (.ref b6), (.int (0 : Int32)), (.ref a1)])) tq → Steps p.tables e below (s₁.setTop (entryFrame m #[(.ref a1), (.int (2 : Int32))] 3)) tq := fun tq kq => pre14 tq (st15 _ kq)
  have hm_r16 : r16 = (2 : Int32) := by rcases hq15 with ⟨q1, q2⟩ | ⟨q1, q2⟩ <;> first | exact q2 | exact absurd q1 (by decide)
  subst hm_r16
  obtain ⟨T18, h18, Lc18, X18, e18, N18, Kq18, f19', st18⟩ := cpA X15 hx hZ hown (hw _ (List.mem_of_getElem? (i := 54) rfl)) (hw _ (List.mem_of_getElem? (i := 57) rfl)) (hw _ (List.mem_of_getElem? (i := 55) rfl)) (hw _ (List.mem_of_getElem? (i := 56) rfl)) ehq15 f9 f10 (us := [(.double u0), (.double u1)]) (Or.inl ⟨rfl, rfl⟩) (by decide) (by decide) (by decide) (by decide) (by decide) rfl (by decide) N15 g_b6 (g := (mkF m 28 #[.val (.ref a1), .val (.int (2 : Int32)), .val (.ref b6)] [(.int (2 : Int32)), (.int (0 : Int32)), (.ref b6), (.int (0 : Int32)), (.ref a1)])) rfl (by rw [hml]; rfl) (rest := []) rfl (hb hby d7_2_28) (by decide) (W := 0) (by show 2 * 0 + _ ≤ _; exact Nat.le_of_eq rfl) (by decide)
  have f19 : Arv Z h18 b6 k6 .double (2 : Int32) [(.double u0), (.double u1)] (.double 0) := f19'
  have pre20 : ∀ tq, Steps p.tables e below (T18.setTop (mkF m 31 #[.val (.ref a1), .val (.int (2 : Int32)), .val (.ref b6)] [])) tq → Steps p.tables e below (s₁.setTop (entryFrame m #[(.ref a1), (.int (2 : Int32))] 3)) tq := fun tq kq => pre17 tq (st18 _ kq)
  have K18 : Keep h0 h18 [] := Keep.trans K6 Kq18 (allS (Or.inr sz_b6) all0)
  have f21 := f9.keep Kq18 (by simp only [List.mem_cons, List.not_mem_nil, or_false, not_or]; exact ne7)
  obtain ⟨fs, hr, hrun, hended, hW, hsame⟩ := X18.leave (v := some (.ref b6)) (fun h => by rw [Bd.returns] at h; cases h)
  refine ⟨_, _, pre20 _ ?_, hrun, hended, _, _, rfl, ?_, ⟨_, rfl⟩, hW, hsame.mono (by decide) (by decide)⟩
  · skip
    show Steps p.tables e below (T18.setTop (mkF m 31 #[.val (.ref a1), .val (.int (2 : Int32)), .val (.ref b6)] [])) _
    refine XS.aloadN X18.here hx rfl (hb hby d7_2_31) rfl rfl ?_
    show Steps p.tables e below (T18.setTop (mkF m 32 #[.val (.ref a1), .val (.int (2 : Int32)), .val (.ref b6)] [(.ref b6)])) _
    exact X18.areturnOut hx rfl Bd.returns rfl (hb hby d7_2_32) hr
  · show Q7_2 Z a1 k u0 u1 u2 h0 n0 _ T18.heap _
    rw [e18]
    refine ⟨b6, k6, rfl, N18, K18, f19, sz_b6, ?_⟩
    trivial
/-! body 7_3 -/
theorem d7_3_0 : decode jdk_65_method_127_code 0 = .ok (.iload_n 1, 1) := by decide +kernel
theorem d7_3_1 : decode jdk_65_method_127_code 1 = .ok (.aload_n 0, 1) := by decide +kernel
theorem d7_3_2 : decode jdk_65_method_127_code 2 = .ok (.arraylength, 1) := by decide +kernel
theorem d7_3_3 : decode jdk_65_method_127_code 3 = .ok (.if_icmp .ne 11, 3) := by decide +kernel
theorem d7_3_14 : decode jdk_65_method_127_code 14 = .ok (.iload_n 1, 1) := by decide +kernel
theorem d7_3_15 : decode jdk_65_method_127_code 15 = .ok (.newarray .double, 2) := by decide +kernel
theorem d7_3_17 : decode jdk_65_method_127_code 17 = .ok (.astore_n 2, 1) := by decide +kernel
theorem d7_3_18 : decode jdk_65_method_127_code 18 = .ok (.aload_n 0, 1) := by decide +kernel
theorem d7_3_19 : decode jdk_65_method_127_code 19 = .ok (.iconst 0, 1) := by decide +kernel
theorem d7_3_20 : decode jdk_65_method_127_code 20 = .ok (.aload_n 2, 1) := by decide +kernel
theorem d7_3_21 : decode jdk_65_method_127_code 21 = .ok (.iconst 0, 1) := by decide +kernel
theorem d7_3_22 : decode jdk_65_method_127_code 22 = .ok (.aload_n 0, 1) := by decide +kernel
theorem d7_3_23 : decode jdk_65_method_127_code 23 = .ok (.arraylength, 1) := by decide +kernel
theorem d7_3_24 : decode jdk_65_method_127_code 24 = .ok (.iload_n 1, 1) := by decide +kernel
theorem d7_3_25 : decode jdk_65_method_127_code 25 = .ok (.invokestatic 304, 3) := by decide +kernel
theorem d7_3_28 : decode jdk_65_method_127_code 28 = .ok (.invokestatic 150, 3) := by decide +kernel
theorem d7_3_31 : decode jdk_65_method_127_code 31 = .ok (.aload_n 2, 1) := by decide +kernel
theorem d7_3_32 : decode jdk_65_method_127_code 32 = .ok (.areturn, 1) := by decide +kernel
theorem pn_7_3 : plainName "java/util/Arrays" = true := by first | (simp [plainName, overriddenIn]; done) | decide +kernel
theorem pd7_3_0 : parseMethodDescriptor "(II)I" = some ⟨[.int, .int], some .int⟩ := by decide +kernel
theorem ef_7_3 (m : MethodId) (a1 : Addr) : entryFrame m #[(.ref a1), (.int (3 : Int32))] 3 = mkF m 0 #[.val (.ref a1), .val (.int (3 : Int32)), .unset] [] := by first | (simp [entryFrame, mkF, argsToLocals, Value.category]; done) | rfl
def Q7_3 (Z : State) (a1 : Addr) (k : ClassId) (u0 : UInt64) (u1 : UInt64) (u2 : UInt64) (h0 : Heap) (n0 : Nat) (v : Option Value) (h : Heap) (L : List Loc) : Prop := ∃ r : Addr, ∃ k2 : ClassId, v = some (.ref r) ∧ Fr n0 L ∧ Keep h0 h [] ∧ Arv Z h r k2 .double (3 : Int32) [(.double u0), (.double u1), (.double u2)] (.double 0) ∧ h0.size ≤ r ∧ (True)
set_option maxRecDepth 65536 in
set_option maxHeartbeats 40000000 in
theorem rm7_3 (l : Launch) (Z : State) (a0 : Array Value) (hw : ∀ d ∈ tables_1, d.before a0 Z = true) (ws : List Jvm.Cond) (a1 : Addr) (k : ClassId) (u0 : UInt64) (u1 : UInt64) (u2 : UInt64) (h0 : Heap) (n0 : Nat) (Z0 : n0 ≤ h0.size) (V_a1 : Arv Z h0 a1 k .double (32768 : Int32) [(.double u0), (.double u1), (.double u2)] (.double 0)) :
    MetFree l (⟨"java/util/Arrays", "copyOf", "([DI)[D"⟩ : MethodName) (head1 (Jvm.Cond.code (⟨"java/util/Arrays", "copyOf", "([DI)[D"⟩ : MethodName) jdk_65_method_127_code 3 (some (.array .double)) :: ws) ({ frames := 1, cells := 1, slots := 3, locals := 40 } : Room)) (fun a U => a = #[(.ref a1), (.int (3 : Int32))] ∧ Z.Warmed39 U.vm ∧ U.heap = h0) (fun _ _ _ _ _ => True) (fun _ U o U' => ∃ v L, o = .returned v ∧ Q7_3 Z a1 k u0 u1 u2 h0 n0 v U'.heap L ∧ FrameEnd U o U' L ({ frames := 1, cells := 1, slots := 3, locals := 40 } : Room).cells ({ frames := 1, cells := 1, slots := 3, locals := 40 } : Room).slots) := by
  refine MetFree.of_bodySF (plainFor_of_name pn_7_3) hisR ?_
  intro p e s m args below meth c s₁ Bd hml0 hP hK
  obtain ⟨rfl, hZ, hh⟩ := hP
  have hx := Bd.exec
  have hby := Bd.bytes
  have hml : c.maxLocals = 3 := hml0
  have hown : s.vm.findClass "java/util/Arrays" = some m.cls := findClass_of_methodNamed Bd.named
  have hnm := (name_of_methodNamed Bd.named Bd.method).1
  have X0 : Stand p l e ({ frames := 1, cells := 1, slots := 3, locals := 40 } : Room) s m #[(.ref a1), (.int (3 : Int32))] below meth c s₁ [] 0 0 := Stand.of_body Bd
  have e0 : s₁.heap = h0 := by rw [← hh, Bd.state]; rfl
  have N0 := Fr.nil n0
  have pre0 : ∀ tq, Steps p.tables e below (s₁.setTop (mkF m 0 #[.val (.ref a1), .val (.int (3 : Int32)), .unset] [])) tq → Steps p.tables e below (s₁.setTop (entryFrame m #[(.ref a1), (.int (3 : Int32))] 3)) tq := fun tq kq => castTop (ef_7_3 m a1) kq
  have pre1 : ∀ tq, Steps p.tables e below (s₁.setTop (mkF m 2 #[.val (.ref a1), .val (.int (3 : Int32)), .unset] [(.ref a1), (.int (3 : Int32))])) tq → Steps p.tables e below (s₁.setTop (entryFrame m #[(.ref a1), (.int (3 : Int32))] 3)) tq := by
    refine fun tq kq => pre0 tq ?_
    show Steps p.tables e below (s₁.setTop (mkF m 0 #[.val (.ref a1), .val (.int (3 : Int32)), .unset] [])) _
    refine XS.iloadN X0.here hx rfl (hb hby d7_3_0) rfl ?_
    show Steps p.tables e below (s₁.setTop (mkF m 1 #[.val (.ref a1), .val (.int (3 : Int32)), .unset] [(.int (3 : Int32))])) _
    refine XS.aloadN X0.here hx rfl (hb hby d7_3_1) rfl rfl ?_
    exact kq
  have Vc2 := V_a1
  obtain ⟨cl2, Ar2, Aq2, As2, An2, Ah2, Ag2⟩ := Vc2
  have pre3 : ∀ tq, Steps p.tables e below (s₁.setTop (mkF m 3 #[.val (.ref a1), .val (.int (3 : Int32)), .unset] [(.int (32768 : Int32)), (.int (3 : Int32))])) tq → Steps p.tables e below (s₁.setTop (entryFrame m #[(.ref a1), (.int (3 : Int32))] 3)) tq := fun tq kq => pre1 tq (X0.arraylength hx (by rw [e0]; exact Ar2.1) (State.isArrayOf_alike hZ.alike Ar2.2.1) (g := (mkF m 2 #[.val (.ref a1), .val (.int (3 : Int32)), .unset] [(.ref a1), (.int (3 : Int32))])) rfl rfl (hb hby d7_3_2) _ (by rw [len_of As2 An2]; exact kq))
  have pre4 : ∀ tq, Steps p.tables e below (s₁.setTop (mkF m 14 #[.val (.ref a1), .val (.int (3 : Int32)), .unset] [])) tq → Steps p.tables e below (s₁.setTop (entryFrame m #[(.ref a1), (.int (3 : Int32))] 3)) tq := by
    refine fun tq kq => pre3 tq ?_
    show Steps p.tables e below (s₁.setTop (mkF m 3 #[.val (.ref a1), .val (.int (3 : Int32)), .unset] [(.int (32768 : Int32)), (.int (3 : Int32))])) _
    refine XS.icmpYes X0.here hx rfl (pc0 := 3) (pc' := 14) rfl (hb hby d7_3_3) rfl (feq (by decide : ¬ ((3 : Int32) = (32768 : Int32)))).2 (by decide) (by decide) ?_
    exact kq
  have pre5 : ∀ tq, Steps p.tables e below (s₁.setTop (mkF m 15 #[.val (.ref a1), .val (.int (3 : Int32)), .unset] [(.int (3 : Int32))])) tq → Steps p.tables e below (s₁.setTop (entryFrame m #[(.ref a1), (.int (3 : Int32))] 3)) tq := by
    refine fun tq kq => pre4 tq ?_
    show Steps p.tables e below (s₁.setTop (mkF m 14 #[.val (.ref a1), .val (.int (3 : Int32)), .unset] [])) _
    refine XS.iloadN X0.here hx rfl (hb hby d7_3_14) rfl ?_
    exact kq
  obtain ⟨T6, h6, k6, X6, e6, E6, A6, st6⟩ := newP X0 hx hZ (hw _ (List.mem_of_getElem? (i := 36) rfl)) e0 (g := (mkF m 15 #[.val (.ref a1), .val (.int (3 : Int32)), .unset] [(.int (3 : Int32))])) rfl (hb hby d7_3_15) rfl (by decide) (cap := 3) (by decide) (by decide) (by decide) (by decide)
  obtain ⟨b6, g6⟩ : ∃ z, z = h0.size := ⟨_, rfl⟩
  rw [← g6] at A6 st6
  have g_b6 : n0 ≤ b6 := Nat.le_trans Z0 (Nat.le_of_eq g6.symm)
  have sz_b6 : h0.size ≤ b6 := Nat.le_trans (Nat.le_refl h0.size) (Nat.le_of_eq g6.symm)
  have ne7 : a1 ≠ b6 := Nat.ne_of_lt (Nat.lt_of_lt_of_le V_a1.lt (Nat.le_of_eq g6.symm))
  have pre8 : ∀ tq, Steps p.tables e below (T6.setTop (mkF m 17 #[.val (.ref a1), .val (.int (3 : Int32)), .unset] [(.ref b6)])) tq → Steps p.tables e below (s₁.setTop (entryFrame m #[(.ref a1), (.int (3 : Int32))] 3)) tq := fun tq kq => pre5 tq (st6 _ kq)
  have f9 := V_a1.ext E6
  have K6 : Keep h0 h6 [] := Keep.ext (Keep.refl h0 []) E6
  have f10 : Arv Z h6 b6 k6 .double (3 : Int32) [(.double 0), (.double 0), (.double 0)] (.double 0) := (Arv.new A6 (by decide)).pad (pad_rep [] (.double 0) 3)
  have pre11 : ∀ tq, Steps p.tables e below (T6.setTop (mkF m 23 #[.val (.ref a1), .val (.int (3 : Int32)), .val (.ref b6)] [(.ref a1), (.int (0 : Int32)), (.ref b6), (.int (0 : Int32)), (.ref a1)])) tq → Steps p.tables e below (s₁.setTop (entryFrame m #[(.ref a1), (.int (3 : Int32))] 3)) tq := by
    refine fun tq kq => pre8 tq ?_
    show Steps p.tables e below (T6.setTop (mkF m 17 #[.val (.ref a1), .val (.int (3 : Int32)), .unset] [(.ref b6)])) _
    refine XS.astoreN X6.here hx rfl (hb hby d7_3_17) rfl rfl (l' := #[.val (.ref a1), .val (.int (3 : Int32)), .val (.ref b6)]) rfl ?_
    show Steps p.tables e below (T6.setTop (mkF m 18 #[.val (.ref a1), .val (.int (3 : Int32)), .val (.ref b6)] [])) _
    refine XS.aloadN X6.here hx rfl (hb hby d7_3_18) rfl rfl ?_
    show Steps p.tables e below (T6.setTop (mkF m 19 #[.val (.ref a1), .val (.int (3 : Int32)), .val (.ref b6)] [(.ref a1)])) _
    refine XS.iconst X6.here hx rfl (hb hby d7_3_19) ?_
    show Steps p.tables e below (T6.setTop (mkF m 20 #[.val (.ref a1), .val (.int (3 : Int32)), .val (.ref b6)] [(.int (0 : Int32)), (.ref a1)])) _
    refine XS.aloadN X6.here hx rfl (hb hby d7_3_20) rfl rfl ?_
    show Steps p.tables e below (T6.setTop (mkF m 21 #[.val (.ref a1), .val (.int (3 : Int32)), .val (.ref b6)] [(.ref b6), (.int (0 : Int32)), (.ref a1)])) _
    refine XS.iconst X6.here hx rfl (hb hby d7_3_21) ?_
    show Steps p.tables e below (T6.setTop (mkF m 22 #[.val (.ref a1), .val (.int (3 : Int32)), .val (.ref b6)] [(.int (0 : Int32)), (.ref b6), (.int (0 : Int32)), (.ref a1)])) _
    refine XS.aloadN X6.here hx rfl (hb hby d7_3_22) rfl rfl ?_
    exact kq
  have Vc12 := f9
  obtain ⟨cl12, Ar12, Aq12, As12, An12, Ah12, Ag12⟩ := Vc12
  have pre13 : ∀ tq, Steps p.tables e below (T6.setTop (mkF m 24 #[.val (.ref a1), .val (.int (3 : Int32)), .val (.ref b6)] [(.int (32768 : Int32)), (.int (0 : Int32)), (.ref b6), (.int (0 : Int32)), (.ref a1)])) tq → Steps p.tables e below (s₁.setTop (entryFrame m #[(.ref a1), (.int (3 : Int32))] 3)) tq := fun tq kq => pre11 tq (X6.arraylength hx (by rw [e6]; exact Ar12.1) (State.isArrayOf_alike hZ.alike Ar12.2.1) (g := (mkF m 23 #[.val (.ref a1), .val (.int (3 : Int32)), .val (.ref b6)] [(.ref a1), (.int (0 : Int32)), (.ref b6), (.int (0 : Int32)), (.ref a1)])) rfl rfl (hb hby d7_3_23) _ (by rw [len_of As12 An12]; exact kq))
  have pre14 : ∀ tq, Steps p.tables e below (T6.setTop (mkF m 25 #[.val (.ref a1), .val (.int (3 : Int32)), .val (.ref b6)] [(.int (3 : Int32)), (.int (32768 : Int32)), (.int (0 : Int32)), (.ref b6), (.int (0 : Int32)), (.ref a1)])) tq → Steps p.tables e below (s₁.setTop (entryFrame m #[(.ref a1), (.int (3 : Int32))] 3)) tq := by
    refine fun tq kq => pre13 tq ?_
    show Steps p.tables e below (T6.setTop (mkF m 24 #[.val (.ref a1), .val (.int (3 : Int32)), .val (.ref b6)] [(.int (32768 : Int32)), (.int (0 : Int32)), (.ref b6), (.int (0 : Int32)), (.ref a1)])) _
    refine XS.iloadN X6.here hx rfl (hb hby d7_3_24) rfl ?_
    exact kq
  have Z15 : n0 ≤ h6.size := (Nat.le_trans Z0 E6.1)
  obtain ⟨_, _, ⟨T15, L15, k15, n15⟩, -, X15, ⟨Lc15, hQ15, l15, y15, z15⟩, st15⟩ := Jvm.LawKit.callS X6 hx (y := (⟨"java/lang/Math", "min", "(II)I"⟩ : MethodName)) hown (mvT hZ (hw _ (List.mem_of_getElem? (i := 50) rfl))) (mvT hZ (hw _ (List.mem_of_getElem? (i := 51) rfl))) (mvT hZ (hw _ (List.mem_of_getElem? (i := 52) rfl))) (mvT hZ (hw _ (List.mem_of_getElem? (i := 53) rfl))) (by decide) (backOf (W := 4) (rm8 l Z a0 hw [] (32768 : Int32) (3 : Int32)  h6 n0 Z15 ) hZ (hw _ (List.mem_of_getElem? (i := 53) rfl)) (hw _ (List.mem_of_getElem? (i := 52) rfl)) (by decide) (by decide)) (g := (mkF m 25 #[.val (.ref a1), .val (.int (3 : Int32)), .val (.ref b6)] [(.int (3 : Int32)), (.int (32768 : Int32)), (.int (0 : Int32)), (.ref b6), (.int (0 : Int32)), (.ref a1)])) rfl (by rw [hml]; rfl) (argsL := [(.int (32768 : Int32)), (.int (3 : Int32))]) (rest := [(.int (0 : Int32)), (.ref b6), (.int (0 : Int32)), (.ref a1)]) (lenOf pd7_3_0 rfl) rfl (by show 2 * 0 + _ ≤ _; exact Nat.le_of_eq rfl) (hb hby d7_3_25) (fun _ _ => ⟨rfl, e6, (by decide : (0 + 1) + 0 ≤ _), (by decide : (0 + 3) + 0 ≤ _)⟩)
  dsimp only [Pt.U, Pt.locs, Pt.cells, Pt.slots] at X15 l15 y15 z15 st15 hQ15
  subst l15 y15 z15
  obtain ⟨r16, rfl, Nq15, ehq15, hq15⟩ := hQ15
  have N15 := Fr.app N0 Nq15
  have pre17 : ∀ tq, Steps p.tables e below (T15.setTop (mkF m 28 #[.val (.ref a1), .val (.int (3 : Int32)), .val (.ref b6)] [(.int r16), (.int (0 : Int32)), (.ref b6), (.int (0 : Int32)), (.ref a1)])) tq → Steps p.tables e below (s₁.setTop (entryFrame m #[(.ref a1), (.int (3 : Int32))] 3)) tq := fun tq kq => pre14 tq (st15 _ kq)
  have hm_r16 : r16 = (3 : Int32) := by rcases hq15 with ⟨q1, q2⟩ | ⟨q1, q2⟩ <;> first | exact q2 | exact absurd q1 (by decide)
  subst hm_r16
  obtain ⟨T18, h18, Lc18, X18, e18, N18, Kq18, f19', st18⟩ := cpA X15 hx hZ hown (hw _ (List.mem_of_getElem? (i := 54) rfl)) (hw _ (List.mem_of_getElem? (i := 57) rfl)) (hw _ (List.mem_of_getElem? (i := 55) rfl)) (hw _ (List.mem_of_getElem? (i := 56) rfl)) ehq15 f9 f10 (us := [(.double u0), (.double u1), (.double u2)]) (Or.inl ⟨rfl, rfl⟩) (by decide) (by decide) (by decide) (by decide) (by decide) rfl (by decide) N15 g_b6 (g := (mkF m 28 #[.val (.ref a1), .val (.int (3 : Int32)), .val (.ref b6)] [(.int (3 : Int32)), (.int (0 : Int32)), (.ref b6), (.int (0 : Int32)), (.ref a1)])) rfl (by rw [hml]; rfl) (rest := []) rfl (hb hby d7_3_28) (by decide) (W := 0) (by show 2 * 0 + _ ≤ _; exact Nat.le_of_eq rfl) (by decide)
  have f19 : Arv Z h18 b6 k6 .double (3 : Int32) [(.double u0), (.double u1), (.double u2)] (.double 0) := f19'
  have pre20 : ∀ tq, Steps p.tables e below (T18.setTop (mkF m 31 #[.val (.ref a1), .val (.int (3 : Int32)), .val (.ref b6)] [])) tq → Steps p.tables e below (s₁.setTop (entryFrame m #[(.ref a1), (.int (3 : Int32))] 3)) tq := fun tq kq => pre17 tq (st18 _ kq)
  have K18 : Keep h0 h18 [] := Keep.trans K6 Kq18 (allS (Or.inr sz_b6) all0)
  have f21 := f9.keep Kq18 (by simp only [List.mem_cons, List.not_mem_nil, or_false, not_or]; exact ne7)
  obtain ⟨fs, hr, hrun, hended, hW, hsame⟩ := X18.leave (v := some (.ref b6)) (fun h => by rw [Bd.returns] at h; cases h)
  refine ⟨_, _, pre20 _ ?_, hrun, hended, _, _, rfl, ?_, ⟨_, rfl⟩, hW, hsame.mono (by decide) (by decide)⟩
  · skip
    show Steps p.tables e below (T18.setTop (mkF m 31 #[.val (.ref a1), .val (.int (3 : Int32)), .val (.ref b6)] [])) _
    refine XS.aloadN X18.here hx rfl (hb hby d7_3_31) rfl rfl ?_
    show Steps p.tables e below (T18.setTop (mkF m 32 #[.val (.ref a1), .val (.int (3 : Int32)), .val (.ref b6)] [(.ref b6)])) _
    exact X18.areturnOut hx rfl Bd.returns rfl (hb hby d7_3_32) hr
  · show Q7_3 Z a1 k u0 u1 u2 h0 n0 _ T18.heap _
    rw [e18]
    refine ⟨b6, k6, rfl, N18, K18, f19, sz_b6, ?_⟩
    trivial
/-! body 6_0 -/
theorem d6_0_0 : decode prog_82_method_4_code 0 = .ok (.aload_n 0, 1) := by decide +kernel
theorem d6_0_1 : decode prog_82_method_4_code 1 = .ok (.getfield 21, 3) := by decide +kernel
theorem d6_0_4 : decode prog_82_method_4_code 4 = .ok (.aload_n 0, 1) := by decide +kernel
theorem d6_0_5 : decode prog_82_method_4_code 5 = .ok (.getfield 17, 3) := by decide +kernel
theorem d6_0_8 : decode prog_82_method_4_code 8 = .ok (.arraylength, 1) := by decide +kernel
theorem d6_0_9 : decode prog_82_method_4_code 9 = .ok (.if_icmp .ge 18, 3) := by decide +kernel
theorem d6_0_12 : decode prog_82_method_4_code 12 = .ok (.aload_n 0, 1) := by decide +kernel
theorem d6_0_13 : decode prog_82_method_4_code 13 = .ok (.aload_n 0, 1) := by decide +kernel
theorem d6_0_14 : decode prog_82_method_4_code 14 = .ok (.getfield 17, 3) := by decide +kernel
theorem d6_0_17 : decode prog_82_method_4_code 17 = .ok (.aload_n 0, 1) := by decide +kernel
theorem d6_0_18 : decode prog_82_method_4_code 18 = .ok (.getfield 21, 3) := by decide +kernel
theorem d6_0_21 : decode prog_82_method_4_code 21 = .ok (.invokestatic 40, 3) := by decide +kernel
theorem d6_0_24 : decode prog_82_method_4_code 24 = .ok (.putfield 17, 3) := by decide +kernel
theorem d6_0_27 : decode prog_82_method_4_code 27 = .ok (.return_, 1) := by decide +kernel
theorem pn_6_0 : plainName "com/example/crisp_haptics/crisphaptics/SampleBlocks" = true := by first | (simp [plainName, overriddenIn]; done) | decide +kernel
theorem pd6_0_0 : parseMethodDescriptor "([DI)[D" = some ⟨[(.array .double), .int], some (.array .double)⟩ := by decide +kernel
theorem ef_6_0 (m : MethodId) (a1 : Addr) : entryFrame m #[(.ref a1)] 1 = mkF m 0 #[.val (.ref a1)] [] := by first | (simp [entryFrame, mkF, argsToLocals, Value.category]; done) | rfl
def Q6_0 (Z : State) (a1 : Addr) (al : Addr) (x : Addr) (k : ClassId) (u0 : UInt64) (u1 : UInt64) (u2 : UInt64) (h0 : Heap) (n0 : Nat) (v : Option Value) (h : Heap) (L : List Loc) : Prop := ∃ y : Addr, ∃ k2 : ClassId, v = none ∧ Fr n0 L ∧ Keep h0 h [a1] ∧ Fld Z h a1 "com/example/crisp_haptics/crisphaptics/SampleBlocks" "block" "[D" (.ref y) ∧ Fld Z h a1 "com/example/crisp_haptics/crisphaptics/SampleBlocks" "inBlock" "I" (.int (0 : Int32)) ∧ Fld Z h a1 "com/example/crisp_haptics/crisphaptics/SampleBlocks" "fullBlocks" "Ljava/util/List;" (.ref al) ∧ Arv Z h y k2 .double (0 : Int32) [] (.double 0) ∧ h0.size ≤ y ∧ (True)
set_option maxRecDepth 65536 in
set_option maxHeartbeats 40000000 in
theorem rm6_0 (l : Launch) (Z : State) (a0 : Array Value) (hw : ∀ d ∈ tables_1, d.before a0 Z = true) (ws : List Jvm.Cond) (a1 : Addr) (al : Addr) (x : Addr) (k : ClassId) (u0 : UInt64) (u1 : UInt64) (u2 : UInt64) (h0 : Heap) (n0 : Nat) (Z0 : n0 ≤ h0.size) (E_a1 : Exa Z h0 a1 "com/example/crisp_haptics/crisphaptics/SampleBlocks") (F_inBlock_a1 : Fld Z h0 a1 "com/example/crisp_haptics/crisphaptics/SampleBlocks" "inBlock" "I" (.int (0 : Int32))) (F_block_a1 : Fld Z h0 a1 "com/example/crisp_haptics/crisphaptics/SampleBlocks" "block" "[D" (.ref x)) (F_fullBlocks_a1 : Fld Z h0 a1 "com/example/crisp_haptics/crisphaptics/SampleBlocks" "fullBlocks" "Ljava/util/List;" (.ref al)) (V_x : Arv Z h0 x k .double (32768 : Int32) [(.double u0), (.double u1), (.double u2)] (.double 0)) (g_a1 : n0 ≤ a1) :
    MetFree l (⟨"com/example/crisp_haptics/crisphaptics/SampleBlocks", "fitToCount", "()V"⟩ : MethodName) (head1 (Jvm.Cond.code (⟨"com/example/crisp_haptics/crisphaptics/SampleBlocks", "fitToCount", "()V"⟩ : MethodName) prog_82_method_4_code 1 none :: ws) ({ frames := 2, cells := 1, slots := 0, locals := 55 } : Room)) (fun a U => a = #[(.ref a1)] ∧ Z.Warmed39 U.vm ∧ U.heap = h0) (fun _ _ _ _ _ => True) (fun _ U o U' => ∃ v L, o = .returned v ∧ Q6_0 Z a1 al x k u0 u1 u2 h0 n0 v U'.heap L ∧ FrameEnd U o U' L ({ frames := 2, cells := 1, slots := 0, locals := 55 } : Room).cells ({ frames := 2, cells := 1, slots := 0, locals := 55 } : Room).slots) := by
  refine MetFree.of_bodySF (plainFor_of_name pn_6_0) hisR ?_
  intro p e s m args below meth c s₁ Bd hml0 hP hK
  obtain ⟨rfl, hZ, hh⟩ := hP
  have hx := Bd.exec
  have hby := Bd.bytes
  have hml : c.maxLocals = 1 := hml0
  have hown : s.vm.findClass "com/example/crisp_haptics/crisphaptics/SampleBlocks" = some m.cls := findClass_of_methodNamed Bd.named
  have hnm := (name_of_methodNamed Bd.named Bd.method).1
  have X0 : Stand p l e ({ frames := 2, cells := 1, slots := 0, locals := 55 } : Room) s m #[(.ref a1)] below meth c s₁ [] 0 0 := Stand.of_body Bd
  have e0 : s₁.heap = h0 := by rw [← hh, Bd.state]; rfl
  have N0 := Fr.nil n0
  have pre0 : ∀ tq, Steps p.tables e below (s₁.setTop (mkF m 0 #[.val (.ref a1)] [])) tq → Steps p.tables e below (s₁.setTop (entryFrame m #[(.ref a1)] 1)) tq := fun tq kq => castTop (ef_6_0 m a1) kq
  have pre1 : ∀ tq, Steps p.tables e below (s₁.setTop (mkF m 1 #[.val (.ref a1)] [(.ref a1)])) tq → Steps p.tables e below (s₁.setTop (entryFrame m #[(.ref a1)] 1)) tq := by
    refine fun tq kq => pre0 tq ?_
    show Steps p.tables e below (s₁.setTop (mkF m 0 #[.val (.ref a1)] [])) _
    refine XS.aloadN X0.here hx rfl (hb hby d6_0_0) rfl rfl ?_
    exact kq
  obtain ⟨T2, X2, e2, st2⟩ := getF X0 hx hZ hown (host := "") (Or.inl (hw _ (List.mem_of_getElem? (i := 44) rfl))) Via.refl e0 F_inBlock_a1 (g := (mkF m 1 #[.val (.ref a1)] [(.ref a1)])) rfl rfl (hb hby d6_0_1)
  have pre3 : ∀ tq, Steps p.tables e below (T2.setTop (mkF m 4 #[.val (.ref a1)] [(.int (0 : Int32))])) tq → Steps p.tables e below (s₁.setTop (entryFrame m #[(.ref a1)] 1)) tq := fun tq kq => pre1 tq (st2 _ kq)
  have pre4 : ∀ tq, Steps p.tables e below (T2.setTop (mkF m 5 #[.val (.ref a1)] [(.ref a1), (.int (0 : Int32))])) tq → Steps p.tables e below (s₁.setTop (entryFrame m #[(.ref a1)] 1)) tq := by
    refine fun tq kq => pre3 tq ?_
    show Steps p.tables e below (T2.setTop (mkF m 4 #[.val (.ref a1)] [(.int (0 : Int32))])) _
    refine XS.aloadN X2.here hx rfl (hb hby d6_0_4) rfl rfl ?_
    exact kq
  obtain ⟨T5, X5, e5, st5⟩ := getF X2 hx hZ hown (host := "") (Or.inl (hw _ (List.mem_of_getElem? (i := 37) rfl))) Via.refl e2 F_block_a1 (g := (mkF m 5 #[.val (.ref a1)] [(.ref a1), (.int (0 : Int32))])) rfl rfl (hb hby d6_0_5)
  have pre6 : ∀ tq, Steps p.tables e below (T5.setTop (mkF m 8 #[.val (.ref a1)] [(.ref x), (.int (0 : Int32))])) tq → Steps p.tables e below (s₁.setTop (entryFrame m #[(.ref a1)] 1)) tq := fun tq kq => pre4 tq (st5 _ kq)
  have Vc7 := V_x
  obtain ⟨cl7, Ar7, Aq7, As7, An7, Ah7, Ag7⟩ := Vc7
  have pre8 : ∀ tq, Steps p.tables e below (T5.setTop (mkF m 9 #[.val (.ref a1)] [(.int (32768 : Int32)), (.int (0 : Int32))])) tq → Steps p.tables e below (s₁.setTop (entryFrame m #[(.ref a1)] 1)) tq := fun tq kq => pre6 tq (X5.arraylength hx (by rw [e5]; exact Ar7.1) (State.isArrayOf_alike hZ.alike Ar7.2.1) (g := (mkF m 8 #[.val (.ref a1)] [(.ref x), (.int (0 : Int32))])) rfl rfl (hb hby d6_0_8) _ (by rw [len_of As7 An7]; exact kq))
  have pre9 : ∀ tq, Steps p.tables e below (T5.setTop (mkF m 12 #[.val (.ref a1)] [])) tq → Steps p.tables e below (s₁.setTop (entryFrame m #[(.ref a1)] 1)) tq := by
    refine fun tq kq => pre8 tq ?_
    show Steps p.tables e below (T5.setTop (mkF m 9 #[.val (.ref a1)] [(.int (32768 : Int32)), (.int (0 : Int32))])) _
    refine XS.icmpNo X5.here hx rfl (hb hby d6_0_9) rfl (tlt (by decide : (0 : Int32) < (32768 : Int32))).2.1 ?_
    exact kq
  have pre10 : ∀ tq, Steps p.tables e below (T5.setTop (mkF m 14 #[.val (.ref a1)] [(.ref a1), (.ref a1)])) tq → Steps p.tables e below (s₁.setTop (entryFrame m #[(.ref a1)] 1)) tq := by
    refine fun tq kq => pre9 tq ?_
    show Steps p.tables e below (T5.setTop (mkF m 12 #[.val (.ref a1)] [])) _
    refine XS.aloadN X5.here hx rfl (hb hby d6_0_12) rfl rfl ?_
    show Steps p.tables e below (T5.setTop (mkF m 13 #[.val (.ref a1)] [(.ref a1)])) _
    refine XS.aloadN X5.here hx rfl (hb hby d6_0_13) rfl rfl ?_
    exact kq
  obtain ⟨T11, X11, e11, st11⟩ := getF X5 hx hZ hown (host := "") (Or.inl (hw _ (List.mem_of_getElem? (i := 37) rfl))) Via.refl e5 F_block_a1 (g := (mkF m 14 #[.val (.ref a1)] [(.ref a1), (.ref a1)])) rfl rfl (hb hby d6_0_14)
  have pre12 : ∀ tq, Steps p.tables e below (T11.setTop (mkF m 17 #[.val (.ref a1)] [(.ref x), (.ref a1)])) tq → Steps p.tables e below (s₁.setTop (entryFrame m #[(.ref a1)] 1)) tq := fun tq kq => pre10 tq (st11 _ kq)
  have pre13 : ∀ tq, Steps p.tables e below (T11.setTop (mkF m 18 #[.val (.ref a1)] [(.ref a1), (.ref x), (.ref a1)])) tq → Steps p.tables e below (s₁.setTop (entryFrame m #[(.ref a1)] 1)) tq := by
    refine fun tq kq => pre12 tq ?_
    show Steps p.tables e below (T11.setTop (mkF m 17 #[.val (.ref a1)] [(.ref x), (.ref a1)])) _
    refine XS.aloadN X11.here hx rfl (hb hby d6_0_17) rfl rfl ?_
    exact kq
  obtain ⟨T14, X14, e14, st14⟩ := getF X11 hx hZ hown (host := "") (Or.inl (hw _ (List.mem_of_getElem? (i := 44) rfl))) Via.refl e11 F_inBlock_a1 (g := (mkF m 18 #[.val (.ref a1)] [(.ref a1), (.ref x), (.ref a1)])) rfl rfl (hb hby d6_0_18)
  have pre15 : ∀ tq, Steps p.tables e below (T14.setTop (mkF m 21 #[.val (.ref a1)] [(.int (0 : Int32)), (.ref x), (.ref a1)])) tq → Steps p.tables e below (s₁.setTop (entryFrame m #[(.ref a1)] 1)) tq := fun tq kq => pre13 tq (st14 _ kq)
  have Z16 : n0 ≤ h0.size := Z0
  obtain ⟨_, _, ⟨T16, L16, k16, n16⟩, -, X16, ⟨Lc16, hQ16, l16, y16, z16⟩, st16⟩ := Jvm.LawKit.callS X14 hx (y := (⟨"java/util/Arrays", "copyOf", "([DI)[D"⟩ : MethodName)) hown (mvT hZ (hw _ (List.mem_of_getElem? (i := 46) rfl))) (mvT hZ (hw _ (List.mem_of_getElem? (i := 47) rfl))) (mvT hZ (hw _ (List.mem_of_getElem? (i := 48) rfl))) (mvT hZ (hw _ (List.mem_of_getElem? (i := 49) rfl))) (by decide) (backOf (W := 1) (rm7_0 l Z a0 hw [] x k u0 u1 u2 h0 n0 Z16 V_x) hZ (hw _ (List.mem_of_getElem? (i := 49) rfl)) (hw _ (List.mem_of_getElem? (i := 48) rfl)) (by decide) (by decide)) (g := (mkF m 21 #[.val (.ref a1)] [(.int (0 : Int32)), (.ref x), (.ref a1)])) rfl (by rw [hml]; rfl) (argsL := [(.ref x), (.int (0 : Int32))]) (rest := [(.ref a1)]) (lenOf pd6_0_0 rfl) rfl (by show 2 * 0 + _ ≤ _; exact Nat.le_of_eq rfl) (hb hby d6_0_21) (fun _ _ => ⟨rfl, e14, (by decide : 0 + 1 ≤ _), (by decide : 0 + 0 ≤ _)⟩)
  dsimp only [Pt.U, Pt.locs, Pt.cells, Pt.slots] at X16 l16 y16 z16 st16 hQ16
  subst l16 y16 z16
  obtain ⟨r17, u20, rfl, Nq16, Kq16, f18, f19, hq16⟩ := hQ16
  have N16 := Fr.app N0 Nq16
  have pre21 : ∀ tq, Steps p.tables e below (T16.setTop (mkF m 24 #[.val (.ref a1)] [(.ref r17), (.ref a1)])) tq → Steps p.tables e below (s₁.setTop (entryFrame m #[(.ref a1)] 1)) tq := fun tq kq => pre15 tq (st16 _ kq)
  have K16 : Keep h0 T16.heap [a1] := Keep.trans (Keep.refl h0 [a1]) Kq16 all0
  have f22 := E_a1.keep Kq16
  have f23 := F_inBlock_a1.keep Kq16 (List.not_mem_nil)
  have f24 := F_block_a1.keep Kq16 (List.not_mem_nil)
  have f25 := F_fullBlocks_a1.keep Kq16 (List.not_mem_nil)
  have f26 := V_x.keep Kq16 (List.not_mem_nil)
  have g_r17 : n0 ≤ r17 := Nat.le_trans Z16 f19
  have sz_r17 : h0.size ≤ r17 := Nat.le_trans (Nat.le_refl h0.size) f19
  have ne27 : a1 ≠ r17 := Nat.ne_of_lt (Nat.lt_of_lt_of_le E_a1.lt f19)
  have ne28 : x ≠ r17 := Nat.ne_of_lt (Nat.lt_of_lt_of_le V_x.lt f19)
  obtain ⟨T29, h29, X29, e29, W29, st29⟩ := putF X16 hx hZ hown (host := "") (Or.inl (hw _ (List.mem_of_getElem? (i := 37) rfl))) Via.refl rfl f24 f22 (Or.inl (hw _ (List.mem_of_getElem? (i := 38) rfl))) (hw _ (List.mem_of_getElem? (i := 1) rfl)) (ty := (.array .double)) (by decide) rfl rfl (g := (mkF m 24 #[.val (.ref a1)] [(.ref r17), (.ref a1)])) rfl rfl (hb hby d6_0_24)
  have pre30 : ∀ tq, Steps p.tables e below (T29.setTop (mkF m 27 #[.val (.ref a1)] [])) tq → Steps p.tables e below (s₁.setTop (entryFrame m #[(.ref a1)] 1)) tq := fun tq kq => pre21 tq (st29 _ kq)
  have N29 := Fr.snoc X29 N16 g_a1
  have K29 : Keep h0 h29 [a1] := Keep.wr K16 W29 (Or.inl (List.mem_of_getElem? (i := 0) rfl))
  have f31 := f22.wr W29
  have f32 := f23.other W29 (Or.inr (slot_ne (Or.inl (hw _ (List.mem_of_getElem? (i := 45) rfl))) (Or.inl (hw _ (List.mem_of_getElem? (i := 38) rfl))) (by decide) (t := .int) (t' := (.array .double)) (by decide) (by decide)))
  have f33 := f25.other W29 (Or.inr (slot_ne (Or.inr (hw _ (List.mem_of_getElem? (i := 34) rfl))) (Or.inl (hw _ (List.mem_of_getElem? (i := 38) rfl))) (by decide) (t := (.object "java/util/List")) (t' := (.array .double)) (by decide) (by decide)))
  have f34 := f18.other W29 (Ne.symm ne27)
  have f35 := f24.same W29
  obtain ⟨fs, hr, hrun, hended, hW, hsame⟩ := X29.leave (v := none) (fun _ => rfl)
  refine ⟨_, _, pre30 _ ?_, hrun, hended, _, _, rfl, ?_, ⟨_, rfl⟩, hW, hsame.mono (by decide) (by decide)⟩
  · skip
    show Steps p.tables e below (T29.setTop (mkF m 27 #[.val (.ref a1)] [])) _
    exact X29.returnOut hx Bd.returns (hb hby d6_0_27) hr
  · show Q6_0 Z a1 al x k u0 u1 u2 h0 n0 _ T29.heap _
    rw [e29]
    refine ⟨r17, u20, rfl, N29, K29, f35, f32, f33, f34, sz_r17, ?_⟩
    trivial
/-! body 6_1 -/
theorem d6_1_0 : decode prog_82_method_4_code 0 = .ok (.aload_n 0, 1) := by decide +kernel
theorem d6_1_1 : decode prog_82_method_4_code 1 = .ok (.getfield 21, 3) := by decide +kernel
theorem d6_1_4 : decode prog_82_method_4_code 4 = .ok (.aload_n 0, 1) := by decide +kernel
theorem d6_1_5 : decode prog_82_method_4_code 5 = .ok (.getfield 17, 3) := by decide +kernel
theorem d6_1_8 : decode prog_82_method_4_code 8 = .ok (.arraylength, 1) := by decide +kernel
theorem d6_1_9 : decode prog_82_method_4_code 9 = .ok (.if_icmp .ge 18, 3) := by decide +kernel
theorem d6_1_12 : decode prog_82_method_4_code 12 = .ok (.aload_n 0, 1) := by decide +kernel
theorem d6_1_13 : decode prog_82_method_4_code 13 = .ok (.aload_n 0, 1) := by decide +kernel
theorem d6_1_14 : decode prog_82_method_4_code 14 = .ok (.getfield 17, 3) := by decide +kernel
theorem d6_1_17 : decode prog_82_method_4_code 17 = .ok (.aload_n 0, 1) := by decide +kernel
theorem d6_1_18 : decode prog_82_method_4_code 18 = .ok (.getfield 21, 3) := by decide +kernel
theorem d6_1_21 : decode prog_82_method_4_code 21 = .ok (.invokestatic 40, 3) := by decide +kernel
theorem d6_1_24 : decode prog_82_method_4_code 24 = .ok (.putfield 17, 3) := by decide +kernel
theorem d6_1_27 : decode prog_82_method_4_code 27 = .ok (.return_, 1) := by decide +kernel
theorem pn_6_1 : plainName "com/example/crisp_haptics/crisphaptics/SampleBlocks" = true := by first | (simp [plainName, overriddenIn]; done) | decide +kernel
theorem pd6_1_0 : parseMethodDescriptor "([DI)[D" = some ⟨[(.array .double), .int], some (.array .double)⟩ := by decide +kernel
theorem ef_6_1 (m : MethodId) (a1 : Addr) : entryFrame m #[(.ref a1)] 1 = mkF m 0 #[.val (.ref a1)] [] := by first | (simp [entryFrame, mkF, argsToLocals, Value.category]; done) | rfl
def Q6_1 (Z : State) (a1 : Addr) (al : Addr) (x : Addr) (k : ClassId) (u0 : UInt64) (u1 : UInt64) (u2 : UInt64) (h0 : Heap) (n0 : Nat) (v : Option Value) (h : Heap) (L : List Loc) : Prop := ∃ y : Addr, ∃ k2 : ClassId, v = none ∧ Fr n0 L ∧ Keep h0 h [a1] ∧ Fld Z h a1 "com/example/crisp_haptics/crisphaptics/SampleBlocks" "block" "[D" (.ref y) ∧ Fld Z h a1 "com/example/crisp_haptics/crisphaptics/SampleBlocks" "inBlock" "I" (.int (1 : Int32)) ∧ Fld Z h a1 "com/example/crisp_haptics/crisphaptics/SampleBlocks" "fullBlocks" "Ljava/util/List;" (.ref al) ∧ Arv Z h y k2 .double (1 : Int32) [(.double u0)] (.double 0) ∧ h0.size ≤ y ∧ (True)
set_option maxRecDepth 65536 in
set_option maxHeartbeats 40000000 in
theorem rm6_1 (l : Launch) (Z : State) (a0 : Array Value) (hw : ∀ d ∈ tables_1, d.before a0 Z = true) (ws : List Jvm.Cond) (a1 : Addr) (al : Addr) (x : Addr) (k : ClassId) (u0 : UInt64) (u1 : UInt64) (u2 : UInt64) (h0 : Heap) (n0 : Nat) (Z0 : n0 ≤ h0.size) (E_a1 : Exa Z h0 a1 "com/example/crisp_haptics/crisphaptics/SampleBlocks") (F_inBlock_a1 : Fld Z h0 a1 "com/example/crisp_haptics/crisphaptics/SampleBlocks" "inBlock" "I" (.int (1 : Int32))) (F_block_a1 : Fld Z h0 a1 "com/example/crisp_haptics/crisphaptics/SampleBlocks" "block" "[D" (.ref x)) (F_fullBlocks_a1 : Fld Z h0 a1 "com/example/crisp_haptics/crisphaptics/SampleBlocks" "fullBlocks" "Ljava/util/List;" (.ref al)) (V_x : Arv Z h0 x k .double (32768 : Int32) [(.double u0), (.double u1), (.double u2)] (.double 0)) (g_a1 : n0 ≤ a1) :
    MetFree l (⟨"com/example/crisp_haptics/crisphaptics/SampleBlocks", "fitToCount", "()V"⟩ : MethodName) (head1 (Jvm.Cond.code (⟨"com/example/crisp_haptics/crisphaptics/SampleBlocks", "fitToCount", "()V"⟩ : MethodName) prog_82_method_4_code 1 none :: ws) ({ frames := 2, cells := 1, slots := 1, locals := 55 } : Room)) (fun a U => a = #[(.ref a1)] ∧ Z.Warmed39 U.vm ∧ U.heap = h0) (fun _ _ _ _ _ => True) (fun _ U o U' => ∃ v L, o = .returned v ∧ Q6_1 Z a1 al x k u0 u1 u2 h0 n0 v U'.heap L ∧ FrameEnd U o U' L ({ frames := 2, cells := 1, slots := 1, locals := 55 } : Room).cells ({ frames := 2, cells := 1, slots := 1, locals := 55 } : Room).slots) := by
  refine MetFree.of_bodySF (plainFor_of_name pn_6_1) hisR ?_
  intro p e s m args below meth c s₁ Bd hml0 hP hK
  obtain ⟨rfl, hZ, hh⟩ := hP
  have hx := Bd.exec
  have hby := Bd.bytes
  have hml : c.maxLocals = 1 := hml0
  have hown : s.vm.findClass "com/example/crisp_haptics/crisphaptics/SampleBlocks" = some m.cls := findClass_of_methodNamed Bd.named
  have hnm := (name_of_methodNamed Bd.named Bd.method).1
  have X0 : Stand p l e ({ frames := 2, cells := 1, slots := 1, locals := 55 } : Room) s m #[(.ref a1)] below meth c s₁ [] 0 0 := Stand.of_body Bd
  have e0 : s₁.heap = h0 := by rw [← hh, Bd.state]; rfl
  have N0 := Fr.nil n0
  have pre0 : ∀ tq, Steps p.tables e below (s₁.setTop (mkF m 0 #[.val (.ref a1)] [])) tq → Steps p.tables e below (s₁.setTop (entryFrame m #[(.ref a1)] 1)) tq := fun tq kq => castTop (ef_6_1 m a1) kq
  have pre1 : ∀ tq, Steps p.tables e below (s₁.setTop (mkF m 1 #[.val (.ref a1)] [(.ref a1)])) tq → Steps p.tables e below (s₁.setTop (entryFrame m #[(.ref a1)] 1)) tq := by
    refine fun tq kq => pre0 tq ?_
    show Steps p.tables e below (s₁.setTop (mkF m 0 #[.val (.ref a1)] [])) _
    refine XS.aloadN X0.here hx rfl (hb hby d6_1_0) rfl rfl ?_
    exact kq
  obtain ⟨T2, X2, e2, st2⟩ := getF X0 hx hZ hown (host := "") (Or.inl (hw _ (List.mem_of_getElem? (i := 44) rfl))) Via.refl e0 F_inBlock_a1 (g := (mkF m 1 #[.val (.ref a1)] [(.ref a1)])) rfl rfl (hb hby d6_1_1)
  have pre3 : ∀ tq, Steps p.tables e below (T2.setTop (mkF m 4 #[.val (.ref a1)] [(.int (1 : Int32))])) tq → Steps p.tables e below (s₁.setTop (entryFrame m #[(.ref a1)] 1)) tq := fun tq kq => pre1 tq (st2 _ kq)
  have pre4 : ∀ tq, Steps p.tables e below (T2.setTop (mkF m 5 #[.val (.ref a1)] [(.ref a1), (.int (1 : Int32))])) tq → Steps p.tables e below (s₁.setTop (entryFrame m #[(.ref a1)] 1)) tq := by
    refine fun tq kq => pre3 tq ?_
    show Steps p.tables e below (T2.setTop (mkF m 4 #[.val (.ref a1)] [(.int (1 : Int32))])) _
    refine XS.aloadN X2.here hx rfl (hb hby d6_1_4) rfl rfl ?_
    exact kq
  obtain ⟨T5, X5, e5, st5⟩ := getF X2 hx hZ hown (host := "") (Or.inl (hw _ (List.mem_of_getElem? (i := 37) rfl))) Via.refl e2 F_block_a1 (g := (mkF m 5 #[.val (.ref a1)] [(.ref a1), (.int (1 : Int32))])) rfl rfl (hb hby d6_1_5)
  have pre6 : ∀ tq, Steps p.tables e below (T5.setTop (mkF m 8 #[.val (.ref a1)] [(.ref x), (.int (1 : Int32))])) tq → Steps p.tables e below (s₁.setTop (entryFrame m #[(.ref a1)] 1)) tq := fun tq kq => pre4 tq (st5 _ kq)
  have Vc7 := V_x
  obtain ⟨cl7, Ar7, Aq7, As7, An7, Ah7, Ag7⟩ := Vc7
  have pre8 : ∀ tq, Steps p.tables e below (T5.setTop (mkF m 9 #[.val (.ref a1)] [(.int (32768 : Int32)), (.int (1 : Int32))])) tq → Steps p.tables e below (s₁.setTop (entryFrame m #[(.ref a1)] 1)) tq := fun tq kq => pre6 tq (X5.arraylength hx (by rw [e5]; exact Ar7.1) (State.isArrayOf_alike hZ.alike Ar7.2.1) (g := (mkF m 8 #[.val (.ref a1)] [(.ref x), (.int (1 : Int32))])) rfl rfl (hb hby d6_1_8) _ (by rw [len_of As7 An7]; exact kq))
  have pre9 : ∀ tq, Steps p.tables e below (T5.setTop (mkF m 12 #[.val (.ref a1)] [])) tq → Steps p.tables e below (s₁.setTop (entryFrame m #[(.ref a1)] 1)) tq := by
    refine fun tq kq => pre8 tq ?_
    show Steps p.tables e below (T5.setTop (mkF m 9 #[.val (.ref a1)] [(.int (32768 : Int32)), (.int (1 : Int32))])) _
    refine XS.icmpNo X5.here hx rfl (hb hby d6_1_9) rfl (tlt (by decide : (1 : Int32) < (32768 : Int32))).2.1 ?_
    exact kq
  have pre10 : ∀ tq, Steps p.tables e below (T5.setTop (mkF m 14 #[.val (.ref a1)] [(.ref a1), (.ref a1)])) tq → Steps p.tables e below (s₁.setTop (entryFrame m #[(.ref a1)] 1)) tq := by
    refine fun tq kq => pre9 tq ?_
    show Steps p.tables e below (T5.setTop (mkF m 12 #[.val (.ref a1)] [])) _
    refine XS.aloadN X5.here hx rfl (hb hby d6_1_12) rfl rfl ?_
    show Steps p.tables e below (T5.setTop (mkF m 13 #[.val (.ref a1)] [(.ref a1)])) _
    refine XS.aloadN X5.here hx rfl (hb hby d6_1_13) rfl rfl ?_
    exact kq
  obtain ⟨T11, X11, e11, st11⟩ := getF X5 hx hZ hown (host := "") (Or.inl (hw _ (List.mem_of_getElem? (i := 37) rfl))) Via.refl e5 F_block_a1 (g := (mkF m 14 #[.val (.ref a1)] [(.ref a1), (.ref a1)])) rfl rfl (hb hby d6_1_14)
  have pre12 : ∀ tq, Steps p.tables e below (T11.setTop (mkF m 17 #[.val (.ref a1)] [(.ref x), (.ref a1)])) tq → Steps p.tables e below (s₁.setTop (entryFrame m #[(.ref a1)] 1)) tq := fun tq kq => pre10 tq (st11 _ kq)
  have pre13 : ∀ tq, Steps p.tables e below (T11.setTop (mkF m 18 #[.val (.ref a1)] [(.ref a1), (.ref x), (.ref a1)])) tq → Steps p.tables e below (s₁.setTop (entryFrame m #[(.ref a1)] 1)) tq := by
    refine fun tq kq => pre12 tq ?_
    show Steps p.tables e below (T11.setTop (mkF m 17 #[.val (.ref a1)] [(.ref x), (.ref a1)])) _
    refine XS.aloadN X11.here hx rfl (hb hby d6_1_17) rfl rfl ?_
    exact kq
  obtain ⟨T14, X14, e14, st14⟩ := getF X11 hx hZ hown (host := "") (Or.inl (hw _ (List.mem_of_getElem? (i := 44) rfl))) Via.refl e11 F_inBlock_a1 (g := (mkF m 18 #[.val (.ref a1)] [(.ref a1), (.ref x), (.ref a1)])) rfl rfl (hb hby d6_1_18)
  have pre15 : ∀ tq, Steps p.tables e below (T14.setTop (mkF m 21 #[.val (.ref a1)] [(.int (1 : Int32)), (.ref x), (.ref a1)])) tq → Steps p.tables e below (s₁.setTop (entryFrame m #[(.ref a1)] 1)) tq := fun tq kq => pre13 tq (st14 _ kq)
  have Z16 : n0 ≤ h0.size := Z0
  obtain ⟨_, _, ⟨T16, L16, k16, n16⟩, -, X16, ⟨Lc16, hQ16, l16, y16, z16⟩, st16⟩ := Jvm.LawKit.callS X14 hx (y := (⟨"java/util/Arrays", "copyOf", "([DI)[D"⟩ : MethodName)) hown (mvT hZ (hw _ (List.mem_of_getElem? (i := 46) rfl))) (mvT hZ (hw _ (List.mem_of_getElem? (i := 47) rfl))) (mvT hZ (hw _ (List.mem_of_getElem? (i := 48) rfl))) (mvT hZ (hw _ (List.mem_of_getElem? (i := 49) rfl))) (by decide) (backOf (W := 1) (rm7_1 l Z a0 hw [] x k u0 u1 u2 h0 n0 Z16 V_x) hZ (hw _ (List.mem_of_getElem? (i := 49) rfl)) (hw _ (List.mem_of_getElem? (i := 48) rfl)) (by decide) (by decide)) (g := (mkF m 21 #[.val (.ref a1)] [(.int (1 : Int32)), (.ref x), (.ref a1)])) rfl (by rw [hml]; rfl) (argsL := [(.ref x), (.int (1 : Int32))]) (rest := [(.ref a1)]) (lenOf pd6_1_0 rfl) rfl (by show 2 * 0 + _ ≤ _; exact Nat.le_of_eq rfl) (hb hby d6_1_21) (fun _ _ => ⟨rfl, e14, (by decide : 0 + 1 ≤ _), (by decide : 0 + 1 ≤ _)⟩)
  dsimp only [Pt.U, Pt.locs, Pt.cells, Pt.slots] at X16 l16 y16 z16 st16 hQ16
  subst l16 y16 z16
  obtain ⟨r17, u20, rfl, Nq16, Kq16, f18, f19, hq16⟩ := hQ16
  have N16 := Fr.app N0 Nq16
  have pre21 : ∀ tq, Steps p.tables e below (T16.setTop (mkF m 24 #[.val (.ref a1)] [(.ref r17), (.ref a1)])) tq → Steps p.tables e below (s₁.setTop (entryFrame m #[(.ref a1)] 1)) tq := fun tq kq => pre15 tq (st16 _ kq)
  have K16 : Keep h0 T16.heap [a1] := Keep.trans (Keep.refl h0 [a1]) Kq16 all0
  have f22 := E_a1.keep Kq16
  have f23 := F_inBlock_a1.keep Kq16 (List.not_mem_nil)
  have f24 := F_block_a1.keep Kq16 (List.not_mem_nil)
  have f25 := F_fullBlocks_a1.keep Kq16 (List.not_mem_nil)
  have f26 := V_x.keep Kq16 (List.not_mem_nil)
  have g_r17 : n0 ≤ r17 := Nat.le_trans Z16 f19
  have sz_r17 : h0.size ≤ r17 := Nat.le_trans (Nat.le_refl h0.size) f19
  have ne27 : a1 ≠ r17 := Nat.ne_of_lt (Nat.lt_of_lt_of_le E_a1.lt f19)
  have ne28 : x ≠ r17 := Nat.ne_of_lt (Nat.lt_of_lt_of_le V_x.lt f19)
  obtain ⟨T29, h29, X29, e29, W29, st29⟩ := putF X16 hx hZ hown (host := "") (Or.inl (hw _ (List.mem_of_getElem? (i := 37) rfl))) Via.refl rfl f24 f22 (Or.inl (hw _ (List.mem_of_getElem? (i := 38) rfl))) (hw _ (List.mem_of_getElem? (i := 1) rfl)) (ty := (.array .double)) (by decide) rfl rfl (g := (mkF m 24 #[.val (.ref a1)] [(.ref r17), (.ref a1)])) rfl rfl (hb hby d6_1_24)
  have pre30 : ∀ tq, Steps p.tables e below (T29.setTop (mkF m 27 #[.val (.ref a1)] [])) tq → Steps p.tables e below (s₁.setTop (entryFrame m #[(.ref a1)] 1)) tq := fun tq kq => pre21 tq (st29 _ kq)
  have N29 := Fr.snoc X29 N16 g_a1
  have K29 : Keep h0 h29 [a1] := Keep.wr K16 W29 (Or.inl (List.mem_of_getElem? (i := 0) rfl))
  have f31 := f22.wr W29
  have f32 := f23.other W29 (Or.inr (slot_ne (Or.inl (hw _ (List.mem_of_getElem? (i := 45) rfl))) (Or.inl (hw _ (List.mem_of_getElem? (i := 38) rfl))) (by decide) (t := .int) (t' := (.array .double)) (by decide) (by decide)))
  have f33 := f25.other W29 (Or.inr (slot_ne (Or.inr (hw _ (List.mem_of_getElem? (i := 34) rfl))) (Or.inl (hw _ (List.mem_of_getElem? (i := 38) rfl))) (by decide) (t := (.object "java/util/List")) (t' := (.array .double)) (by decide) (by decide)))
  have f34 := f18.other W29 (Ne.symm ne27)
  have f35 := f24.same W29
  obtain ⟨fs, hr, hrun, hended, hW, hsame⟩ := X29.leave (v := none) (fun _ => rfl)
  refine ⟨_, _, pre30 _ ?_, hrun, hended, _, _, rfl, ?_, ⟨_, rfl⟩, hW, hsame.mono (by decide) (by decide)⟩
  · skip
    show Steps p.tables e below (T29.setTop (mkF m 27 #[.val (.ref a1)] [])) _
    exact X29.returnOut hx Bd.returns (hb hby d6_1_27) hr
  · show Q6_1 Z a1 al x k u0 u1 u2 h0 n0 _ T29.heap _
    rw [e29]
    refine ⟨r17, u20, rfl, N29, K29, f35, f32, f33, f34, sz_r17, ?_⟩
    trivial
/-! body 6_2 -/
theorem d6_2_0 : decode prog_82_method_4_code 0 = .ok (.aload_n 0, 1) := by decide +kernel
theorem d6_2_1 : decode prog_82_method_4_code 1 = .ok (.getfield 21, 3) := by decide +kernel
theorem d6_2_4 : decode prog_82_method_4_code 4 = .ok (.aload_n 0, 1) := by decide +kernel
theorem d6_2_5 : decode prog_82_method_4_code 5 = .ok (.getfield 17, 3) := by decide +kernel
theorem d6_2_8 : decode prog_82_method_4_code 8 = .ok (.arraylength, 1) := by decide +kernel
theorem d6_2_9 : decode prog_82_method_4_code 9 = .ok (.if_icmp .ge 18, 3) := by decide +kernel
theorem d6_2_12 : decode prog_82_method_4_code 12 = .ok (.aload_n 0, 1) := by decide +kernel
theorem d6_2_13 : decode prog_82_method_4_code 13 = .ok (.aload_n 0, 1) := by decide +kernel
theorem d6_2_14 : decode prog_82_method_4_code 14 = .ok (.getfield 17, 3) := by decide +kernel
theorem d6_2_17 : decode prog_82_method_4_code 17 = .ok (.aload_n 0, 1) := by decide +kernel
theorem d6_2_18 : decode prog_82_method_4_code 18 = .ok (.getfield 21, 3) := by decide +kernel
theorem d6_2_21 : decode prog_82_method_4_code 21 = .ok (.invokestatic 40, 3) := by decide +kernel
theorem d6_2_24 : decode prog_82_method_4_code 24 = .ok (.putfield 17, 3) := by decide +kernel
theorem d6_2_27 : decode prog_82_method_4_code 27 = .ok (.return_, 1) := by decide +kernel
theorem pn_6_2 : plainName "com/example/crisp_haptics/crisphaptics/SampleBlocks" = true := by first | (simp [plainName, overriddenIn]; done) | decide +kernel
theorem pd6_2_0 : parseMethodDescriptor "([DI)[D" = some ⟨[(.array .double), .int], some (.array .double)⟩ := by decide +kernel
theorem ef_6_2 (m : MethodId) (a1 : Addr) : entryFrame m #[(.ref a1)] 1 = mkF m 0 #[.val (.ref a1)] [] := by first | (simp [entryFrame, mkF, argsToLocals, Value.category]; done) | rfl
def Q6_2 (Z : State) (a1 : Addr) (al : Addr) (x : Addr) (k : ClassId) (u0 : UInt64) (u1 : UInt64) (u2 : UInt64) (h0 : Heap) (n0 : Nat) (v : Option Value) (h : Heap) (L : List Loc) : Prop := ∃ y : Addr, ∃ k2 : ClassId, v = none ∧ Fr n0 L ∧ Keep h0 h [a1] ∧ Fld Z h a1 "com/example/crisp_haptics/crisphaptics/SampleBlocks" "block" "[D" (.ref y) ∧ Fld Z h a1 "com/example/crisp_haptics/crisphaptics/SampleBlocks" "inBlock" "I" (.int (2 : Int32)) ∧ Fld Z h a1 "com/example/crisp_haptics/crisphaptics/SampleBlocks" "fullBlocks" "Ljava/util/List;" (.ref al) ∧ Arv Z h y k2 .double (2 : Int32) [(.double u0), (.double u1)] (.double 0) ∧ h0.size ≤ y ∧ (True)
set_option maxRecDepth 65536 in
set_option maxHeartbeats 40000000 in
theorem rm6_2 (l : Launch) (Z : State) (a0 : Array Value) (hw : ∀ d ∈ tables_1, d.before a0 Z = true) (ws : List Jvm.Cond) (a1 : Addr) (al : Addr) (x : Addr) (k : ClassId) (u0 : UInt64) (u1 : UInt64) (u2 : UInt64) (h0 : Heap) (n0 : Nat) (Z0 : n0 ≤ h0.size) (E_a1 : Exa Z h0 a1 "com/example/crisp_haptics/crisphaptics/SampleBlocks") (F_inBlock_a1 : Fld Z h0 a1 "com/example/crisp_haptics/crisphaptics/SampleBlocks" "inBlock" "I" (.int (2 : Int32))) (F_block_a1 : Fld Z h0 a1 "com/example/crisp_haptics/crisphaptics/SampleBlocks" "block" "[D" (.ref x)) (F_fullBlocks_a1 : Fld Z h0 a1 "com/example/crisp_haptics/crisphaptics/SampleBlocks" "fullBlocks" "Ljava/util/List;" (.ref al)) (V_x : Arv Z h0 x k .double (32768 : Int32) [(.double u0), (.double u1), (.double u2)] (.double 0)) (g_a1 : n0 ≤ a1) :
    MetFree l (⟨"com/example/crisp_haptics/crisphaptics/SampleBlocks", "fitToCount", "()V"⟩ : MethodName) (head1 (Jvm.Cond.code (⟨"com/example/crisp_haptics/crisphaptics/SampleBlocks", "fitToCount", "()V"⟩ : MethodName) prog_82_method_4_code 1 none :: ws) ({ frames := 2, cells := 1, slots := 2, locals := 55 } : Room)) (fun a U => a = #[(.ref a1)] ∧ Z.Warmed39 U.vm ∧ U.heap = h0) (fun _ _ _ _ _ => True) (fun _ U o U' => ∃ v L, o = .returned v ∧ Q6_2 Z a1 al x k u0 u1 u2 h0 n0 v U'.heap L ∧ FrameEnd U o U' L ({ frames := 2, cells := 1, slots := 2, locals := 55 } : Room).cells ({ frames := 2, cells := 1, slots := 2, locals := 55 } : Room).slots) := by
  refine MetFree.of_bodySF (plainFor_of_name pn_6_2) hisR ?_
  intro p e s m args below meth c s₁ Bd hml0 hP hK
  obtain ⟨rfl, hZ, hh⟩ := hP
  have hx := Bd.exec
  have hby := Bd.bytes
  have hml : c.maxLocals = 1 := hml0
  have hown : s.vm.findClass "com/example/crisp_haptics/crisphaptics/SampleBlocks" = some m.cls := findClass_of_methodNamed Bd.named
  have hnm := (name_of_methodNamed Bd.named Bd.method).1
  have X0 : Stand p l e ({ frames := 2, cells := 1, slots := 2, locals := 55 } : Room) s m #[(.ref a1)] below meth c s₁ [] 0 0 := Stand.of_body Bd
  have e0 : s₁.heap = h0 := by rw [← hh, Bd.state]; rfl
  have N0 := Fr.nil n0
  have pre0 : ∀ tq, Steps p.tables e below (s₁.setTop (mkF m 0 #[.val (.ref a1)] [])) tq → Steps p.tables e below (s₁.setTop (entryFrame m #[(.ref a1)] 1)) tq := fun tq kq => castTop (ef_6_2 m a1) kq
  have pre1 : ∀ tq, Steps p.tables e below (s₁.setTop (mkF m 1 #[.val (.ref a1)] [(.ref a1)])) tq → Steps p.tables e below (s₁.setTop (entryFrame m #[(.ref a1)] 1)) tq := by
    refine fun tq kq => pre0 tq ?_
    show Steps p.tables e below (s₁.setTop (mkF m 0 #[.val (.ref a1)] [])) _
    refine XS.aloadN X0.here hx rfl (hb hby d6_2_0) rfl rfl ?_
    exact kq
  obtain ⟨T2, X2, e2, st2⟩ := getF X0 hx hZ hown (host := "") (Or.inl (hw _ (List.mem_of_getElem? (i := 44) rfl))) Via.refl e0 F_inBlock_a1 (g := (mkF m 1 #[.val (.ref a1)] [(.ref a1)])) rfl rfl (hb hby d6_2_1)
  have pre3 : ∀ tq, Steps p.tables e below (T2.setTop (mkF m 4 #[.val (.ref a1)] [(.int (2 : Int32))])) tq → Steps p.tables e below (s₁.setTop (entryFrame m #[(.ref a1)] 1)) tq := fun tq kq => pre1 tq (st2 _ kq)
  have pre4 : ∀ tq, Steps p.tables e below (T2.setTop (mkF m 5 #[.val (.ref a1)] [(.ref a1), (.int (2 : Int32))])) tq → Steps p.tables e below (s₁.setTop (entryFrame m #[(.ref a1)] 1)) tq := by
    refine fun tq kq => pre3 tq ?_
    show Steps p.tables e below (T2.setTop (mkF m 4 #[.val (.ref a1)] [(.int (2 : Int32))])) _
    refine XS.aloadN X2.here hx rfl (hb hby d6_2_4) rfl rfl ?_
    exact kq
  obtain ⟨T5, X5, e5, st5⟩ := getF X2 hx hZ hown (host := "") (Or.inl (hw _ (List.mem_of_getElem? (i := 37) rfl))) Via.refl e2 F_block_a1 (g := (mkF m 5 #[.val (.ref a1)] [(.ref a1), (.int (2 : Int32))])) rfl rfl (hb hby d6_2_5)
  have pre6 : ∀ tq, Steps p.tables e below (T5.setTop (mkF m 8 #[.val (.ref a1)] [(.ref x), (.int (2 : Int32))])) tq → Steps p.tables e below (s₁.setTop (entryFrame m #[(.ref a1)] 1)) tq := fun tq kq => pre4 tq (st5 _ kq)
  have Vc7 := V_x
  obtain ⟨cl7, Ar7, Aq7, As7, An7, Ah7, Ag7⟩ := Vc7
  have pre8 : ∀ tq, Steps p.tables e below (T5.setTop (mkF m 9 #[.val (.ref a1)] [(.int (32768 : Int32)), (.int (2 : Int32))])) tq → Steps p.tables e below (s₁.setTop (entryFrame m #[(.ref a1)] 1)) tq := fun tq kq => pre6 tq (X5.arraylength hx (by rw [e5]; exact Ar7.1) (State.isArrayOf_alike hZ.alike Ar7.2.1) (g := (mkF m 8 #[.val (.ref a1)] [(.ref x), (.int (2 : Int32))])) rfl rfl (hb hby d6_2_8) _ (by rw [len_of As7 An7]; exact kq))
  have pre9 : ∀ tq, Steps p.tables e below (T5.setTop (mkF m 12 #[.val (.ref a1)] [])) tq → Steps p.tables e below (s₁.setTop (entryFrame m #[(.ref a1)] 1)) tq := by
    refine fun tq kq => pre8 tq ?_
    show Steps p.tables e below (T5.setTop (mkF m 9 #[.val (.ref a1)] [(.int (32768 : Int32)), (.int (2 : Int32))])) _
    refine XS.icmpNo X5.here hx rfl (hb hby d6_2_9) rfl (tlt (by decide : (2 : Int32) < (32768 : Int32))).2.1 ?_
    exact kq
  have pre10 : ∀ tq, Steps p.tables e below (T5.setTop (mkF m 14 #[.val (.ref a1)] [(.ref a1), (.ref a1)])) tq → Steps p.tables e below (s₁.setTop (entryFrame m #[(.ref a1)] 1)) tq := by
    refine fun tq kq => pre9 tq ?_
    show Steps p.tables e below (T5.setTop (mkF m 12 #[.val (.ref a1)] [])) _
    refine XS.aloadN X5.here hx rfl (hb hby d6_2_12) rfl rfl ?_
    show Steps p.tables e below (T5.setTop (mkF m 13 #[.val (.ref a1)] [(.ref a1)])) _
    refine XS.aloadN X5.here hx rfl (hb hby d6_2_13) rfl rfl ?_
    exact kq
  obtain ⟨T11, X11, e11, st11⟩ := getF X5 hx hZ hown (host := "") (Or.inl (hw _ (List.mem_of_getElem? (i := 37) rfl))) Via.refl e5 F_block_a1 (g := (mkF m 14 #[.val (.ref a1)] [(.ref a1), (.ref a1)])) rfl rfl (hb hby d6_2_14)
  have pre12 : ∀ tq, Steps p.tables e below (T11.setTop (mkF m 17 #[.val (.ref a1)] [(.ref x), (.ref a1)])) tq → Steps p.tables e below (s₁.setTop (entryFrame m #[(.ref a1)] 1)) tq := fun tq kq => pre10 tq (st11 _ kq)
  have pre13 : ∀ tq, Steps p.tables e below (T11.setTop (mkF m 18 #[.val (.ref a1)] [(.ref a1), (.ref x), (.ref a1)])) tq → Steps p.tables e below (s₁.setTop (entryFrame m #[(.ref a1)] 1)) tq := by
    refine fun tq kq => pre12 tq ?_
    show Steps p.tables e below (T11.setTop (mkF m 17 #[.val (.ref a1)] [(.ref x), (.ref a1)])) _
    refine XS.aloadN X11.here hx rfl (hb hby d6_2_17) rfl rfl ?_
    exact kq
  obtain ⟨T14, X14, e14, st14⟩ := getF X11 hx hZ hown (host := "") (Or.inl (hw _ (List.mem_of_getElem? (i := 44) rfl))) Via.refl e11 F_inBlock_a1 (g := (mkF m 18 #[.val (.ref a1)] [(.ref a1), (.ref x), (.ref a1)])) rfl rfl (hb hby d6_2_18)
  have pre15 : ∀ tq, Steps p.tables e below (T14.setTop (mkF m 21 #[.val (.ref a1)] [(.int (2 : Int32)), (.ref x), (.ref a1)])) tq → Steps p.tables e below (s₁.setTop (entryFrame m #[(.ref a1)] 1)) tq := fun tq kq => pre13 tq (st14 _ kq)
  have Z16 : n0 ≤ h0.size := Z0
  obtain ⟨_, _, ⟨T16, L16, k16, n16⟩, -, X16, ⟨Lc16, hQ16, l16, y16, z16⟩, st16⟩ := Jvm.LawKit.callS X14 hx (y := (⟨"java/util/Arrays", "copyOf", "([DI)[D"⟩ : MethodName)) hown (mvT hZ (hw _ (List.mem_of_getElem? (i := 46) rfl))) (mvT hZ (hw _ (List.mem_of_getElem? (i := 47) rfl))) (mvT hZ (hw _ (List.mem_of_getElem? (i := 48) rfl))) (mvT hZ (hw _ (List.mem_of_getElem? (i := 49) rfl))) (by decide) (backOf (W := 1) (rm7_2 l Z a0 hw [] x k u0 u1 u2 h0 n0 Z16 V_x) hZ (hw _ (List.mem_of_getElem? (i := 49) rfl)) (hw _ (List.mem_of_getElem? (i := 48) rfl)) (by decide) (by decide)) (g := (mkF m 21 #[.val (.ref a1)] [(.int (2 : Int32)), (.ref x), (.ref a1)])) rfl (by rw [hml]; rfl) (argsL := [(.ref x), (.int (2 : Int32))]) (rest := [(.ref a1)]) (lenOf pd6_2_0 rfl) rfl (by show 2 * 0 + _ ≤ _; exact Nat.le_of_eq rfl) (hb hby d6_2_21) (fun _ _ => ⟨rfl, e14, (by decide : 0 + 1 ≤ _), (by decide : 0 + 2 ≤ _)⟩)
  dsimp only [Pt.U, Pt.locs, Pt.cells, Pt.slots] at X16 l16 y16 z16 st16 hQ16
  subst l16 y16 z16
  obtain ⟨r17, u20, rfl, Nq16, Kq16, f18, f19, hq16⟩ := hQ16
  have N16 := Fr.app N0 Nq16
  have pre21 : ∀ tq, Steps p.tables e below (T16.setTop (mkF m 24 #[.val (.ref a1)] [(.ref r17), (.ref a1)])) tq → Steps p.tables e below (s₁.setTop (entryFrame m #[(.ref a1)] 1)) tq := fun tq kq => pre15 tq (st16 _ kq)
  have K16 : Keep h0 T16.heap [a1] := Keep.trans (Keep.refl h0 [a1]) Kq16 all0
  have f22 := E_a1.keep Kq16
  have f23 := F_inBlock_a1.keep Kq16 (List.not_mem_nil)
  have f24 := F_block_a1.keep Kq16 (List.not_mem_nil)
  have f25 := F_fullBlocks_a1.keep Kq16 (List.not_mem_nil)
  have f26 := V_x.keep Kq16 (List.not_mem_nil)
  have g_r17 : n0 ≤ r17 := Nat.le_trans Z16 f19
  have sz_r17 : h0.size ≤ r17 := Nat.le_trans (Nat.le_refl h0.size) f19
  have ne27 : a1 ≠ r17 := Nat.ne_of_lt (Nat.lt_of_lt_of_le E_a1.lt f19)
  have ne28 : x ≠ r17 := Nat.ne_of_lt (Nat.lt_of_lt_of_le V_x.lt f19)
  obtain ⟨T29, h29, X29, e29, W29, st29⟩ := putF X16 hx hZ hown (host := "") (Or.inl (hw _ (List.mem_of_getElem? (i := 37) rfl))) Via.refl rfl f24 f22 (Or.inl (hw _ (List.mem_of_getElem? (i := 38) rfl))) (hw _ (List.mem_of_getElem? (i := 1) rfl)) (ty := (.array .double)) (by decide) rfl rfl (g := (mkF m 24 #[.val (.ref a1)] [(.ref r17), (.ref a1)])) rfl rfl (hb hby d6_2_24)
  have pre30 : ∀ tq, Steps p.tables e below (T29.setTop (mkF m 27 #[.val (.ref a1)] [])) tq → Steps p.tables e below (s₁.setTop (entryFrame m #[(.ref a1)] 1)) tq := fun tq kq => pre21 tq (st29 _ kq)
  have N29 := Fr.snoc X29 N16 g_a1
  have K29 : Keep h0 h29 [a1] := Keep.wr K16 W29 (Or.inl (List.mem_of_getElem? (i := 0) rfl))
  have f31 := f22.wr W29
  have f32 := f23.other W29 (Or.inr (slot_ne (Or.inl (hw _ (List.mem_of_getElem? (i := 45) rfl))) (Or.inl (hw _ (List.mem_of_getElem? (i := 38) rfl))) (by decide) (t := .int) (t' := (.array .double)) (by decide) (by decide)))
  have f33 := f25.other W29 (Or.inr (slot_ne (Or.inr (hw _ (List.mem_of_getElem? (i := 34) rfl))) (Or.inl (hw _ (List.mem_of_getElem? (i := 38) rfl))) (by decide) (t := (.object "java/util/List")) (t' := (.array .double)) (by decide) (by decide)))
  have f34 := f18.other W29 (Ne.symm ne27)
  have f35 := f24.same W29
  obtain ⟨fs, hr, hrun, hended, hW, hsame⟩ := X29.leave (v := none) (fun _ => rfl)
  refine ⟨_, _, pre30 _ ?_, hrun, hended, _, _, rfl, ?_, ⟨_, rfl⟩, hW, hsame.mono (by decide) (by decide)⟩
  · skip
    show Steps p.tables e below (T29.setTop (mkF m 27 #[.val (.ref a1)] [])) _
    exact X29.returnOut hx Bd.returns (hb hby d6_2_27) hr
  · show Q6_2 Z a1 al x k u0 u1 u2 h0 n0 _ T29.heap _
    rw [e29]
    refine ⟨r17, u20, rfl, N29, K29, f35, f32, f33, f34, sz_r17, ?_⟩
    trivial
/-! body 6_3 -/
theorem d6_3_0 : decode prog_82_method_4_code 0 = .ok (.aload_n 0, 1) := by decide +kernel
theorem d6_3_1 : decode prog_82_method_4_code 1 = .ok (.getfield 21, 3) := by decide +kernel
theorem d6_3_4 : decode prog_82_method_4_code 4 = .ok (.aload_n 0, 1) := by decide +kernel
theorem d6_3_5 : decode prog_82_method_4_code 5 = .ok (.getfield 17, 3) := by decide +kernel
theorem d6_3_8 : decode prog_82_method_4_code 8 = .ok (.arraylength, 1) := by decide +kernel
theorem d6_3_9 : decode prog_82_method_4_code 9 = .ok (.if_icmp .ge 18, 3) := by decide +kernel
theorem d6_3_12 : decode prog_82_method_4_code 12 = .ok (.aload_n 0, 1) := by decide +kernel
theorem d6_3_13 : decode prog_82_method_4_code 13 = .ok (.aload_n 0, 1) := by decide +kernel
theorem d6_3_14 : decode prog_82_method_4_code 14 = .ok (.getfield 17, 3) := by decide +kernel
theorem d6_3_17 : decode prog_82_method_4_code 17 = .ok (.aload_n 0, 1) := by decide +kernel
theorem d6_3_18 : decode prog_82_method_4_code 18 = .ok (.getfield 21, 3) := by decide +kernel
theorem d6_3_21 : decode prog_82_method_4_code 21 = .ok (.invokestatic 40, 3) := by decide +kernel
theorem d6_3_24 : decode prog_82_method_4_code 24 = .ok (.putfield 17, 3) := by decide +kernel
theorem d6_3_27 : decode prog_82_method_4_code 27 = .ok (.return_, 1) := by decide +kernel
theorem pn_6_3 : plainName "com/example/crisp_haptics/crisphaptics/SampleBlocks" = true := by first | (simp [plainName, overriddenIn]; done) | decide +kernel
theorem pd6_3_0 : parseMethodDescriptor "([DI)[D" = some ⟨[(.array .double), .int], some (.array .double)⟩ := by decide +kernel
theorem ef_6_3 (m : MethodId) (a1 : Addr) : entryFrame m #[(.ref a1)] 1 = mkF m 0 #[.val (.ref a1)] [] := by first | (simp [entryFrame, mkF, argsToLocals, Value.category]; done) | rfl
def Q6_3 (Z : State) (a1 : Addr) (al : Addr) (x : Addr) (k : ClassId) (u0 : UInt64) (u1 : UInt64) (u2 : UInt64) (h0 : Heap) (n0 : Nat) (v : Option Value) (h : Heap) (L : List Loc) : Prop := ∃ y : Addr, ∃ k2 : ClassId, v = none ∧ Fr n0 L ∧ Keep h0 h [a1] ∧ Fld Z h a1 "com/example/crisp_haptics/crisphaptics/SampleBlocks" "block" "[D" (.ref y) ∧ Fld Z h a1 "com/example/crisp_haptics/crisphaptics/SampleBlocks" "inBlock" "I" (.int (3 : Int32)) ∧ Fld Z h a1 "com/example/crisp_haptics/crisphaptics/SampleBlocks" "fullBlocks" "Ljava/util/List;" (.ref al) ∧ Arv Z h y k2 .double (3 : Int32) [(.double u0), (.double u1), (.double u2)] (.double 0) ∧ h0.size ≤ y ∧ (True)
set_option maxRecDepth 65536 in
set_option maxHeartbeats 40000000 in
theorem rm6_3 (l : Launch) (Z : State) (a0 : Array Value) (hw : ∀ d ∈ tables_1, d.before a0 Z = true) (ws : List Jvm.Cond) (a1 : Addr) (al : Addr) (x : Addr) (k : ClassId) (u0 : UInt64) (u1 : UInt64) (u2 : UInt64) (h0 : Heap) (n0 : Nat) (Z0 : n0 ≤ h0.size) (E_a1 : Exa Z h0 a1 "com/example/crisp_haptics/crisphaptics/SampleBlocks") (F_inBlock_a1 : Fld Z h0 a1 "com/example/crisp_haptics/crisphaptics/SampleBlocks" "inBlock" "I" (.int (3 : Int32))) (F_block_a1 : Fld Z h0 a1 "com/example/crisp_haptics/crisphaptics/SampleBlocks" "block" "[D" (.ref x)) (F_fullBlocks_a1 : Fld Z h0 a1 "com/example/crisp_haptics/crisphaptics/SampleBlocks" "fullBlocks" "Ljava/util/List;" (.ref al)) (V_x : Arv Z h0 x k .double (32768 : Int32) [(.double u0), (.double u1), (.double u2)] (.double 0)) (g_a1 : n0 ≤ a1) :
    MetFree l (⟨"com/example/crisp_haptics/crisphaptics/SampleBlocks", "fitToCount", "()V"⟩ : MethodName) (head1 (Jvm.Cond.code (⟨"com/example/crisp_haptics/crisphaptics/SampleBlocks", "fitToCount", "()V"⟩ : MethodName) prog_82_method_4_code 1 none :: ws) ({ frames := 2, cells := 1, slots := 3, locals := 55 } : Room)) (fun a U => a = #[(.ref a1)] ∧ Z.Warmed39 U.vm ∧ U.heap = h0) (fun _ _ _ _ _ => True) (fun _ U o U' => ∃ v L, o = .returned v ∧ Q6_3 Z a1 al x k u0 u1 u2 h0 n0 v U'.heap L ∧ FrameEnd U o U' L ({ frames := 2, cells := 1, slots := 3, locals := 55 } : Room).cells ({ frames := 2, cells := 1, slots := 3, locals := 55 } : Room).slots) := by
  refine MetFree.of_bodySF (plainFor_of_name pn_6_3) hisR ?_
  intro p e s m args below meth c s₁ Bd hml0 hP hK
  obtain ⟨rfl, hZ, hh⟩ := hP
  have hx := Bd.exec
  have hby := Bd.bytes
  have hml : c.maxLocals = 1 := hml0
  have hown : s.vm.findClass "com/example/crisp_haptics/crisphaptics/SampleBlocks" = some m.cls := findClass_of_methodNamed Bd.named
  have hnm := (name_of_methodNamed Bd.named Bd.method).1
  have X0 : Stand p l e ({ frames := 2, cells := 1, slots := 3, locals := 55 } : Room) s m #[(.ref a1)] below meth c s₁ [] 0 0 := Stand.of_body Bd
  have e0 : s₁.heap = h0 := by rw [← hh, Bd.state]; rfl
  have N0 := Fr.nil n0
  have pre0 : ∀ tq, Steps p.tables e below (s₁.setTop (mkF m 0 #[.val (.ref a1)] [])) tq → Steps p.tables e below (s₁.setTop (entryFrame m #[(.ref a1)] 1)) tq := fun tq kq => castTop (ef_6_3 m a1) kq
  have pre1 : ∀ tq, Steps p.tables e below (s₁.setTop (mkF m 1 #[.val (.ref a1)] [(.ref a1)])) tq → Steps p.tables e below (s₁.setTop (entryFrame m #[(.ref a1)] 1)) tq := by
    refine fun tq kq => pre0 tq ?_
    show Steps p.tables e below (s₁.setTop (mkF m 0 #[.val (.ref a1)] [])) _
    refine XS.aloadN X0.here hx rfl (hb hby d6_3_0) rfl rfl ?_
    exact kq
  obtain ⟨T2, X2, e2, st2⟩ := getF X0 hx hZ hown (host := "") (Or.inl (hw _ (List.mem_of_getElem? (i := 44) rfl))) Via.refl e0 F_inBlock_a1 (g := (mkF m 1 #[.val (.ref a1)] [(.ref a1)])) rfl rfl (hb hby d6_3_1)
  have pre3 : ∀ tq, Steps p.tables e below (T2.setTop (mkF m 4 #[.val (.ref a1)] [(.int (3 : Int32))])) tq → Steps p.tables e below (s₁.setTop (entryFrame m #[(.ref a1)] 1)) tq := fun tq kq => pre1 tq (st2 _ kq)
  have pre4 : ∀ tq, Steps p.tables e below (T2.setTop (mkF m 5 #[.val (.ref a1)] [(.ref a1), (.int (3 : Int32))])) tq → Steps p.tables e below (s₁.setTop (entryFrame m #[(.ref a1)] 1)) tq := by
    refine fun tq kq => pre3 tq ?_
    show Steps p.tables e below (T2.setTop (mkF m 4 #[.val (.ref a1)] [(.int (3 : Int32))])) _
    refine XS.aloadN X2.here hx rfl (hb hby d6_3_4) rfl rfl ?_
    exact kq
  obtain ⟨T5, X5, e5, st5⟩ := getF X2 hx hZ hown (host := "") (Or.inl (hw _ (List.mem_of_getElem? (i := 37) rfl))) Via.refl e2 F_block_a1 (g := (mkF m 5 #[.val (.ref a1)] [(.ref a1), (.int (3 : Int32))])) rfl rfl (hb hby d6_3_5)
  have pre6 : ∀ tq, Steps p.tables e below (T5.setTop (mkF m 8 #[.val (.ref a1)] [(.ref x), (.int (3 : Int32))])) tq → Steps p.tables e below (s₁.setTop (entryFrame m #[(.ref a1)] 1)) tq := fun tq kq => pre4 tq (st5 _ kq)
  have Vc7 := V_x
  obtain ⟨cl7, Ar7, Aq7, As7, An7, Ah7, Ag7⟩ := Vc7
  have pre8 : ∀ tq, Steps p.tables e below (T5.setTop (mkF m 9 #[.val (.ref a1)] [(.int (32768 : Int32)), (.int (3 : Int32))])) tq → Steps p.tables e below (s₁.setTop (entryFrame m #[(.ref a1)] 1)) tq := fun tq kq => pre6 tq (X5.arraylength hx (by rw [e5]; exact Ar7.1) (State.isArrayOf_alike hZ.alike Ar7.2.1) (g := (mkF m 8 #[.val (.ref a1)] [(.ref x), (.int (3 : Int32))])) rfl rfl (hb hby d6_3_8) _ (by rw [len_of As7 An7]; exact kq))
  have pre9 : ∀ tq, Steps p.tables e below (T5.setTop (mkF m 12 #[.val (.ref a1)] [])) tq → Steps p.tables e below (s₁.setTop (entryFrame m #[(.ref a1)] 1)) tq := by
    refine fun tq kq => pre8 tq ?_
    show Steps p.tables e below (T5.setTop (mkF m 9 #[.val (.ref a1)] [(.int (32768 : Int32)), (.int (3 : Int32))])) _
    refine XS.icmpNo X5.here hx rfl (hb hby d6_3_9) rfl (tlt (by decide : (3 : Int32) < (32768 : Int32))).2.1 ?_
    exact kq
  have pre10 : ∀ tq, Steps p.tables e below (T5.setTop (mkF m 14 #[.val (.ref a1)] [(.ref a1), (.ref a1)])) tq → Steps p.tables e below (s₁.setTop (entryFrame m #[(.ref a1)] 1)) tq := by
    refine fun tq kq => pre9 tq ?_
    show Steps p.tables e below (T5.setTop (mkF m 12 #[.val (.ref a1)] [])) _
    refine XS.aloadN X5.here hx rfl (hb hby d6_3_12) rfl rfl ?_
    show Steps p.tables e below (T5.setTop (mkF m 13 #[.val (.ref a1)] [(.ref a1)])) _
    refine XS.aloadN X5.here hx rfl (hb hby d6_3_13) rfl rfl ?_
    exact kq
  obtain ⟨T11, X11, e11, st11⟩ := getF X5 hx hZ hown (host := "") (Or.inl (hw _ (List.mem_of_getElem? (i := 37) rfl))) Via.refl e5 F_block_a1 (g := (mkF m 14 #[.val (.ref a1)] [(.ref a1), (.ref a1)])) rfl rfl (hb hby d6_3_14)
  have pre12 : ∀ tq, Steps p.tables e below (T11.setTop (mkF m 17 #[.val (.ref a1)] [(.ref x), (.ref a1)])) tq → Steps p.tables e below (s₁.setTop (entryFrame m #[(.ref a1)] 1)) tq := fun tq kq => pre10 tq (st11 _ kq)
  have pre13 : ∀ tq, Steps p.tables e below (T11.setTop (mkF m 18 #[.val (.ref a1)] [(.ref a1), (.ref x), (.ref a1)])) tq → Steps p.tables e below (s₁.setTop (entryFrame m #[(.ref a1)] 1)) tq := by
    refine fun tq kq => pre12 tq ?_
    show Steps p.tables e below (T11.setTop (mkF m 17 #[.val (.ref a1)] [(.ref x), (.ref a1)])) _
    refine XS.aloadN X11.here hx rfl (hb hby d6_3_17) rfl rfl ?_
    exact kq
  obtain ⟨T14, X14, e14, st14⟩ := getF X11 hx hZ hown (host := "") (Or.inl (hw _ (List.mem_of_getElem? (i := 44) rfl))) Via.refl e11 F_inBlock_a1 (g := (mkF m 18 #[.val (.ref a1)] [(.ref a1), (.ref x), (.ref a1)])) rfl rfl (hb hby d6_3_18)
  have pre15 : ∀ tq, Steps p.tables e below (T14.setTop (mkF m 21 #[.val (.ref a1)] [(.int (3 : Int32)), (.ref x), (.ref a1)])) tq → Steps p.tables e below (s₁.setTop (entryFrame m #[(.ref a1)] 1)) tq := fun tq kq => pre13 tq (st14 _ kq)
  have Z16 : n0 ≤ h0.size := Z0
  obtain ⟨_, _, ⟨T16, L16, k16, n16⟩, -, X16, ⟨Lc16, hQ16, l16, y16, z16⟩, st16⟩ := Jvm.LawKit.callS X14 hx (y := (⟨"java/util/Arrays", "copyOf", "([DI)[D"⟩ : MethodName)) hown (mvT hZ (hw _ (List.mem_of_getElem? (i := 46) rfl))) (mvT hZ (hw _ (List.mem_of_getElem? (i := 47) rfl))) (mvT hZ (hw _ (List.mem_of_getElem? (i := 48) rfl))) (mvT hZ (hw _ (List.mem_of_getElem? (i := 49) rfl))) (by decide) (backOf (W := 1) (rm7_3 l Z a0 hw [] x k u0 u1 u2 h0 n0 Z16 V_x) hZ (hw _ (List.mem_of_getElem? (i := 49) rfl)) (hw _ (List.mem_of_getElem? (i := 48) rfl)) (by decide) (by decide)) (g := (mkF m 21 #[.val (.ref a1)] [(.int (3 : Int32)), (.ref x), (.ref a1)])) rfl (by rw [hml]; rfl) (argsL := [(.ref x), (.int (3 : Int32))]) (rest := [(.ref a1)]) (lenOf pd6_3_0 rfl) rfl (by show 2 * 0 + _ ≤ _; exact Nat.le_of_eq rfl) (hb hby d6_3_21) (fun _ _ => ⟨rfl, e14, (by decide : 0 + 1 ≤ _), (by decide : 0 + 3 ≤ _)⟩)
  dsimp only [Pt.U, Pt.locs, Pt.cells, Pt.slots] at X16 l16 y16 z16 st16 hQ16
  subst l16 y16 z16
  obtain ⟨r17, u20, rfl, Nq16, Kq16, f18, f19, hq16⟩ := hQ16
  have N16 := Fr.app N0 Nq16
  have pre21 : ∀ tq, Steps p.tables e below (T16.setTop (mkF m 24 #[.val (.ref a1)] [(.ref r17), (.ref a1)])) tq → Steps p.tables e below (s₁.setTop (entryFrame m #[(.ref a1)] 1)) tq := fun tq kq => pre15 tq (st16 _ kq)
  have K16 : Keep h0 T16.heap [a1] := Keep.trans (Keep.refl h0 [a1]) Kq16 all0
  have f22 := E_a1.keep Kq16
  have f23 := F_inBlock_a1.keep Kq16 (List.not_mem_nil)
  have f24 := F_block_a1.keep Kq16 (List.not_mem_nil)
  have f25 := F_fullBlocks_a1.keep Kq16 (List.not_mem_nil)
  have f26 := V_x.keep Kq16 (List.not_mem_nil)
  have g_r17 : n0 ≤ r17 := Nat.le_trans Z16 f19
  have sz_r17 : h0.size ≤ r17 := Nat.le_trans (Nat.le_refl h0.size) f19
  have ne27 : a1 ≠ r17 := Nat.ne_of_lt (Nat.lt_of_lt_of_le E_a1.lt f19)
  have ne28 : x ≠ r17 := Nat.ne_of_lt (Nat.lt_of_lt_of_le V_x.lt f19)
  obtain ⟨T29, h29, X29, e29, W29, st29⟩ := putF X16 hx hZ hown (host := "") (Or.inl (hw _ (List.mem_of_getElem? (i := 37) rfl))) Via.refl rfl f24 f22 (Or.inl (hw _ (List.mem_of_getElem? (i := 38) rfl))) (hw _ (List.mem_of_getElem? (i := 1) rfl)) (ty := (.array .double)) (by decide) rfl rfl (g := (mkF m 24 #[.val (.ref a1)] [(.ref r17), (.ref a1)])) rfl rfl (hb hby d6_3_24)
  have pre30 : ∀ tq, Steps p.tables e below (T29.setTop (mkF m 27 #[.val (.ref a1)] [])) tq → Steps p.tables e below (s₁.setTop (entryFrame m #[(.ref a1)] 1)) tq := fun tq kq => pre21 tq (st29 _ kq)
  have N29 := Fr.snoc X29 N16 g_a1
  have K29 : Keep h0 h29 [a1] := Keep.wr K16 W29 (Or.inl (List.mem_of_getElem? (i := 0) rfl))
  have f31 := f22.wr W29
  have f32 := f23.other W29 (Or.inr (slot_ne (Or.inl (hw _ (List.mem_of_getElem? (i := 45) rfl))) (Or.inl (hw _ (List.mem_of_getElem? (i := 38) rfl))) (by decide) (t := .int) (t' := (.array .double)) (by decide) (by decide)))
  have f33 := f25.other W29 (Or.inr (slot_ne (Or.inr (hw _ (List.mem_of_getElem? (i := 34) rfl))) (Or.inl (hw _ (List.mem_of_getElem? (i := 38) rfl))) (by decide) (t := (.object "java/util/List")) (t' := (.array .double)) (by decide) (by decide)))
  have f34 := f18.other W29 (Ne.symm ne27)
  have f35 := f24.same W29
  obtain ⟨fs, hr, hrun, hended, hW, hsame⟩ := X29.leave (v := none) (fun _ => rfl)
  refine ⟨_, _, pre30 _ ?_, hrun, hended, _, _, rfl, ?_, ⟨_, rfl⟩, hW, hsame.mono (by decide) (by decide)⟩
  · skip
    show Steps p.tables e below (T29.setTop (mkF m 27 #[.val (.ref a1)] [])) _
    exact X29.returnOut hx Bd.returns (hb hby d6_3_27) hr
  · show Q6_3 Z a1 al x k u0 u1 u2 h0 n0 _ T29.heap _
    rw [e29]
    refine ⟨r17, u20, rfl, N29, K29, f35, f32, f33, f34, sz_r17, ?_⟩
    trivial
/-! body 16_0_1 -/
theorem d16_0_1_0 : decode prog_82_method_3_code 0 = .ok (.iload_n 1, 1) := by decide +kernel
theorem d16_0_1_1 : decode prog_82_method_3_code 1 = .ok (.bipush 15, 2) := by decide +kernel
theorem d16_0_1_3 : decode prog_82_method_3_code 3 = .ok (.iushr, 1) := by decide +kernel
theorem d16_0_1_4 : decode prog_82_method_3_code 4 = .ok (.istore_n 2, 1) := by decide +kernel
theorem d16_0_1_5 : decode prog_82_method_3_code 5 = .ok (.iload_n 2, 1) := by decide +kernel
theorem d16_0_1_6 : decode prog_82_method_3_code 6 = .ok (.aload_n 0, 1) := by decide +kernel
theorem d16_0_1_7 : decode prog_82_method_3_code 7 = .ok (.getfield 12, 3) := by decide +kernel
theorem d16_0_1_10 : decode prog_82_method_3_code 10 = .ok (.invokeinterface 31 1, 5) := by decide +kernel
theorem d16_0_1_15 : decode prog_82_method_3_code 15 = .ok (.if_icmp .ge 19, 3) := by decide +kernel
theorem d16_0_1_34 : decode prog_82_method_3_code 34 = .ok (.aload_n 0, 1) := by decide +kernel
theorem d16_0_1_35 : decode prog_82_method_3_code 35 = .ok (.getfield 17, 3) := by decide +kernel
theorem d16_0_1_38 : decode prog_82_method_3_code 38 = .ok (.astore_n 3, 1) := by decide +kernel
theorem d16_0_1_39 : decode prog_82_method_3_code 39 = .ok (.aload_n 3, 1) := by decide +kernel
theorem d16_0_1_40 : decode prog_82_method_3_code 40 = .ok (.iload_n 1, 1) := by decide +kernel
theorem d16_0_1_41 : decode prog_82_method_3_code 41 = .ok (.sipush 32767, 3) := by decide +kernel
theorem d16_0_1_44 : decode prog_82_method_3_code 44 = .ok (.iand, 1) := by decide +kernel
theorem d16_0_1_45 : decode prog_82_method_3_code 45 = .ok (.daload, 1) := by decide +kernel
theorem d16_0_1_46 : decode prog_82_method_3_code 46 = .ok (.dreturn, 1) := by decide +kernel
theorem pn_16_0_1 : plainName "com/example/crisp_haptics/crisphaptics/SampleBlocks" = true := by first | (simp [plainName, overriddenIn]; done) | decide +kernel
theorem pd16_0_1_0 : parseMethodDescriptor "()I" = some ⟨[], some .int⟩ := by decide +kernel
theorem ef_16_0_1 (m : MethodId) (a1 : Addr) : entryFrame m #[(.ref a1), (.int (0 : Int32))] 4 = mkF m 0 #[.val (.ref a1), .val (.int (0 : Int32)), .unset, .unset] [] := by first | (simp [entryFrame, mkF, argsToLocals, Value.category]; done) | rfl
def Q16_0_1 (Z : State) (a1 : Addr) (al : Addr) (y : Addr) (k2 : ClassId) (u0 : UInt64) (h0 : Heap) (n0 : Nat) (v : Option Value) (h : Heap) (L : List Loc) : Prop := ∃ r : UInt64, v = some (.double r) ∧ Fr n0 L ∧ h = h0 ∧ (r = u0)
set_option maxRecDepth 65536 in
set_option maxHeartbeats 40000000 in
theorem rm16_0_1 (l : Launch) (Z : State) (a0 : Array Value) (hw : ∀ d ∈ tables_1, d.before a0 Z = true) (ws : List Jvm.Cond) (a1 : Addr) (al : Addr) (y : Addr) (k2 : ClassId) (u0 : UInt64) (h0 : Heap) (n0 : Nat) (Z0 : n0 ≤ h0.size) (F_fullBlocks_a1 : Fld Z h0 a1 "com/example/crisp_haptics/crisphaptics/SampleBlocks" "fullBlocks" "Ljava/util/List;" (.ref al)) (E_al : Exa Z h0 al "java/util/ArrayList") (F_size_al : Fld Z h0 al "java/util/ArrayList" "size" "I" (.int (0 : Int32))) (F_block_a1 : Fld Z h0 a1 "com/example/crisp_haptics/crisphaptics/SampleBlocks" "block" "[D" (.ref y)) (V_y : Arv Z h0 y k2 .double (1 : Int32) [(.double u0)] (.double 0)) :
    MetFree l (⟨"com/example/crisp_haptics/crisphaptics/SampleBlocks", "get", "(I)D"⟩ : MethodName) (head1 (Jvm.Cond.code (⟨"com/example/crisp_haptics/crisphaptics/SampleBlocks", "get", "(I)D"⟩ : MethodName) prog_82_method_3_code 4 (some .double) :: ws) ({ frames := 1, cells := 0, slots := 0, locals := 13 } : Room)) (fun a U => a = #[(.ref a1), (.int (0 : Int32))] ∧ Z.Warmed39 U.vm ∧ U.heap = h0) (fun _ _ _ _ _ => True) (fun _ U o U' => ∃ v L, o = .returned v ∧ Q16_0_1 Z a1 al y k2 u0 h0 n0 v U'.heap L ∧ FrameEnd U o U' L ({ frames := 1, cells := 0, slots := 0, locals := 13 } : Room).cells ({ frames := 1, cells := 0, slots := 0, locals := 13 } : Room).slots) := by
  refine MetFree.of_bodySF (plainFor_of_name pn_16_0_1) hisR ?_
  intro p e s m args below meth c s₁ Bd hml0 hP hK
  obtain ⟨rfl, hZ, hh⟩ := hP
  have hx := Bd.exec
  have hby := Bd.bytes
  have hml : c.maxLocals = 4 := hml0
  have hown : s.vm.findClass "com/example/crisp_haptics/crisphaptics/SampleBlocks" = some m.cls := findClass_of_methodNamed Bd.named
  have hnm := (name_of_methodNamed Bd.named Bd.method).1
  have X0 : Stand p l e ({ frames := 1, cells := 0, slots := 0, locals := 13 } : Room) s m #[(.ref a1), (.int (0 : Int32))] below meth c s₁ [] 0 0 := Stand.of_body Bd
  have e0 : s₁.heap = h0 := by rw [← hh, Bd.state]; rfl
  have N0 := Fr.nil n0
  have pre0 : ∀ tq, Steps p.tables e below (s₁.setTop (mkF m 0 #[.val (.ref a1), .val (.int (0 : Int32)), .unset, .unset] [])) tq → Steps p.tables e below (s₁.setTop (entryFrame m #[(.ref a1), (.int (0 : Int32))] 4)) tq := fun tq kq => castTop (ef_16_0_1 m a1) kq
  have pre1 : ∀ tq, Steps p.tables e below (s₁.setTop (mkF m 7 #[.val (.ref a1), .val (.int (0 : Int32)), .val (.int (0 : Int32)), .unset] [(.ref a1), (.int (0 : Int32))])) tq → Steps p.tables e below (s₁.setTop (entryFrame m #[(.ref a1), (.int (0 : Int32))] 4)) tq := by
    refine fun tq kq => pre0 tq ?_
    show Steps p.tables e below (s₁.setTop (mkF m 0 #[.val (.ref a1), .val (.int (0 : Int32)), .unset, .unset] [])) _
    refine XS.iloadN X0.here hx rfl (hb hby d16_0_1_0) rfl ?_
    show Steps p.tables e below (s₁.setTop (mkF m 1 #[.val (.ref a1), .val (.int (0 : Int32)), .unset, .unset] [(.int (0 : Int32))])) _
    refine XS.bipush X0.here hx rfl (hb hby d16_0_1_1) ?_
    show Steps p.tables e below (s₁.setTop (mkF m 3 #[.val (.ref a1), .val (.int (0 : Int32)), .unset, .unset] [(.int (15 : Int32)), (.int (0 : Int32))])) _
    refine XS.iushr X0.here hx rfl (hb hby d16_0_1_3) rfl ?_
    show Steps p.tables e below (s₁.setTop (mkF m 4 #[.val (.ref a1), .val (.int (0 : Int32)), .unset, .unset] [(.int (0 : Int32))])) _
    refine XS.istoreN X0.here hx rfl (hb hby d16_0_1_4) rfl (l' := #[.val (.ref a1), .val (.int (0 : Int32)), .val (.int (0 : Int32)), .unset]) rfl ?_
    show Steps p.tables e below (s₁.setTop (mkF m 5 #[.val (.ref a1), .val (.int (0 : Int32)), .val (.int (0 : Int32)), .unset] [])) _
    refine XS.iloadN X0.here hx rfl (hb hby d16_0_1_5) rfl ?_
    show Steps p.tables e below (s₁.setTop (mkF m 6 #[.val (.ref a1), .val (.int (0 : Int32)), .val (.int (0 : Int32)), .unset] [(.int (0 : Int32))])) _
    refine XS.aloadN X0.here hx rfl (hb hby d16_0_1_6) rfl rfl ?_
    exact kq
  obtain ⟨T2, X2, e2, st2⟩ := getF X0 hx hZ hown (host := "") (Or.inl (hw _ (List.mem_of_getElem? (i := 33) rfl))) Via.refl e0 F_fullBlocks_a1 (g := (mkF m 7 #[.val (.ref a1), .val (.int (0 : Int32)), .val (.int (0 : Int32)), .unset] [(.ref a1), (.int (0 : Int32))])) rfl rfl (hb hby d16_0_1_7)
  have pre3 : ∀ tq, Steps p.tables e below (T2.setTop (mkF m 10 #[.val (.ref a1), .val (.int (0 : Int32)), .val (.int (0 : Int32)), .unset] [(.ref al), (.int (0 : Int32))])) tq → Steps p.tables e below (s₁.setTop (entryFrame m #[(.ref a1), (.int (0 : Int32))] 4)) tq := fun tq kq => pre1 tq (st2 _ kq)
  have Z4 : n0 ≤ h0.size := Z0
  obtain ⟨cq4, kq4, q4a, q4b, q4c⟩ := isOf hZ e2 E_al
  obtain ⟨_, _, ⟨T4, L4, k4, n4⟩, -, X4, ⟨Lc4, hQ4, l4, y4, z4⟩, st4⟩ := X2.interfaceBack hx (xi := (⟨"java/util/List", "size", "()I"⟩ : MethodName)) (y := (⟨"java/util/ArrayList", "size", "()I"⟩ : MethodName)) hown (mvT hZ (hw _ (List.mem_of_getElem? (i := 63) rfl))) (mvT hZ (hw _ (List.mem_of_getElem? (i := 64) rfl))) (mvT hZ (hw _ (List.mem_of_getElem? (i := 65) rfl))) (mvT hZ (hw _ (List.mem_of_getElem? (i := 66) rfl))) (mvT hZ (hw _ (List.mem_of_getElem? (i := 67) rfl))) (mvT hZ (hw _ (List.mem_of_getElem? (i := 68) rfl))) (mvT hZ (hw _ (List.mem_of_getElem? (i := 69) rfl))) (mvT hZ (hw _ (List.mem_of_getElem? (i := 70) rfl))) (by decide) (backOf (W := 1) (rm10 l Z a0 hw [] al (0 : Int32) h0 n0 Z4 F_size_al) hZ (hw _ (List.mem_of_getElem? (i := 71) rfl)) (hw _ (List.mem_of_getElem? (i := 11) rfl)) (by decide) (by decide)) q4a q4b q4c (g := (mkF m 10 #[.val (.ref a1), .val (.int (0 : Int32)), .val (.int (0 : Int32)), .unset] [(.ref al), (.int (0 : Int32))])) rfl (by rw [hml]; rfl) (Steps.refl _) (argsL := []) (rest := [(.int (0 : Int32))]) (lenOf pd16_0_1_0 rfl) rfl (by show 2 * 0 + _ ≤ _; exact Nat.le_of_eq rfl) (hb hby d16_0_1_10) (fun _ _ => ⟨rfl, e2, (by decide : 0 + 0 ≤ _), (by decide : 0 + 0 ≤ _)⟩)
  dsimp only [Pt.U, Pt.locs, Pt.cells, Pt.slots] at X4 l4 y4 z4 st4 hQ4
  subst l4 y4 z4
  obtain ⟨r5, rfl, Nq4, ehq4, hq4⟩ := hQ4
  have N4 := Fr.app N0 Nq4
  have pre6 : ∀ tq, Steps p.tables e below (T4.setTop (mkF m 15 #[.val (.ref a1), .val (.int (0 : Int32)), .val (.int (0 : Int32)), .unset] [(.int r5), (.int (0 : Int32))])) tq → Steps p.tables e below (s₁.setTop (entryFrame m #[(.ref a1), (.int (0 : Int32))] 4)) tq := fun tq kq => pre3 tq (st4.trans kq)
  subst hq4
  have pre7 : ∀ tq, Steps p.tables e below (T4.setTop (mkF m 34 #[.val (.ref a1), .val (.int (0 : Int32)), .val (.int (0 : Int32)), .unset] [])) tq → Steps p.tables e below (s₁.setTop (entryFrame m #[(.ref a1), (.int (0 : Int32))] 4)) tq := by
    refine fun tq kq => pre6 tq ?_
    show Steps p.tables e below (T4.setTop (mkF m 15 #[.val (.ref a1), .val (.int (0 : Int32)), .val (.int (0 : Int32)), .unset] [(.int (0 : Int32)), (.int (0 : Int32))])) _
    refine XS.icmpYes X4.here hx rfl (pc0 := 15) (pc' := 34) rfl (hb hby d16_0_1_15) rfl (flt (by decide : ¬ ((0 : Int32) < (0 : Int32)))).2.1 (by decide) (by decide) ?_
    exact kq
  have pre8 : ∀ tq, Steps p.tables e below (T4.setTop (mkF m 35 #[.val (.ref a1), .val (.int (0 : Int32)), .val (.int (0 : Int32)), .unset] [(.ref a1)])) tq → Steps p.tables e below (s₁.setTop (entryFrame m #[(.ref a1), (.int (0 : Int32))] 4)) tq := by
    refine fun tq kq => pre7 tq ?_
    show Steps p.tables e below (T4.setTop (mkF m 34 #[.val (.ref a1), .val (.int (0 : Int32)), .val (.int (0 : Int32)), .unset] [])) _
    refine XS.aloadN X4.here hx rfl (hb hby d16_0_1_34) rfl rfl ?_
    exact kq
  obtain ⟨T9, X9, e9, st9⟩ := getF X4 hx hZ hown (host := "") (Or.inl (hw _ (List.mem_of_getElem? (i := 37) rfl))) Via.refl ehq4 F_block_a1 (g := (mkF m 35 #[.val (.ref a1), .val (.int (0 : Int32)), .val (.int (0 : Int32)), .unset] [(.ref a1)])) rfl rfl (hb hby d16_0_1_35)
  have pre10 : ∀ tq, Steps p.tables e below (T9.setTop (mkF m 38 #[.val (.ref a1), .val (.int (0 : Int32)), .val (.int (0 : Int32)), .unset] [(.ref y)])) tq → Steps p.tables e below (s₁.setTop (entryFrame m #[(.ref a1), (.int (0 : Int32))] 4)) tq := fun tq kq => pre8 tq (st9 _ kq)
  have pre11 : ∀ tq, Steps p.tables e below (T9.setTop (mkF m 45 #[.val (.ref a1), .val (.int (0 : Int32)), .val (.int (0 : Int32)), .val (.ref y)] [(.int (0 : Int32)), (.ref y)])) tq → Steps p.tables e below (s₁.setTop (entryFrame m #[(.ref a1), (.int (0 : Int32))] 4)) tq := by
    refine fun tq kq => pre10 tq ?_
    show Steps p.tables e below (T9.setTop (mkF m 38 #[.val (.ref a1), .val (.int (0 : Int32)), .val (.int (0 : Int32)), .unset] [(.ref y)])) _
    refine XS.astoreN X9.here hx rfl (hb hby d16_0_1_38) rfl rfl (l' := #[.val (.ref a1), .val (.int (0 : Int32)), .val (.int (0 : Int32)), .val (.ref y)]) rfl ?_
    show Steps p.tables e below (T9.setTop (mkF m 39 #[.val (.ref a1), .val (.int (0 : Int32)), .val (.int (0 : Int32)), .val (.ref y)] [])) _
    refine XS.aloadN X9.here hx rfl (hb hby d16_0_1_39) rfl rfl ?_
    show Steps p.tables e below (T9.setTop (mkF m 40 #[.val (.ref a1), .val (.int (0 : Int32)), .val (.int (0 : Int32)), .val (.ref y)] [(.ref y)])) _
    refine XS.iloadN X9.here hx rfl (hb hby d16_0_1_40) rfl ?_
    show Steps p.tables e below (T9.setTop (mkF m 41 #[.val (.ref a1), .val (.int (0 : Int32)), .val (.int (0 : Int32)), .val (.ref y)] [(.int (0 : Int32)), (.ref y)])) _
    refine XS.sipush X9.here hx rfl (hb hby d16_0_1_41) ?_
    show Steps p.tables e below (T9.setTop (mkF m 44 #[.val (.ref a1), .val (.int (0 : Int32)), .val (.int (0 : Int32)), .val (.ref y)] [(.int (32767 : Int32)), (.int (0 : Int32)), (.ref y)])) _
    refine XS.iand X9.here hx rfl (hb hby d16_0_1_44) rfl ?_
    exact kq
  have Vc12 := V_y
  obtain ⟨cl12, Ar12, Aq12, As12, An12, Ah12, Ag12⟩ := Vc12
  have hin12 : ¬ ((0 : Int32) < 0 ∨ cl12.slots.size ≤ ((0 : Int32)).toNatClampNeg) := inb_of As12 ⟨by decide, by decide⟩
  have pre13 : ∀ tq, Steps p.tables e below (T9.setTop (mkF m 46 #[.val (.ref a1), .val (.int (0 : Int32)), .val (.int (0 : Int32)), .val (.ref y)] [(.double u0)])) tq → Steps p.tables e below (s₁.setTop (entryFrame m #[(.ref a1), (.int (0 : Int32))] 4)) tq := fun tq kq => pre11 tq (X9.daload hx (j := (0 : Int32)) (v := (.double u0)) (by rw [e9]; exact Ar12.1) (State.isArrayOf_alike hZ.alike Ar12.2.1) Ar12.2.2 hin12 (Has.at Ah12 hin12 rfl) (g := (mkF m 45 #[.val (.ref a1), .val (.int (0 : Int32)), .val (.int (0 : Int32)), .val (.ref y)] [(.int (0 : Int32)), (.ref y)])) rfl rfl (hb hby d16_0_1_45) _ kq)
  obtain ⟨fs, hr, hrun, hended, hW, hsame⟩ := X9.leave (v := some (.double u0)) (fun h => by rw [Bd.returns] at h; cases h)
  refine ⟨_, _, pre13 _ ?_, hrun, hended, _, _, rfl, ?_, ⟨_, rfl⟩, hW, hsame.mono (by decide) (by decide)⟩
  · skip
    show Steps p.tables e below (T9.setTop (mkF m 46 #[.val (.ref a1), .val (.int (0 : Int32)), .val (.int (0 : Int32)), .val (.ref y)] [(.double u0)])) _
    exact retD X9 hx Bd.returns (hb hby d16_0_1_46) hr
  · show Q16_0_1 Z a1 al y k2 u0 h0 n0 _ T9.heap _
    rw [e9]
    exact ⟨u0, rfl, N4, rfl, rfl⟩
/-! body 16_0_2 -/
theorem d16_0_2_0 : decode prog_82_method_3_code 0 = .ok (.iload_n 1, 1) := by decide +kernel
theorem d16_0_2_1 : decode prog_82_method_3_code 1 = .ok (.bipush 15, 2) := by decide +kernel
theorem d16_0_2_3 : decode prog_82_method_3_code 3 = .ok (.iushr, 1) := by decide +kernel
theorem d16_0_2_4 : decode prog_82_method_3_code 4 = .ok (.istore_n 2, 1) := by decide +kernel
theorem d16_0_2_5 : decode prog_82_method_3_code 5 = .ok (.iload_n 2, 1) := by decide +kernel
theorem d16_0_2_6 : decode prog_82_method_3_code 6 = .ok (.aload_n 0, 1) := by decide +kernel
theorem d16_0_2_7 : decode prog_82_method_3_code 7 = .ok (.getfield 12, 3) := by decide +kernel
theorem d16_0_2_10 : decode prog_82_method_3_code 10 = .ok (.invokeinterface 31 1, 5) := by decide +kernel
theorem d16_0_2_15 : decode prog_82_method_3_code 15 = .ok (.if_icmp .ge 19, 3) := by decide +kernel
theorem d16_0_2_34 : decode prog_82_method_3_code 34 = .ok (.aload_n 0, 1) := by decide +kernel
theorem d16_0_2_35 : decode prog_82_method_3_code 35 = .ok (.getfield 17, 3) := by decide +kernel
theorem d16_0_2_38 : decode prog_82_method_3_code 38 = .ok (.astore_n 3, 1) := by decide +kernel
theorem d16_0_2_39 : decode prog_82_method_3_code 39 = .ok (.aload_n 3, 1) := by decide +kernel
theorem d16_0_2_40 : decode prog_82_method_3_code 40 = .ok (.iload_n 1, 1) := by decide +kernel
theorem d16_0_2_41 : decode prog_82_method_3_code 41 = .ok (.sipush 32767, 3) := by decide +kernel
theorem d16_0_2_44 : decode prog_82_method_3_code 44 = .ok (.iand, 1) := by decide +kernel
theorem d16_0_2_45 : decode prog_82_method_3_code 45 = .ok (.daload, 1) := by decide +kernel
theorem d16_0_2_46 : decode prog_82_method_3_code 46 = .ok (.dreturn, 1) := by decide +kernel
theorem pn_16_0_2 : plainName "com/example/crisp_haptics/crisphaptics/SampleBlocks" = true := by first | (simp [plainName, overriddenIn]; done) | decide +kernel
theorem pd16_0_2_0 : parseMethodDescriptor "()I" = some ⟨[], some .int⟩ := by decide +kernel
theorem ef_16_0_2 (m : MethodId) (a1 : Addr) : entryFrame m #[(.ref a1), (.int (0 : Int32))] 4 = mkF m 0 #[.val (.ref a1), .val (.int (0 : Int32)), .unset, .unset] [] := by first | (simp [entryFrame, mkF, argsToLocals, Value.category]; done) | rfl
def Q16_0_2 (Z : State) (a1 : Addr) (al : Addr) (y : Addr) (k2 : ClassId) (u0 : UInt64) (u1 : UInt64) (h0 : Heap) (n0 : Nat) (v : Option Value) (h : Heap) (L : List Loc) : Prop := ∃ r : UInt64, v = some (.double r) ∧ Fr n0 L ∧ h = h0 ∧ (r = u0)
set_option maxRecDepth 65536 in
set_option maxHeartbeats 40000000 in
theorem rm16_0_2 (l : Launch) (Z : State) (a0 : Array Value) (hw : ∀ d ∈ tables_1, d.before a0 Z = true) (ws : List Jvm.Cond) (a1 : Addr) (al : Addr) (y : Addr) (k2 : ClassId) (u0 : UInt64) (u1 : UInt64) (h0 : Heap) (n0 : Nat) (Z0 : n0 ≤ h0.size) (F_fullBlocks_a1 : Fld Z h0 a1 "com/example/crisp_haptics/crisphaptics/SampleBlocks" "fullBlocks" "Ljava/util/List;" (.ref al)) (E_al : Exa Z h0 al "java/util/ArrayList") (F_size_al : Fld Z h0 al "java/util/ArrayList" "size" "I" (.int (0 : Int32))) (F_block_a1 : Fld Z h0 a1 "com/example/crisp_haptics/crisphaptics/SampleBlocks" "block" "[D" (.ref y)) (V_y : Arv Z h0 y k2 .double (2 : Int32) [(.double u0), (.double u1)] (.double 0)) :
    MetFree l (⟨"com/example/crisp_haptics/crisphaptics/SampleBlocks", "get", "(I)D"⟩ : MethodName) (head1 (Jvm.Cond.code (⟨"com/example/crisp_haptics/crisphaptics/SampleBlocks", "get", "(I)D"⟩ : MethodName) prog_82_method_3_code 4 (some .double) :: ws) ({ frames := 1, cells := 0, slots := 0, locals := 13 } : Room)) (fun a U => a = #[(.ref a1), (.int (0 : Int32))] ∧ Z.Warmed39 U.vm ∧ U.heap = h0) (fun _ _ _ _ _ => True) (fun _ U o U' => ∃ v L, o = .returned v ∧ Q16_0_2 Z a1 al y k2 u0 u1 h0 n0 v U'.heap L ∧ FrameEnd U o U' L ({ frames := 1, cells := 0, slots := 0, locals := 13 } : Room).cells ({ frames := 1, cells := 0, slots := 0, locals := 13 } : Room).slots) := by
  refine MetFree.of_bodySF (plainFor_of_name pn_16_0_2) hisR ?_
  intro p e s m args below meth c s₁ Bd hml0 hP hK
  obtain ⟨rfl, hZ, hh⟩ := hP
  have hx := Bd.exec
  have hby := Bd.bytes
  have hml : c.maxLocals = 4 := hml0
  have hown : s.vm.findClass "com/example/crisp_haptics/crisphaptics/SampleBlocks" = some m.cls := findClass_of_methodNamed Bd.named
  have hnm := (name_of_methodNamed Bd.named Bd.method).1
  have X0 : Stand p l e ({ frames := 1, cells := 0, slots := 0, locals := 13 } : Room) s m #[(.ref a1), (.int (0 : Int32))] below meth c s₁ [] 0 0 := Stand.of_body Bd
  have e0 : s₁.heap = h0 := by rw [← hh, Bd.state]; rfl
  have N0 := Fr.nil n0
  have pre0 : ∀ tq, Steps p.tables e below (s₁.setTop (mkF m 0 #[.val (.ref a1), .val (.int (0 : Int32)), .unset, .unset] [])) tq → Steps p.tables e below (s₁.setTop (entryFrame m #[(.ref a1), (.int (0 : Int32))] 4)) tq := fun tq kq => castTop (ef_16_0_2 m a1) kq
  have pre1 : ∀ tq, Steps p.tables e below (s₁.setTop (mkF m 7 #[.val (.ref a1), .val (.int (0 : Int32)), .val (.int (0 : Int32)), .unset] [(.ref a1), (.int (0 : Int32))])) tq → Steps p.tables e below (s₁.setTop (entryFrame m #[(.ref a1), (.int (0 : Int32))] 4)) tq := by
    refine fun tq kq => pre0 tq ?_
    show Steps p.tables e below (s₁.setTop (mkF m 0 #[.val (.ref a1), .val (.int (0 : Int32)), .unset, .unset] [])) _
    refine XS.iloadN X0.here hx rfl (hb hby d16_0_2_0) rfl ?_
    show Steps p.tables e below (s₁.setTop (mkF m 1 #[.val (.ref a1), .val (.int (0 : Int32)), .unset, .unset] [(.int (0 : Int32))])) _
    refine XS.bipush X0.here hx rfl (hb hby d16_0_2_1) ?_
    show Steps p.tables e below (s₁.setTop (mkF m 3 #[.val (.ref a1), .val (.int (0 : Int32)), .unset, .unset] [(.int (15 : Int32)), (.int (0 : Int32))])) _
    refine XS.iushr X0.here hx rfl (hb hby d16_0_2_3) rfl ?_
    show Steps p.tables e below (s₁.setTop (mkF m 4 #[.val (.ref a1), .val (.int (0 : Int32)), .unset, .unset] [(.int (0 : Int32))])) _
    refine XS.istoreN X0.here hx rfl (hb hby d16_0_2_4) rfl (l' := #[.val (.ref a1), .val (.int (0 : Int32)), .val (.int (0 : Int32)), .unset]) rfl ?_
    show Steps p.tables e below (s₁.setTop (mkF m 5 #[.val (.ref a1), .val (.int (0 : Int32)), .val (.int (0 : Int32)), .unset] [])) _
    refine XS.iloadN X0.here hx rfl (hb hby d16_0_2_5) rfl ?_
    show Steps p.tables e below (s₁.setTop (mkF m 6 #[.val (.ref a1), .val (.int (0 : Int32)), .val (.int (0 : Int32)), .unset] [(.int (0 : Int32))])) _
    refine XS.aloadN X0.here hx rfl (hb hby d16_0_2_6) rfl rfl ?_
    exact kq
  obtain ⟨T2, X2, e2, st2⟩ := getF X0 hx hZ hown (host := "") (Or.inl (hw _ (List.mem_of_getElem? (i := 33) rfl))) Via.refl e0 F_fullBlocks_a1 (g := (mkF m 7 #[.val (.ref a1), .val (.int (0 : Int32)), .val (.int (0 : Int32)), .unset] [(.ref a1), (.int (0 : Int32))])) rfl rfl (hb hby d16_0_2_7)
  have pre3 : ∀ tq, Steps p.tables e below (T2.setTop (mkF m 10 #[.val (.ref a1), .val (.int (0 : Int32)), .val (.int (0 : Int32)), .unset] [(.ref al), (.int (0 : Int32))])) tq → Steps p.tables e below (s₁.setTop (entryFrame m #[(.ref a1), (.int (0 : Int32))] 4)) tq := fun tq kq => pre1 tq (st2 _ kq)
  have Z4 : n0 ≤ h0.size := Z0
  obtain ⟨cq4, kq4, q4a, q4b, q4c⟩ := isOf hZ e2 E_al
  obtain ⟨_, _, ⟨T4, L4, k4, n4⟩, -, X4, ⟨Lc4, hQ4, l4, y4, z4⟩, st4⟩ := X2.interfaceBack hx (xi := (⟨"java/util/List", "size", "()I"⟩ : MethodName)) (y := (⟨"java/util/ArrayList", "size", "()I"⟩ : MethodName)) hown (mvT hZ (hw _ (List.mem_of_getElem? (i := 63) rfl))) (mvT hZ (hw _ (List.mem_of_getElem? (i := 64) rfl))) (mvT hZ (hw _ (List.mem_of_getElem? (i := 65) rfl))) (mvT hZ (hw _ (List.mem_of_getElem? (i := 66) rfl))) (mvT hZ (hw _ (List.mem_of_getElem? (i := 67) rfl))) (mvT hZ (hw _ (List.mem_of_getElem? (i := 68) rfl))) (mvT hZ (hw _ (List.mem_of_getElem? (i := 69) rfl))) (mvT hZ (hw _ (List.mem_of_getElem? (i := 70) rfl))) (by decide) (backOf (W := 1) (rm10 l Z a0 hw [] al (0 : Int32) h0 n0 Z4 F_size_al) hZ (hw _ (List.mem_of_getElem? (i := 71) rfl)) (hw _ (List.mem_of_getElem? (i := 11) rfl)) (by decide) (by decide)) q4a q4b q4c (g := (mkF m 10 #[.val (.ref a1), .val (.int (0 : Int32)), .val (.int (0 : Int32)), .unset] [(.ref al), (.int (0 : Int32))])) rfl (by rw [hml]; rfl) (Steps.refl _) (argsL := []) (rest := [(.int (0 : Int32))]) (lenOf pd16_0_2_0 rfl) rfl (by show 2 * 0 + _ ≤ _; exact Nat.le_of_eq rfl) (hb hby d16_0_2_10) (fun _ _ => ⟨rfl, e2, (by decide : 0 + 0 ≤ _), (by decide : 0 + 0 ≤ _)⟩)
  dsimp only [Pt.U, Pt.locs, Pt.cells, Pt.slots] at X4 l4 y4 z4 st4 hQ4
  subst l4 y4 z4
  obtain ⟨r5, rfl, Nq4, ehq4, hq4⟩ := hQ4
  have N4 := Fr.app N0 Nq4
  have pre6 : ∀ tq, Steps p.tables e below (T4.setTop (mkF m 15 #[.val (.ref a1), .val (.int (0 : Int32)), .val (.int (0 : Int32)), .unset] [(.int r5), (.int (0 : Int32))])) tq → Steps p.tables e below (s₁.setTop (entryFrame m #[(.ref a1), (.int (0 : Int32))] 4)) tq := fun tq kq => pre3 tq (st4.trans kq)
  subst hq4
  have pre7 : ∀ tq, Steps p.tables e below (T4.setTop (mkF m 34 #[.val (.ref a1), .val (.int (0 : Int32)), .val (.int (0 : Int32)), .unset] [])) tq → Steps p.tables e below (s₁.setTop (entryFrame m #[(.ref a1), (.int (0 : Int32))] 4)) tq := by
    refine fun tq kq => pre6 tq ?_
    show Steps p.tables e below (T4.setTop (mkF m 15 #[.val (.ref a1), .val (.int (0 : Int32)), .val (.int (0 : Int32)), .unset] [(.int (0 : Int32)), (.int (0 : Int32))])) _
    refine XS.icmpYes X4.here hx rfl (pc0 := 15) (pc' := 34) rfl (hb hby d16_0_2_15) rfl (flt (by decide : ¬ ((0 : Int32) < (0 : Int32)))).2.1 (by decide) (by decide) ?_
    exact kq
  have pre8 : ∀ tq, Steps p.tables e below (T4.setTop (mkF m 35 #[.val (.ref a1), .val (.int (0 : Int32)), .val (.int (0 : Int32)), .unset] [(.ref a1)])) tq → Steps p.tables e below (s₁.setTop (entryFrame m #[(.ref a1), (.int (0 : Int32))] 4)) tq := by
    refine fun tq kq => pre7 tq ?_
    show Steps p.tables e below (T4.setTop (mkF m 34 #[.val (.ref a1), .val (.int (0 : Int32)), .val (.int (0 : Int32)), .unset] [])) _
    refine XS.aloadN X4.here hx rfl (hb hby d16_0_2_34) rfl rfl ?_
    exact kq
  obtain ⟨T9, X9, e9, st9⟩ := getF X4 hx hZ hown (host := "") (Or.inl (hw _ (List.mem_of_getElem? (i := 37) rfl))) Via.refl ehq4 F_block_a1 (g := (mkF m 35 #[.val (.ref a1), .val (.int (0 : Int32)), .val (.int (0 : Int32)), .unset] [(.ref a1)])) rfl rfl (hb hby d16_0_2_35)
  have pre10 : ∀ tq, Steps p.tables e below (T9.setTop (mkF m 38 #[.val (.ref a1), .val (.int (0 : Int32)), .val (.int (0 : Int32)), .unset] [(.ref y)])) tq → Steps p.tables e below (s₁.setTop (entryFrame m #[(.ref a1), (.int (0 : Int32))] 4)) tq := fun tq kq => pre8 tq (st9 _ kq)
  have pre11 : ∀ tq, Steps p.tables e below (T9.setTop (mkF m 45 #[.val (.ref a1), .val (.int (0 : Int32)), .val (.int (0 : Int32)), .val (.ref y)] [(.int (0 : Int32)), (.ref y)])) tq → Steps p.tables e below (s₁.setTop (entryFrame m #[(.ref a1), (.int (0 : Int32))] 4)) tq := by
    refine fun tq kq => pre10 tq ?_
    show Steps p.tables e below (T9.setTop (mkF m 38 #[.val (.ref a1), .val (.int (0 : Int32)), .val (.int (0 : Int32)), .unset] [(.ref y)])) _
    refine XS.astoreN X9.here hx rfl (hb hby d16_0_2_38) rfl rfl (l' := #[.val (.ref a1), .val (.int (0 : Int32)), .val (.int (0 : Int32)), .val (.ref y)]) rfl ?_
    show Steps p.tables e below (T9.setTop (mkF m 39 #[.val (.ref a1), .val (.int (0 : Int32)), .val (.int (0 : Int32)), .val (.ref y)] [])) _
    refine XS.aloadN X9.here hx rfl (hb hby d16_0_2_39) rfl rfl ?_
    show Steps p.tables e below (T9.setTop (mkF m 40 #[.val (.ref a1), .val (.int (0 : Int32)), .val (.int (0 : Int32)), .val (.ref y)] [(.ref y)])) _
    refine XS.iloadN X9.here hx rfl (hb hby d16_0_2_40) rfl ?_
    show Steps p.tables e below (T9.setTop (mkF m 41 #[.val (.ref a1), .val (.int (0 : Int32)), .val (.int (0 : Int32)), .val (.ref y)] [(.int (0 : Int32)), (.ref y)])) _
    refine XS.sipush X9.here hx rfl (hb hby d16_0_2_41) ?_
    show Steps p.tables e below (T9.setTop (mkF m 44 #[.val (.ref a1), .val (.int (0 : Int32)), .val (.int (0 : Int32)), .val (.ref y)] [(.int (32767 : Int32)), (.int (0 : Int32)), (.ref y)])) _
    refine XS.iand X9.here hx rfl (hb hby d16_0_2_44) rfl ?_
    exact kq
  have Vc12 := V_y
  obtain ⟨cl12, Ar12, Aq12, As12, An12, Ah12, Ag12⟩ := Vc12
  have hin12 : ¬ ((0 : Int32) < 0 ∨ cl12.slots.size ≤ ((0 : Int32)).toNatClampNeg) := inb_of As12 ⟨by decide, by decide⟩
  have pre13 : ∀ tq, Steps p.tables e below (T9.setTop (mkF m 46 #[.val (.ref a1), .val (.int (0 : Int32)), .val (.int (0 : Int32)), .val (.ref y)] [(.double u0)])) tq → Steps p.tables e below (s₁.setTop (entryFrame m #[(.ref a1), (.int (0 : Int32))] 4)) tq := fun tq kq => pre11 tq (X9.daload hx (j := (0 : Int32)) (v := (.double u0)) (by rw [e9]; exact Ar12.1) (State.isArrayOf_alike hZ.alike Ar12.2.1) Ar12.2.2 hin12 (Has.at Ah12 hin12 rfl) (g := (mkF m 45 #[.val (.ref a1), .val (.int (0 : Int32)), .val (.int (0 : Int32)), .val (.ref y)] [(.int (0 : Int32)), (.ref y)])) rfl rfl (hb hby d16_0_2_45) _ kq)
  obtain ⟨fs, hr, hrun, hended, hW, hsame⟩ := X9.leave (v := some (.double u0)) (fun h => by rw [Bd.returns] at h; cases h)
  refine ⟨_, _, pre13 _ ?_, hrun, hended, _, _, rfl, ?_, ⟨_, rfl⟩, hW, hsame.mono (by decide) (by decide)⟩
  · skip
    show Steps p.tables e below (T9.setTop (mkF m 46 #[.val (.ref a1), .val (.int (0 : Int32)), .val (.int (0 : Int32)), .val (.ref y)] [(.double u0)])) _
    exact retD X9 hx Bd.returns (hb hby d16_0_2_46) hr
  · show Q16_0_2 Z a1 al y k2 u0 u1 h0 n0 _ T9.heap _
    rw [e9]
    exact ⟨u0, rfl, N4, rfl, rfl⟩
/-! body 16_1_2 -/
theorem d16_1_2_0 : decode prog_82_method_3_code 0 = .ok (.iload_n 1, 1) := by decide +kernel
theorem d16_1_2_1 : decode prog_82_method_3_code 1 = .ok (.bipush 15, 2) := by decide +kernel
theorem d16_1_2_3 : decode prog_82_method_3_code 3 = .ok (.iushr, 1) := by decide +kernel
theorem d16_1_2_4 : decode prog_82_method_3_code 4 = .ok (.istore_n 2, 1) := by decide +kernel
theorem d16_1_2_5 : decode prog_82_method_3_code 5 = .ok (.iload_n 2, 1) := by decide +kernel
theorem d16_1_2_6 : decode prog_82_method_3_code 6 = .ok (.aload_n 0, 1) := by decide +kernel
theorem d16_1_2_7 : decode prog_82_method_3_code 7 = .ok (.getfield 12, 3) := by decide +kernel
theorem d16_1_2_10 : decode prog_82_method_3_code 10 = .ok (.invokeinterface 31 1, 5) := by decide +kernel
theorem d16_1_2_15 : decode prog_82_method_3_code 15 = .ok (.if_icmp .ge 19, 3) := by decide +kernel
theorem d16_1_2_34 : decode prog_82_method_3_code 34 = .ok (.aload_n 0, 1) := by decide +kernel
theorem d16_1_2_35 : decode prog_82_method_3_code 35 = .ok (.getfield 17, 3) := by decide +kernel
theorem d16_1_2_38 : decode prog_82_method_3_code 38 = .ok (.astore_n 3, 1) := by decide +kernel
theorem d16_1_2_39 : decode prog_82_method_3_code 39 = .ok (.aload_n 3, 1) := by decide +kernel
theorem d16_1_2_40 : decode prog_82_method_3_code 40 = .ok (.iload_n 1, 1) := by decide +kernel
theorem d16_1_2_41 : decode prog_82_method_3_code 41 = .ok (.sipush 32767, 3) := by decide +kernel
theorem d16_1_2_44 : decode prog_82_method_3_code 44 = .ok (.iand, 1) := by decide +kernel
theorem d16_1_2_45 : decode prog_82_method_3_code 45 = .ok (.daload, 1) := by decide +kernel
theorem d16_1_2_46 : decode prog_82_method_3_code 46 = .ok (.dreturn, 1) := by decide +kernel
theorem pn_16_1_2 : plainName "com/example/crisp_haptics/crisphaptics/SampleBlocks" = true := by first | (simp [plainName, overriddenIn]; done) | decide +kernel
theorem pd16_1_2_0 : parseMethodDescriptor "()I" = some ⟨[], some .int⟩ := by decide +kernel
theorem ef_16_1_2 (m : MethodId) (a1 : Addr) : entryFrame m #[(.ref a1), (.int (1 : Int32))] 4 = mkF m 0 #[.val (.ref a1), .val (.int (1 : Int32)), .unset, .unset] [] := by first | (simp [entryFrame, mkF, argsToLocals, Value.category]; done) | rfl
def Q16_1_2 (Z : State) (a1 : Addr) (al : Addr) (y : Addr) (k2 : ClassId) (u0 : UInt64) (u1 : UInt64) (h0 : Heap) (n0 : Nat) (v : Option Value) (h : Heap) (L : List Loc) : Prop := ∃ r : UInt64, v = some (.double r) ∧ Fr n0 L ∧ h = h0 ∧ (r = u1)
set_option maxRecDepth 65536 in
set_option maxHeartbeats 40000000 in
theorem rm16_1_2 (l : Launch) (Z : State) (a0 : Array Value) (hw : ∀ d ∈ tables_1, d.before a0 Z = true) (ws : List Jvm.Cond) (a1 : Addr) (al : Addr) (y : Addr) (k2 : ClassId) (u0 : UInt64) (u1 : UInt64) (h0 : Heap) (n0 : Nat) (Z0 : n0 ≤ h0.size) (F_fullBlocks_a1 : Fld Z h0 a1 "com/example/crisp_haptics/crisphaptics/SampleBlocks" "fullBlocks" "Ljava/util/List;" (.ref al)) (E_al : Exa Z h0 al "java/util/ArrayList") (F_size_al : Fld Z h0 al "java/util/ArrayList" "size" "I" (.int (0 : Int32))) (F_block_a1 : Fld Z h0 a1 "com/example/crisp_haptics/crisphaptics/SampleBlocks" "block" "[D" (.ref y)) (V_y : Arv Z h0 y k2 .double (2 : Int32) [(.double u0), (.double u1)] (.double 0)) :
    MetFree l (⟨"com/example/crisp_haptics/crisphaptics/SampleBlocks", "get", "(I)D"⟩ : MethodName) (head1 (Jvm.Cond.code (⟨"com/example/crisp_haptics/crisphaptics/SampleBlocks", "get", "(I)D"⟩ : MethodName) prog_82_method_3_code 4 (some .double) :: ws) ({ frames := 1, cells := 0, slots := 0, locals := 13 } : Room)) (fun a U => a = #[(.ref a1), (.int (1 : Int32))] ∧ Z.Warmed39 U.vm ∧ U.heap = h0) (fun _ _ _ _ _ => True) (fun _ U o U' => ∃ v L, o = .returned v ∧ Q16_1_2 Z a1 al y k2 u0 u1 h0 n0 v U'.heap L ∧ FrameEnd U o U' L ({ frames := 1, cells := 0, slots := 0, locals := 13 } : Room).cells ({ frames := 1, cells := 0, slots := 0, locals := 13 } : Room).slots) := by
  refine MetFree.of_bodySF (plainFor_of_name pn_16_1_2) hisR ?_
  intro p e s m args below meth c s₁ Bd hml0 hP hK
  obtain ⟨rfl, hZ, hh⟩ := hP
  have hx := Bd.exec
  have hby := Bd.bytes
  have hml : c.maxLocals = 4 := hml0
  have hown : s.vm.findClass "com/example/crisp_haptics/crisphaptics/SampleBlocks" = some m.cls := findClass_of_methodNamed Bd.named
  have hnm := (name_of_methodNamed Bd.named Bd.method).1
  have X0 : Stand p l e ({ frames := 1, cells := 0, slots := 0, locals := 13 } : Room) s m #[(.ref a1), (.int (1 : Int32))] below meth c s₁ [] 0 0 := Stand.of_body Bd
  have e0 : s₁.heap = h0 := by rw [← hh, Bd.state]; rfl
  have N0 := Fr.nil n0
  have pre0 : ∀ tq, Steps p.tables e below (s₁.setTop (mkF m 0 #[.val (.ref a1), .val (.int (1 : Int32)), .unset, .unset] [])) tq → Steps p.tables e below (s₁.setTop (entryFrame m #[(.ref a1), (.int (1 : Int32))] 4)) tq := fun tq kq => castTop (ef_16_1_2 m a1) kq
  have pre1 : ∀ tq, Steps p.tables e below (s₁.setTop (mkF m 7 #[.val (.ref a1), .val (.int (1 : Int32)), .val (.int (0 : Int32)), .unset] [(.ref a1), (.int (0 : Int32))])) tq → Steps p.tables e below (s₁.setTop (entryFrame m #[(.ref a1), (.int (1 : Int32))] 4)) tq := by
    refine fun tq kq => pre0 tq ?_
    show Steps p.tables e below (s₁.setTop (mkF m 0 #[.val (.ref a1), .val (.int (1 : Int32)), .unset, .unset] [])) _
    refine XS.iloadN X0.here hx rfl (hb hby d16_1_2_0) rfl ?_
    show Steps p.tables e below (s₁.setTop (mkF m 1 #[.val (.ref a1), .val (.int (1 : Int32)), .unset, .unset] [(.int (1 : Int32))])) _
    refine XS.bipush X0.here hx rfl (hb hby d16_1_2_1) ?_
    show Steps p.tables e below (s₁.setTop (mkF m 3 #[.val (.ref a1), .val (.int (1 : Int32)), .unset, .unset] [(.int (15 : Int32)), (.int (1 : Int32))])) _
    refine XS.iushr X0.here hx rfl (hb hby d16_1_2_3) rfl ?_
    show Steps p.tables e below (s₁.setTop (mkF m 4 #[.val (.ref a1), .val (.int (1 : Int32)), .unset, .unset] [(.int (0 : Int32))])) _
    refine XS.istoreN X0.here hx rfl (hb hby d16_1_2_4) rfl (l' := #[.val (.ref a1), .val (.int (1 : Int32)), .val (.int (0 : Int32)), .unset]) rfl ?_
    show Steps p.tables e below (s₁.setTop (mkF m 5 #[.val (.ref a1), .val (.int (1 : Int32)), .val (.int (0 : Int32)), .unset] [])) _
    refine XS.iloadN X0.here hx rfl (hb hby d16_1_2_5) rfl ?_
    show Steps p.tables e below (s₁.setTop (mkF m 6 #[.val (.ref a1), .val (.int (1 : Int32)), .val (.int (0 : Int32)), .unset] [(.int (0 : Int32))])) _
    refine XS.aloadN X0.here hx rfl (hb hby d16_1_2_6) rfl rfl ?_
    exact kq
  obtain ⟨T2, X2, e2, st2⟩ := getF X0 hx hZ hown (host := "") (Or.inl (hw _ (List.mem_of_getElem? (i := 33) rfl))) Via.refl e0 F_fullBlocks_a1 (g := (mkF m 7 #[.val (.ref a1), .val (.int (1 : Int32)), .val (.int (0 : Int32)), .unset] [(.ref a1), (.int (0 : Int32))])) rfl rfl (hb hby d16_1_2_7)
  have pre3 : ∀ tq, Steps p.tables e below (T2.setTop (mkF m 10 #[.val (.ref a1), .val (.int (1 : Int32)), .val (.int (0 : Int32)), .unset] [(.ref al), (.int (0 : Int32))])) tq → Steps p.tables e below (s₁.setTop (entryFrame m #[(.ref a1), (.int (1 : Int32))] 4)) tq := fun tq kq => pre1 tq (st2 _ kq)
  have Z4 : n0 ≤ h0.size := Z0
  obtain ⟨cq4, kq4, q4a, q4b, q4c⟩ := isOf hZ e2 E_al
  obtain ⟨_, _, ⟨T4, L4, k4, n4⟩, -, X4, ⟨Lc4, hQ4, l4, y4, z4⟩, st4⟩ := X2.interfaceBack hx (xi := (⟨"java/util/List", "size", "()I"⟩ : MethodName)) (y := (⟨"java/util/ArrayList", "size", "()I"⟩ : MethodName)) hown (mvT hZ (hw _ (List.mem_of_getElem? (i := 63) rfl))) (mvT hZ (hw _ (List.mem_of_getElem? (i := 64) rfl))) (mvT hZ (hw _ (List.mem_of_getElem? (i := 65) rfl))) (mvT hZ (hw _ (List.mem_of_getElem? (i := 66) rfl))) (mvT hZ (hw _ (List.mem_of_getElem? (i := 67) rfl))) (mvT hZ (hw _ (List.mem_of_getElem? (i := 68) rfl))) (mvT hZ (hw _ (List.mem_of_getElem? (i := 69) rfl))) (mvT hZ (hw _ (List.mem_of_getElem? (i := 70) rfl))) (by decide) (backOf (W := 1) (rm10 l Z a0 hw [] al (0 : Int32) h0 n0 Z4 F_size_al) hZ (hw _ (List.mem_of_getElem? (i := 71) rfl)) (hw _ (List.mem_of_getElem? (i := 11) rfl)) (by decide) (by decide)) q4a q4b q4c (g := (mkF m 10 #[.val (.ref a1), .val (.int (1 : Int32)), .val (.int (0 : Int32)), .unset] [(.ref al), (.int (0 : Int32))])) rfl (by rw [hml]; rfl) (Steps.refl _) (argsL := []) (rest := [(.int (0 : Int32))]) (lenOf pd16_1_2_0 rfl) rfl (by show 2 * 0 + _ ≤ _; exact Nat.le_of_eq rfl) (hb hby d16_1_2_10) (fun _ _ => ⟨rfl, e2, (by decide : 0 + 0 ≤ _), (by decide : 0 + 0 ≤ _)⟩)
  dsimp only [Pt.U, Pt.locs, Pt.cells, Pt.slots] at X4 l4 y4 z4 st4 hQ4
  subst l4 y4 z4
  obtain ⟨r5, rfl, Nq4, ehq4, hq4⟩ := hQ4
  have N4 := Fr.app N0 Nq4
  have pre6 : ∀ tq, Steps p.tables e below (T4.setTop (mkF m 15 #[.val (.ref a1), .val (.int (1 : Int32)), .val (.int (0 : Int32)), .unset] [(.int r5), (.int (0 : Int32))])) tq → Steps p.tables e below (s₁.setTop (entryFrame m #[(.ref a1), (.int (1 : Int32))] 4)) tq := fun tq kq => pre3 tq (st4.trans kq)
  subst hq4
  have pre7 : ∀ tq, Steps p.tables e below (T4.setTop (mkF m 34 #[.val (.ref a1), .val (.int (1 : Int32)), .val (.int (0 : Int32)), .unset] [])) tq → Steps p.tables e below (s₁.setTop (entryFrame m #[(.ref a1), (.int (1 : Int32))] 4)) tq := by
    refine fun tq kq => pre6 tq ?_
    show Steps p.tables e below (T4.setTop (mkF m 15 #[.val (.ref a1), .val (.int (1 : Int32)), .val (.int (0 : Int32)), .unset] [(.int (0 : Int32)), (.int (0 : Int32))])) _
    refine XS.icmpYes X4.here hx rfl (pc0 := 15) (pc' := 34) rfl (hb hby d16_1_2_15) rfl (flt (by decide : ¬ ((0 : Int32) < (0 : Int32)))).2.1 (by decide) (by decide) ?_
    exact kq
  have pre8 : ∀ tq, Steps p.tables e below (T4.setTop (mkF m 35 #[.val (.ref a1), .val (.int (1 : Int32)), .val (.int (0 : Int32)), .unset] [(.ref a1)])) tq → Steps p.tables e below (s₁.setTop (entryFrame m #[(.ref a1), (.int (1 : Int32))] 4)) tq := by
    refine fun tq kq => pre7 tq ?_
    show Steps p.tables e below (T4.setTop (mkF m 34 #[.val (.ref a1), .val (.int (1 : Int32)), .val (.int (0 : Int32)), .unset] [])) _
    refine XS.aloadN X4.here hx rfl (hb hby d16_1_2_34) rfl rfl ?_
    exact kq
  obtain ⟨T9, X9, e9, st9⟩ := getF X4 hx hZ hown (host := "") (Or.inl (hw _ (List.mem_of_getElem? (i := 37) rfl))) Via.refl ehq4 F_block_a1 (g := (mkF m 35 #[.val (.ref a1), .val (.int (1 : Int32)), .val (.int (0 : Int32)), .unset] [(.ref a1)])) rfl rfl (hb hby d16_1_2_35)
  have pre10 : ∀ tq, Steps p.tables e below (T9.setTop (mkF m 38 #[.val (.ref a1), .val (.int (1 : Int32)), .val (.int (0 : Int32)), .unset] [(.ref y)])) tq → Steps p.tables e below (s₁.setTop (entryFrame m #[(.ref a1), (.int (1 : Int32))] 4)) tq := fun tq kq => pre8 tq (st9 _ kq)
  have pre11 : ∀ tq, Steps p.tables e below (T9.setTop (mkF m 45 #[.val (.ref a1), .val (.int (1 : Int32)), .val (.int (0 : Int32)), .val (.ref y)] [(.int (1 : Int32)), (.ref y)])) tq → Steps p.tables e below (s₁.setTop (entryFrame m #[(.ref a1), (.int (1 : Int32))] 4)) tq := by
    refine fun tq kq => pre10 tq ?_
    show Steps p.tables e below (T9.setTop (mkF m 38 #[.val (.ref a1), .val (.int (1 : Int32)), .val (.int (0 : Int32)), .unset] [(.ref y)])) _
    refine XS.astoreN X9.here hx rfl (hb hby d16_1_2_38) rfl rfl (l' := #[.val (.ref a1), .val (.int (1 : Int32)), .val (.int (0 : Int32)), .val (.ref y)]) rfl ?_
    show Steps p.tables e below (T9.setTop (mkF m 39 #[.val (.ref a1), .val (.int (1 : Int32)), .val (.int (0 : Int32)), .val (.ref y)] [])) _
    refine XS.aloadN X9.here hx rfl (hb hby d16_1_2_39) rfl rfl ?_
    show Steps p.tables e below (T9.setTop (mkF m 40 #[.val (.ref a1), .val (.int (1 : Int32)), .val (.int (0 : Int32)), .val (.ref y)] [(.ref y)])) _
    refine XS.iloadN X9.here hx rfl (hb hby d16_1_2_40) rfl ?_
    show Steps p.tables e below (T9.setTop (mkF m 41 #[.val (.ref a1), .val (.int (1 : Int32)), .val (.int (0 : Int32)), .val (.ref y)] [(.int (1 : Int32)), (.ref y)])) _
    refine XS.sipush X9.here hx rfl (hb hby d16_1_2_41) ?_
    show Steps p.tables e below (T9.setTop (mkF m 44 #[.val (.ref a1), .val (.int (1 : Int32)), .val (.int (0 : Int32)), .val (.ref y)] [(.int (32767 : Int32)), (.int (1 : Int32)), (.ref y)])) _
    refine XS.iand X9.here hx rfl (hb hby d16_1_2_44) rfl ?_
    exact kq
  have Vc12 := V_y
  obtain ⟨cl12, Ar12, Aq12, As12, An12, Ah12, Ag12⟩ := Vc12
  have hin12 : ¬ ((1 : Int32) < 0 ∨ cl12.slots.size ≤ ((1 : Int32)).toNatClampNeg) := inb_of As12 ⟨by decide, by decide⟩
  have pre13 : ∀ tq, Steps p.tables e below (T9.setTop (mkF m 46 #[.val (.ref a1), .val (.int (1 : Int32)), .val (.int (0 : Int32)), .val (.ref y)] [(.double u1)])) tq → Steps p.tables e below (s₁.setTop (entryFrame m #[(.ref a1), (.int (1 : Int32))] 4)) tq := fun tq kq => pre11 tq (X9.daload hx (j := (1 : Int32)) (v := (.double u1)) (by rw [e9]; exact Ar12.1) (State.isArrayOf_alike hZ.alike Ar12.2.1) Ar12.2.2 hin12 (Has.at Ah12 hin12 rfl) (g := (mkF m 45 #[.val (.ref a1), .val (.int (1 : Int32)), .val (.int (0 : Int32)), .val (.ref y)] [(.int (1 : Int32)), (.ref y)])) rfl rfl (hb hby d16_1_2_45) _ kq)
  obtain ⟨fs, hr, hrun, hended, hW, hsame⟩ := X9.leave (v := some (.double u1)) (fun h => by rw [Bd.returns] at h; cases h)
  refine ⟨_, _, pre13 _ ?_, hrun, hended, _, _, rfl, ?_, ⟨_, rfl⟩, hW, hsame.mono (by decide) (by decide)⟩
  · skip
    show Steps p.tables e below (T9.setTop (mkF m 46 #[.val (.ref a1), .val (.int (1 : Int32)), .val (.int (0 : Int32)), .val (.ref y)] [(.double u1)])) _
    exact retD X9 hx Bd.returns (hb hby d16_1_2_46) hr
  · show Q16_1_2 Z a1 al y k2 u0 u1 h0 n0 _ T9.heap _
    rw [e9]
    exact ⟨u1, rfl, N4, rfl, rfl⟩
/-! body 16_0_3 -/
theorem d16_0_3_0 : decode prog_82_method_3_code 0 = .ok (.iload_n 1, 1) := by decide +kernel
theorem d16_0_3_1 : decode prog_82_method_3_code 1 = .ok (.bipush 15, 2) := by decide +kernel
theorem d16_0_3_3 : decode prog_82_method_3_code 3 = .ok (.iushr, 1) := by decide +kernel
theorem d16_0_3_4 : decode prog_82_method_3_code 4 = .ok (.istore_n 2, 1) := by decide +kernel
theorem d16_0_3_5 : decode prog_82_method_3_code 5 = .ok (.iload_n 2, 1) := by decide +kernel
theorem d16_0_3_6 : decode prog_82_method_3_code 6 = .ok (.aload_n 0, 1) := by decide +kernel
theorem d16_0_3_7 : decode prog_82_method_3_code 7 = .ok (.getfield 12, 3) := by decide +kernel
theorem d16_0_3_10 : decode prog_82_method_3_code 10 = .ok (.invokeinterface 31 1, 5) := by decide +kernel
theorem d16_0_3_15 : decode prog_82_method_3_code 15 = .ok (.if_icmp .ge 19, 3) := by decide +kernel
theorem d16_0_3_34 : decode prog_82_method_3_code 34 = .ok (.aload_n 0, 1) := by decide +kernel
theorem d16_0_3_35 : decode prog_82_method_3_code 35 = .ok (.getfield 17, 3) := by decide +kernel
theorem d16_0_3_38 : decode prog_82_method_3_code 38 = .ok (.astore_n 3, 1) := by decide +kernel
theorem d16_0_3_39 : decode prog_82_method_3_code 39 = .ok (.aload_n 3, 1) := by decide +kernel
theorem d16_0_3_40 : decode prog_82_method_3_code 40 = .ok (.iload_n 1, 1) := by decide +kernel
theorem d16_0_3_41 : decode prog_82_method_3_code 41 = .ok (.sipush 32767, 3) := by decide +kernel
theorem d16_0_3_44 : decode prog_82_method_3_code 44 = .ok (.iand, 1) := by decide +kernel
theorem d16_0_3_45 : decode prog_82_method_3_code 45 = .ok (.daload, 1) := by decide +kernel
theorem d16_0_3_46 : decode prog_82_method_3_code 46 = .ok (.dreturn, 1) := by decide +kernel
theorem pn_16_0_3 : plainName "com/example/crisp_haptics/crisphaptics/SampleBlocks" = true := by first | (simp [plainName, overriddenIn]; done) | decide +kernel
theorem pd16_0_3_0 : parseMethodDescriptor "()I" = some ⟨[], some .int⟩ := by decide +kernel
theorem ef_16_0_3 (m : MethodId) (a1 : Addr) : entryFrame m #[(.ref a1), (.int (0 : Int32))] 4 = mkF m 0 #[.val (.ref a1), .val (.int (0 : Int32)), .unset, .unset] [] := by first | (simp [entryFrame, mkF, argsToLocals, Value.category]; done) | rfl
def Q16_0_3 (Z : State) (a1 : Addr) (al : Addr) (y : Addr) (k2 : ClassId) (u0 : UInt64) (u1 : UInt64) (u2 : UInt64) (h0 : Heap) (n0 : Nat) (v : Option Value) (h : Heap) (L : List Loc) : Prop := ∃ r : UInt64, v = some (.double r) ∧ Fr n0 L ∧ h = h0 ∧ (r = u0)
set_option maxRecDepth 65536 in
set_option maxHeartbeats 40000000 in
theorem rm16_0_3 (l : Launch) (Z : State) (a0 : Array Value) (hw : ∀ d ∈ tables_1, d.before a0 Z = true) (ws : List Jvm.Cond) (a1 : Addr) (al : Addr) (y : Addr) (k2 : ClassId) (u0 : UInt64) (u1 : UInt64) (u2 : UInt64) (h0 : Heap) (n0 : Nat) (Z0 : n0 ≤ h0.size) (F_fullBlocks_a1 : Fld Z h0 a1 "com/example/crisp_haptics/crisphaptics/SampleBlocks" "fullBlocks" "Ljava/util/List;" (.ref al)) (E_al : Exa Z h0 al "java/util/ArrayList") (F_size_al : Fld Z h0 al "java/util/ArrayList" "size" "I" (.int (0 : Int32))) (F_block_a1 : Fld Z h0 a1 "com/example/crisp_haptics/crisphaptics/SampleBlocks" "block" "[D" (.ref y)) (V_y : Arv Z h0 y k2 .double (3 : Int32) [(.double u0), (.double u1), (.double u2)] (.double 0)) :
    MetFree l (⟨"com/example/crisp_haptics/crisphaptics/SampleBlocks", "get", "(I)D"⟩ : MethodName) (head1 (Jvm.Cond.code (⟨"com/example/crisp_haptics/crisphaptics/SampleBlocks", "get", "(I)D"⟩ : MethodName) prog_82_method_3_code 4 (some .double) :: ws) ({ frames := 1, cells := 0, slots := 0, locals := 13 } : Room)) (fun a U => a = #[(.ref a1), (.int (0 : Int32))] ∧ Z.Warmed39 U.vm ∧ U.heap = h0) (fun _ _ _ _ _ => True) (fun _ U o U' => ∃ v L, o = .returned v ∧ Q16_0_3 Z a1 al y k2 u0 u1 u2 h0 n0 v U'.heap L ∧ FrameEnd U o U' L ({ frames := 1, cells := 0, slots := 0, locals := 13 } : Room).cells ({ frames := 1, cells := 0, slots := 0, locals := 13 } : Room).slots) := by
  refine MetFree.of_bodySF (plainFor_of_name pn_16_0_3) hisR ?_
  intro p e s m args below meth c s₁ Bd hml0 hP hK
  obtain ⟨rfl, hZ, hh⟩ := hP
  have hx := Bd.exec
  have hby := Bd.bytes
  have hml : c.maxLocals = 4 := hml0
  have hown : s.vm.findClass "com/example/crisp_haptics/crisphaptics/SampleBlocks" = some m.cls := findClass_of_methodNamed Bd.named
  have hnm := (name_of_methodNamed Bd.named Bd.method).1
  have X0 : Stand p l e ({ frames := 1, cells := 0, slots := 0, locals := 13 } : Room) s m #[(.ref a1), (.int (0 : Int32))] below meth c s₁ [] 0 0 := Stand.of_body Bd
  have e0 : s₁.heap = h0 := by rw [← hh, Bd.state]; rfl
  have N0 := Fr.nil n0
  have pre0 : ∀ tq, Steps p.tables e below (s₁.setTop (mkF m 0 #[.val (.ref a1), .val (.int (0 : Int32)), .unset, .unset] [])) tq → Steps p.tables e below (s₁.setTop (entryFrame m #[(.ref a1), (.int (0 : Int32))] 4)) tq := fun tq kq => castTop (ef_16_0_3 m a1) kq
  have pre1 : ∀ tq, Steps p.tables e below (s₁.setTop (mkF m 7 #[.val (.ref a1), .val (.int (0 : Int32)), .val (.int (0 : Int32)), .unset] [(.ref a1), (.int (0 : Int32))])) tq → Steps p.tables e below (s₁.setTop (entryFrame m #[(.ref a1), (.int (0 : Int32))] 4)) tq := by
    refine fun tq kq => pre0 tq ?_
    show Steps p.tables e below (s₁.setTop (mkF m 0 #[.val (.ref a1), .val (.int (0 : Int32)), .unset, .unset] [])) _
    refine XS.iloadN X0.here hx rfl (hb hby d16_0_3_0) rfl ?_
    show Steps p.tables e below (s₁.setTop (mkF m 1 #[.val (.ref a1), .val (.int (0 : Int32)), .unset, .unset] [(.int (0 : Int32))])) _
    refine XS.bipush X0.here hx rfl (hb hby d16_0_3_1) ?_
    show Steps p.tables e below (s₁.setTop (mkF m 3 #[.val (.ref a1), .val (.int (0 : Int32)), .unset, .unset] [(.int (15 : Int32)), (.int (0 : Int32))])) _
    refine XS.iushr X0.here hx rfl (hb hby d16_0_3_3) rfl ?_
    show Steps p.tables e below (s₁.setTop (mkF m 4 #[.val (.ref a1), .val (.int (0 : Int32)), .unset, .unset] [(.int (0 : Int32))])) _
    refine XS.istoreN X0.here hx rfl (hb hby d16_0_3_4) rfl (l' := #[.val (.ref a1), .val (.int (0 : Int32)), .val (.int (0 : Int32)), .unset]) rfl ?_
    show Steps p.tables e below (s₁.setTop (mkF m 5 #[.val (.ref a1), .val (.int (0 : Int32)), .val (.int (0 : Int32)), .unset] [])) _
    refine XS.iloadN X0.here hx rfl (hb hby d16_0_3_5) rfl ?_
    show Steps p.tables e below (s₁.setTop (mkF m 6 #[.val (.ref a1), .val (.int (0 : Int32)), .val (.int (0 : Int32)), .unset] [(.int (0 : Int32))])) _
    refine XS.aloadN X0.here hx rfl (hb hby d16_0_3_6) rfl rfl ?_
    exact kq
  obtain ⟨T2, X2, e2, st2⟩ := getF X0 hx hZ hown (host := "") (Or.inl (hw _ (List.mem_of_getElem? (i := 33) rfl))) Via.refl e0 F_fullBlocks_a1 (g := (mkF m 7 #[.val (.ref a1), .val (.int (0 : Int32)), .val (.int (0 : Int32)), .unset] [(.ref a1), (.int (0 : Int32))])) rfl rfl (hb hby d16_0_3_7)
  have pre3 : ∀ tq, Steps p.tables e below (T2.setTop (mkF m 10 #[.val (.ref a1), .val (.int (0 : Int32)), .val (.int (0 : Int32)), .unset] [(.ref al), (.int (0 : Int32))])) tq → Steps p.tables e below (s₁.setTop (entryFrame m #[(.ref a1), (.int (0 : Int32))] 4)) tq := fun tq kq => pre1 tq (st2 _ kq)
  have Z4 : n0 ≤ h0.size := Z0
  obtain ⟨cq4, kq4, q4a, q4b, q4c⟩ := isOf hZ e2 E_al
  obtain ⟨_, _, ⟨T4, L4, k4, n4⟩, -, X4, ⟨Lc4, hQ4, l4, y4, z4⟩, st4⟩ := X2.interfaceBack hx (xi := (⟨"java/util/List", "size", "()I"⟩ : MethodName)) (y := (⟨"java/util/ArrayList", "size", "()I"⟩ : MethodName)) hown (mvT hZ (hw _ (List.mem_of_getElem? (i := 63) rfl))) (mvT hZ (hw _ (List.mem_of_getElem? (i := 64) rfl))) (mvT hZ (hw _ (List.mem_of_getElem? (i := 65) rfl))) (mvT hZ (hw _ (List.mem_of_getElem? (i := 66) rfl))) (mvT hZ (hw _ (List.mem_of_getElem? (i := 67) rfl))) (mvT hZ (hw _ (List.mem_of_getElem? (i := 68) rfl))) (mvT hZ (hw _ (List.mem_of_getElem? (i := 69) rfl))) (mvT hZ (hw _ (List.mem_of_getElem? (i := 70) rfl))) (by decide) (backOf (W := 1) (rm10 l Z a0 hw [] al (0 : Int32) h0 n0 Z4 F_size_al) hZ (hw _ (List.mem_of_getElem? (i := 71) rfl)) (hw _ (List.mem_of_getElem? (i := 11) rfl)) (by decide) (by decide)) q4a q4b q4c (g := (mkF m 10 #[.val (.ref a1), .val (.int (0 : Int32)), .val (.int (0 : Int32)), .unset] [(.ref al), (.int (0 : Int32))])) rfl (by rw [hml]; rfl) (Steps.refl _) (argsL := []) (rest := [(.int (0 : Int32))]) (lenOf pd16_0_3_0 rfl) rfl (by show 2 * 0 + _ ≤ _; exact Nat.le_of_eq rfl) (hb hby d16_0_3_10) (fun _ _ => ⟨rfl, e2, (by decide : 0 + 0 ≤ _), (by decide : 0 + 0 ≤ _)⟩)
  dsimp only [Pt.U, Pt.locs, Pt.cells, Pt.slots] at X4 l4 y4 z4 st4 hQ4
  subst l4 y4 z4
  obtain ⟨r5, rfl, Nq4, ehq4, hq4⟩ := hQ4
  have N4 := Fr.app N0 Nq4
  have pre6 : ∀ tq, Steps p.tables e below (T4.setTop (mkF m 15 #[.val (.ref a1), .val (.int (0 : Int32)), .val (.int (0 : Int32)), .unset] [(.int r5), (.int (0 : Int32))])) tq → Steps p.tables e below (s₁.setTop (entryFrame m #[(.ref a1), (.int (0 : Int32))] 4)) tq := fun tq kq => pre3 tq (st4.trans kq)
  subst hq4
  have pre7 : ∀ tq, Steps p.tables e below (T4.setTop (mkF m 34 #[.val (.ref a1), .val (.int (0 : Int32)), .val (.int (0 : Int32)), .unset] [])) tq → Steps p.tables e below (s₁.setTop (entryFrame m #[(.ref a1), (.int (0 : Int32))] 4)) tq := by
    refine fun tq kq => pre6 tq ?_
    show Steps p.tables e below (T4.setTop (mkF m 15 #[.val (.ref a1), .val (.int (0 : Int32)), .val (.int (0 : Int32)), .unset] [(.int (0 : Int32)), (.int (0 : Int32))])) _
    refine XS.icmpYes X4.here hx rfl (pc0 := 15) (pc' := 34) rfl (hb hby d16_0_3_15) rfl (flt (by decide : ¬ ((0 : Int32) < (0 : Int32)))).2.1 (by decide) (by decide) ?_
    exact kq
  have pre8 : ∀ tq, Steps p.tables e below (T4.setTop (mkF m 35 #[.val (.ref a1), .val (.int (0 : Int32)), .val (.int (0 : Int32)), .unset] [(.ref a1)])) tq → Steps p.tables e below (s₁.setTop (entryFrame m #[(.ref a1), (.int (0 : Int32))] 4)) tq := by
    refine fun tq kq => pre7 tq ?_
    show Steps p.tables e below (T4.setTop (mkF m 34 #[.val (.ref a1), .val (.int (0 : Int32)), .val (.int (0 : Int32)), .unset] [])) _
    refine XS.aloadN X4.here hx rfl (hb hby d16_0_3_34) rfl rfl ?_
    exact kq
  obtain ⟨T9, X9, e9, st9⟩ := getF X4 hx hZ hown (host := "") (Or.inl (hw _ (List.mem_of_getElem? (i := 37) rfl))) Via.refl ehq4 F_block_a1 (g := (mkF m 35 #[.val (.ref a1), .val (.int (0 : Int32)), .val (.int (0 : Int32)), .unset] [(.ref a1)])) rfl rfl (hb hby d16_0_3_35)
  have pre10 : ∀ tq, Steps p.tables e below (T9.setTop (mkF m 38 #[.val (.ref a1), .val (.int (0 : Int32)), .val (.int (0 : Int32)), .unset] [(.ref y)])) tq → Steps p.tables e below (s₁.setTop (entryFrame m #[(.ref a1), (.int (0 : Int32))] 4)) tq := fun tq kq => pre8 tq (st9 _ kq)
  have pre11 : ∀ tq, Steps p.tables e below (T9.setTop (mkF m 45 #[.val (.ref a1), .val (.int (0 : Int32)), .val (.int (0 : Int32)), .val (.ref y)] [(.int (0 : Int32)), (.ref y)])) tq → Steps p.tables e below (s₁.setTop (entryFrame m #[(.ref a1), (.int (0 : Int32))] 4)) tq := by
    refine fun tq kq => pre10 tq ?_
    show Steps p.tables e below (T9.setTop (mkF m 38 #[.val (.ref a1), .val (.int (0 : Int32)), .val (.int (0 : Int32)), .unset] [(.ref y)])) _
    refine XS.astoreN X9.here hx rfl (hb hby d16_0_3_38) rfl rfl (l' := #[.val (.ref a1), .val (.int (0 : Int32)), .val (.int (0 : Int32)), .val (.ref y)]) rfl ?_
    show Steps p.tables e below (T9.setTop (mkF m 39 #[.val (.ref a1), .val (.int (0 : Int32)), .val (.int (0 : Int32)), .val (.ref y)] [])) _
    refine XS.aloadN X9.here hx rfl (hb hby d16_0_3_39) rfl rfl ?_
    show Steps p.tables e below (T9.setTop (mkF m 40 #[.val (.ref a1), .val (.int (0 : Int32)), .val (.int (0 : Int32)), .val (.ref y)] [(.ref y)])) _
    refine XS.iloadN X9.here hx rfl (hb hby d16_0_3_40) rfl ?_
    show Steps p.tables e below (T9.setTop (mkF m 41 #[.val (.ref a1), .val (.int (0 : Int32)), .val (.int (0 : Int32)), .val (.ref y)] [(.int (0 : Int32)), (.ref y)])) _
    refine XS.sipush X9.here hx rfl (hb hby d16_0_3_41) ?_
    show Steps p.tables e below (T9.setTop (mkF m 44 #[.val (.ref a1), .val (.int (0 : Int32)), .val (.int (0 : Int32)), .val (.ref y)] [(.int (32767 : Int32)), (.int (0 : Int32)), (.ref y)])) _
    refine XS.iand X9.here hx rfl (hb hby d16_0_3_44) rfl ?_
    exact kq
  have Vc12 := V_y
  obtain ⟨cl12, Ar12, Aq12, As12, An12, Ah12, Ag12⟩ := Vc12
  have hin12 : ¬ ((0 : Int32) < 0 ∨ cl12.slots.size ≤ ((0 : Int32)).toNatClampNeg) := inb_of As12 ⟨by decide, by decide⟩
  have pre13 : ∀ tq, Steps p.tables e below (T9.setTop (mkF m 46 #[.val (.ref a1), .val (.int (0 : Int32)), .val (.int (0 : Int32)), .val (.ref y)] [(.double u0)])) tq → Steps p.tables e below (s₁.setTop (entryFrame m #[(.ref a1), (.int (0 : Int32))] 4)) tq := fun tq kq => pre11 tq (X9.daload hx (j := (0 : Int32)) (v := (.double u0)) (by rw [e9]; exact Ar12.1) (State.isArrayOf_alike hZ.alike Ar12.2.1) Ar12.2.2 hin12 (Has.at Ah12 hin12 rfl) (g := (mkF m 45 #[.val (.ref a1), .val (.int (0 : Int32)), .val (.int (0 : Int32)), .val (.ref y)] [(.int (0 : Int32)), (.ref y)])) rfl rfl (hb hby d16_0_3_45) _ kq)
  obtain ⟨fs, hr, hrun, hended, hW, hsame⟩ := X9.leave (v := some (.double u0)) (fun h => by rw [Bd.returns] at h; cases h)
  refine ⟨_, _, pre13 _ ?_, hrun, hended, _, _, rfl, ?_, ⟨_, rfl⟩, hW, hsame.mono (by decide) (by decide)⟩
  · skip
    show Steps p.tables e below (T9.setTop (mkF m 46 #[.val (.ref a1), .val (.int (0 : Int32)), .val (.int (0 : Int32)), .val (.ref y)] [(.double u0)])) _
    exact retD X9 hx Bd.returns (hb hby d16_0_3_46) hr
  · show Q16_0_3 Z a1 al y k2 u0 u1 u2 h0 n0 _ T9.heap _
    rw [e9]
    exact ⟨u0, rfl, N4, rfl, rfl⟩
/-! body 16_1_3 -/
theorem d16_1_3_0 : decode prog_82_method_3_code 0 = .ok (.iload_n 1, 1) := by decide +kernel
theorem d16_1_3_1 : decode prog_82_method_3_code 1 = .ok (.bipush 15, 2) := by decide +kernel
theorem d16_1_3_3 : decode prog_82_method_3_code 3 = .ok (.iushr, 1) := by decide +kernel
theorem d16_1_3_4 : decode prog_82_method_3_code 4 = .ok (.istore_n 2, 1) := by decide +kernel
theorem d16_1_3_5 : decode prog_82_method_3_code 5 = .ok (.iload_n 2, 1) := by decide +kernel
theorem d16_1_3_6 : decode prog_82_method_3_code 6 = .ok (.aload_n 0, 1) := by decide +kernel
theorem d16_1_3_7 : decode prog_82_method_3_code 7 = .ok (.getfield 12, 3) := by decide +kernel
theorem d16_1_3_10 : decode prog_82_method_3_code 10 = .ok (.invokeinterface 31 1, 5) := by decide +kernel
theorem d16_1_3_15 : decode prog_82_method_3_code 15 = .ok (.if_icmp .ge 19, 3) := by decide +kernel
theorem d16_1_3_34 : decode prog_82_method_3_code 34 = .ok (.aload_n 0, 1) := by decide +kernel
theorem d16_1_3_35 : decode prog_82_method_3_code 35 = .ok (.getfield 17, 3) := by decide +kernel
theorem d16_1_3_38 : decode prog_82_method_3_code 38 = .ok (.astore_n 3, 1) := by decide +kernel
theorem d16_1_3_39 : decode prog_82_method_3_code 39 = .ok (.aload_n 3, 1) := by decide +kernel
theorem d16_1_3_40 : decode prog_82_method_3_code 40 = .ok (.iload_n 1, 1) := by decide +kernel
theorem d16_1_3_41 : decode prog_82_method_3_code 41 = .ok (.sipush 32767, 3) := by decide +kernel
theorem d16_1_3_44 : decode prog_82_method_3_code 44 = .ok (.iand, 1) := by decide +kernel
theorem d16_1_3_45 : decode prog_82_method_3_code 45 = .ok (.daload, 1) := by decide +kernel
theorem d16_1_3_46 : decode prog_82_method_3_code 46 = .ok (.dreturn, 1) := by decide +kernel
theorem pn_16_1_3 : plainName "com/example/crisp_haptics/crisphaptics/SampleBlocks" = true := by first | (simp [plainName, overriddenIn]; done) | decide +kernel
theorem pd16_1_3_0 : parseMethodDescriptor "()I" = some ⟨[], some .int⟩ := by decide +kernel
theorem ef_16_1_3 (m : MethodId) (a1 : Addr) : entryFrame m #[(.ref a1), (.int (1 : Int32))] 4 = mkF m 0 #[.val (.ref a1), .val (.int (1 : Int32)), .unset, .unset] [] := by first | (simp [entryFrame, mkF, argsToLocals, Value.category]; done) | rfl
def Q16_1_3 (Z : State) (a1 : Addr) (al : Addr) (y : Addr) (k2 : ClassId) (u0 : UInt64) (u1 : UInt64) (u2 : UInt64) (h0 : Heap) (n0 : Nat) (v : Option Value) (h : Heap) (L : List Loc) : Prop := ∃ r : UInt64, v = some (.double r) ∧ Fr n0 L ∧ h = h0 ∧ (r = u1)
set_option maxRecDepth 65536 in
set_option maxHeartbeats 40000000 in
theorem rm16_1_3 (l : Launch) (Z : State) (a0 : Array Value) (hw : ∀ d ∈ tables_1, d.before a0 Z = true) (ws : List Jvm.Cond) (a1 : Addr) (al : Addr) (y : Addr) (k2 : ClassId) (u0 : UInt64) (u1 : UInt64) (u2 : UInt64) (h0 : Heap) (n0 : Nat) (Z0 : n0 ≤ h0.size) (F_fullBlocks_a1 : Fld Z h0 a1 "com/example/crisp_haptics/crisphaptics/SampleBlocks" "fullBlocks" "Ljava/util/List;" (.ref al)) (E_al : Exa Z h0 al "java/util/ArrayList") (F_size_al : Fld Z h0 al "java/util/ArrayList" "size" "I" (.int (0 : Int32))) (F_block_a1 : Fld Z h0 a1 "com/example/crisp_haptics/crisphaptics/SampleBlocks" "block" "[D" (.ref y)) (V_y : Arv Z h0 y k2 .double (3 : Int32) [(.double u0), (.double u1), (.double u2)] (.double 0)) :
    MetFree l (⟨"com/example/crisp_haptics/crisphaptics/SampleBlocks", "get", "(I)D"⟩ : MethodName) (head1 (Jvm.Cond.code (⟨"com/example/crisp_haptics/crisphaptics/SampleBlocks", "get", "(I)D"⟩ : MethodName) prog_82_method_3_code 4 (some .double) :: ws) ({ frames := 1, cells := 0, slots := 0, locals := 13 } : Room)) (fun a U => a = #[(.ref a1), (.int (1 : Int32))] ∧ Z.Warmed39 U.vm ∧ U.heap = h0) (fun _ _ _ _ _ => True) (fun _ U o U' => ∃ v L, o = .returned v ∧ Q16_1_3 Z a1 al y k2 u0 u1 u2 h0 n0 v U'.heap L ∧ FrameEnd U o U' L ({ frames := 1, cells := 0, slots := 0, locals := 13 } : Room).cells ({ frames := 1, cells := 0, slots := 0, locals := 13 } : Room).slots) := by
  refine MetFree.of_bodySF (plainFor_of_name pn_16_1_3) hisR ?_
  intro p e s m args below meth c s₁ Bd hml0 hP hK
  obtain ⟨rfl, hZ, hh⟩ := hP
  have hx := Bd.exec
  have hby := Bd.bytes
  have hml : c.maxLocals = 4 := hml0
  have hown : s.vm.findClass "com/example/crisp_haptics/crisphaptics/SampleBlocks" = some m.cls := findClass_of_methodNamed Bd.named
  have hnm := (name_of_methodNamed Bd.named Bd.method).1
  have X0 : Stand p l e ({ frames := 1, cells := 0, slots := 0, locals := 13 } : Room) s m #[(.ref a1), (.int (1 : Int32))] below meth c s₁ [] 0 0 := Stand.of_body Bd
  have e0 : s₁.heap = h0 := by rw [← hh, Bd.state]; rfl
  have N0 := Fr.nil n0
  have pre0 : ∀ tq, Steps p.tables e below (s₁.setTop (mkF m 0 #[.val (.ref a1), .val (.int (1 : Int32)), .unset, .unset] [])) tq → Steps p.tables e below (s₁.setTop (entryFrame m #[(.ref a1), (.int (1 : Int32))] 4)) tq := fun tq kq => castTop (ef_16_1_3 m a1) kq
  have pre1 : ∀ tq, Steps p.tables e below (s₁.setTop (mkF m 7 #[.val (.ref a1), .val (.int (1 : Int32)), .val (.int (0 : Int32)), .unset] [(.ref a1), (.int (0 : Int32))])) tq → Steps p.tables e below (s₁.setTop (entryFrame m #[(.ref a1), (.int (1 : Int32))] 4)) tq := by
    refine fun tq kq => pre0 tq ?_
    show Steps p.tables e below (s₁.setTop (mkF m 0 #[.val (.ref a1), .val (.int (1 : Int32)), .unset, .unset] [])) _
    refine XS.iloadN X0.here hx rfl (hb hby d16_1_3_0) rfl ?_
    show Steps p.tables e below (s₁.setTop (mkF m 1 #[.val (.ref a1), .val (.int (1 : Int32)), .unset, .unset] [(.int (1 : Int32))])) _
    refine XS.bipush X0.here hx rfl (hb hby d16_1_3_1) ?_
    show Steps p.tables e below (s₁.setTop (mkF m 3 #[.val (.ref a1), .val (.int (1 : Int32)), .unset, .unset] [(.int (15 : Int32)), (.int (1 : Int32))])) _
    refine XS.iushr X0.here hx rfl (hb hby d16_1_3_3) rfl ?_
    show Steps p.tables e below (s₁.setTop (mkF m 4 #[.val (.ref a1), .val (.int (1 : Int32)), .unset, .unset] [(.int (0 : Int32))])) _
    refine XS.istoreN X0.here hx rfl (hb hby d16_1_3_4) rfl (l' := #[.val (.ref a1), .val (.int (1 : Int32)), .val (.int (0 : Int32)), .unset]) rfl ?_
    show Steps p.tables e below (s₁.setTop (mkF m 5 #[.val (.ref a1), .val (.int (1 : Int32)), .val (.int (0 : Int32)), .unset] [])) _
    refine XS.iloadN X0.here hx rfl (hb hby d16_1_3_5) rfl ?_
    show Steps p.tables e below (s₁.setTop (mkF m 6 #[.val (.ref a1), .val (.int (1 : Int32)), .val (.int (0 : Int32)), .unset] [(.int (0 : Int32))])) _
    refine XS.aloadN X0.here hx rfl (hb hby d16_1_3_6) rfl rfl ?_
    exact kq
  obtain ⟨T2, X2, e2, st2⟩ := getF X0 hx hZ hown (host := "") (Or.inl (hw _ (List.mem_of_getElem? (i := 33) rfl))) Via.refl e0 F_fullBlocks_a1 (g := (mkF m 7 #[.val (.ref a1), .val (.int (1 : Int32)), .val (.int (0 : Int32)), .unset] [(.ref a1), (.int (0 : Int32))])) rfl rfl (hb hby d16_1_3_7)
  have pre3 : ∀ tq, Steps p.tables e below (T2.setTop (mkF m 10 #[.val (.ref a1), .val (.int (1 : Int32)), .val (.int (0 : Int32)), .unset] [(.ref al), (.int (0 : Int32))])) tq → Steps p.tables e below (s₁.setTop (entryFrame m #[(.ref a1), (.int (1 : Int32))] 4)) tq := fun tq kq => pre1 tq (st2 _ kq)
  have Z4 : n0 ≤ h0.size := Z0
  obtain ⟨cq4, kq4, q4a, q4b, q4c⟩ := isOf hZ e2 E_al
  obtain ⟨_, _, ⟨T4, L4, k4, n4⟩, -, X4, ⟨Lc4, hQ4, l4, y4, z4⟩, st4⟩ := X2.interfaceBack hx (xi := (⟨"java/util/List", "size", "()I"⟩ : MethodName)) (y := (⟨"java/util/ArrayList", "size", "()I"⟩ : MethodName)) hown (mvT hZ (hw _ (List.mem_of_getElem? (i := 63) rfl))) (mvT hZ (hw _ (List.mem_of_getElem? (i := 64) rfl))) (mvT hZ (hw _ (List.mem_of_getElem? (i := 65) rfl))) (mvT hZ (hw _ (List.mem_of_getElem? (i := 66) rfl))) (mvT hZ (hw _ (List.mem_of_getElem? (i := 67) rfl))) (mvT hZ (hw _ (List.mem_of_getElem? (i := 68) rfl))) (mvT hZ (hw _ (List.mem_of_getElem? (i := 69) rfl))) (mvT hZ (hw _ (List.mem_of_getElem? (i := 70) rfl))) (by decide) (backOf (W := 1) (rm10 l Z a0 hw [] al (0 : Int32) h0 n0 Z4 F_size_al) hZ (hw _ (List.mem_of_getElem? (i := 71) rfl)) (hw _ (List.mem_of_getElem? (i := 11) rfl)) (by decide) (by decide)) q4a q4b q4c (g := (mkF m 10 #[.val (.ref a1), .val (.int (1 : Int32)), .val (.int (0 : Int32)), .unset] [(.ref al), (.int (0 : Int32))])) rfl (by rw [hml]; rfl) (Steps.refl _) (argsL := []) (rest := [(.int (0 : Int32))]) (lenOf pd16_1_3_0 rfl) rfl (by show 2 * 0 + _ ≤ _; exact Nat.le_of_eq rfl) (hb hby d16_1_3_10) (fun _ _ => ⟨rfl, e2, (by decide : 0 + 0 ≤ _), (by decide : 0 + 0 ≤ _)⟩)
  dsimp only [Pt.U, Pt.locs, Pt.cells, Pt.slots] at X4 l4 y4 z4 st4 hQ4
  subst l4 y4 z4
  obtain ⟨r5, rfl, Nq4, ehq4, hq4⟩ := hQ4
  have N4 := Fr.app N0 Nq4
  have pre6 : ∀ tq, Steps p.tables e below (T4.setTop (mkF m 15 #[.val (.ref a1), .val (.int (1 : Int32)), .val (.int (0 : Int32)), .unset] [(.int r5), (.int (0 : Int32))])) tq → Steps p.tables e below (s₁.setTop (entryFrame m #[(.ref a1), (.int (1 : Int32))] 4)) tq := fun tq kq => pre3 tq (st4.trans kq)
  subst hq4
  have pre7 : ∀ tq, Steps p.tables e below (T4.setTop (mkF m 34 #[.val (.ref a1), .val (.int (1 : Int32)), .val (.int (0 : Int32)), .unset] [])) tq → Steps p.tables e below (s₁.setTop (entryFrame m #[(.ref a1), (.int (1 : Int32))] 4)) tq := by
    refine fun tq kq => pre6 tq ?_
    show Steps p.tables e below (T4.setTop (mkF m 15 #[.val (.ref a1), .val (.int (1 : Int32)), .val (.int (0 : Int32)), .unset] [(.int (0 : Int32)), (.int (0 : Int32))])) _
    refine XS.icmpYes X4.here hx rfl (pc0 := 15) (pc' := 34) rfl (hb hby d16_1_3_15) rfl (flt (by decide : ¬ ((0 : Int32) < (0 : Int32)))).2.1 (by decide) (by decide) ?_
    exact kq
  have pre8 : ∀ tq, Steps p.tables e below (T4.setTop (mkF m 35 #[.val (.ref a1), .val (.int (1 : Int32)), .val (.int (0 : Int32)), .unset] [(.ref a1)])) tq → Steps p.tables e below (s₁.setTop (entryFrame m #[(.ref a1), (.int (1 : Int32))] 4)) tq := by
    refine fun tq kq => pre7 tq ?_
    show Steps p.tables e below (T4.setTop (mkF m 34 #[.val (.ref a1), .val (.int (1 : Int32)), .val (.int (0 : Int32)), .unset] [])) _
    refine XS.aloadN X4.here hx rfl (hb hby d16_1_3_34) rfl rfl ?_
    exact kq
  obtain ⟨T9, X9, e9, st9⟩ := getF X4 hx hZ hown (host := "") (Or.inl (hw _ (List.mem_of_getElem? (i := 37) rfl))) Via.refl ehq4 F_block_a1 (g := (mkF m 35 #[.val (.ref a1), .val (.int (1 : Int32)), .val (.int (0 : Int32)), .unset] [(.ref a1)])) rfl rfl (hb hby d16_1_3_35)
  have pre10 : ∀ tq, Steps p.tables e below (T9.setTop (mkF m 38 #[.val (.ref a1), .val (.int (1 : Int32)), .val (.int (0 : Int32)), .unset] [(.ref y)])) tq → Steps p.tables e below (s₁.setTop (entryFrame m #[(.ref a1), (.int (1 : Int32))] 4)) tq := fun tq kq => pre8 tq (st9 _ kq)
  have pre11 : ∀ tq, Steps p.tables e below (T9.setTop (mkF m 45 #[.val (.ref a1), .val (.int (1 : Int32)), .val (.int (0 : Int32)), .val (.ref y)] [(.int (1 : Int32)), (.ref y)])) tq → Steps p.tables e below (s₁.setTop (entryFrame m #[(.ref a1), (.int (1 : Int32))] 4)) tq := by
    refine fun tq kq => pre10 tq ?_
    show Steps p.tables e below (T9.setTop (mkF m 38 #[.val (.ref a1), .val (.int (1 : Int32)), .val (.int (0 : Int32)), .unset] [(.ref y)])) _
    refine XS.astoreN X9.here hx rfl (hb hby d16_1_3_38) rfl rfl (l' := #[.val (.ref a1), .val (.int (1 : Int32)), .val (.int (0 : Int32)), .val (.ref y)]) rfl ?_
    show Steps p.tables e below (T9.setTop (mkF m 39 #[.val (.ref a1), .val (.int (1 : Int32)), .val (.int (0 : Int32)), .val (.ref y)] [])) _
    refine XS.aloadN X9.here hx rfl (hb hby d16_1_3_39) rfl rfl ?_
    show Steps p.tables e below (T9.setTop (mkF m 40 #[.val (.ref a1), .val (.int (1 : Int32)), .val (.int (0 : Int32)), .val (.ref y)] [(.ref y)])) _
    refine XS.iloadN X9.here hx rfl (hb hby d16_1_3_40) rfl ?_
    show Steps p.tables e below (T9.setTop (mkF m 41 #[.val (.ref a1), .val (.int (1 : Int32)), .val (.int (0 : Int32)), .val (.ref y)] [(.int (1 : Int32)), (.ref y)])) _
    refine XS.sipush X9.here hx rfl (hb hby d16_1_3_41) ?_
    show Steps p.tables e below (T9.setTop (mkF m 44 #[.val (.ref a1), .val (.int (1 : Int32)), .val (.int (0 : Int32)), .val (.ref y)] [(.int (32767 : Int32)), (.int (1 : Int32)), (.ref y)])) _
    refine XS.iand X9.here hx rfl (hb hby d16_1_3_44) rfl ?_
    exact kq
  have Vc12 := V_y
  obtain ⟨cl12, Ar12, Aq12, As12, An12, Ah12, Ag12⟩ := Vc12
  have hin12 : ¬ ((1 : Int32) < 0 ∨ cl12.slots.size ≤ ((1 : Int32)).toNatClampNeg) := inb_of As12 ⟨by decide, by decide⟩
  have pre13 : ∀ tq, Steps p.tables e below (T9.setTop (mkF m 46 #[.val (.ref a1), .val (.int (1 : Int32)), .val (.int (0 : Int32)), .val (.ref y)] [(.double u1)])) tq → Steps p.tables e below (s₁.setTop (entryFrame m #[(.ref a1), (.int (1 : Int32))] 4)) tq := fun tq kq => pre11 tq (X9.daload hx (j := (1 : Int32)) (v := (.double u1)) (by rw [e9]; exact Ar12.1) (State.isArrayOf_alike hZ.alike Ar12.2.1) Ar12.2.2 hin12 (Has.at Ah12 hin12 rfl) (g := (mkF m 45 #[.val (.ref a1), .val (.int (1 : Int32)), .val (.int (0 : Int32)), .val (.ref y)] [(.int (1 : Int32)), (.ref y)])) rfl rfl (hb hby d16_1_3_45) _ kq)
  obtain ⟨fs, hr, hrun, hended, hW, hsame⟩ := X9.leave (v := some (.double u1)) (fun h => by rw [Bd.returns] at h; cases h)
  refine ⟨_, _, pre13 _ ?_, hrun, hended, _, _, rfl, ?_, ⟨_, rfl⟩, hW, hsame.mono (by decide) (by decide)⟩
  · skip
    show Steps p.tables e below (T9.setTop (mkF m 46 #[.val (.ref a1), .val (.int (1 : Int32)), .val (.int (0 : Int32)), .val (.ref y)] [(.double u1)])) _
    exact retD X9 hx Bd.returns (hb hby d16_1_3_46) hr
  · show Q16_1_3 Z a1 al y k2 u0 u1 u2 h0 n0 _ T9.heap _
    rw [e9]
    exact ⟨u1, rfl, N4, rfl, rfl⟩
/-! body 16_2_3 -/
theorem d16_2_3_0 : decode prog_82_method_3_code 0 = .ok (.iload_n 1, 1) := by decide +kernel
theorem d16_2_3_1 : decode prog_82_method_3_code 1 = .ok (.bipush 15, 2) := by decide +kernel
theorem d16_2_3_3 : decode prog_82_method_3_code 3 = .ok (.iushr, 1) := by decide +kernel
theorem d16_2_3_4 : decode prog_82_method_3_code 4 = .ok (.istore_n 2, 1) := by decide +kernel
theorem d16_2_3_5 : decode prog_82_method_3_code 5 = .ok (.iload_n 2, 1) := by decide +kernel
theorem d16_2_3_6 : decode prog_82_method_3_code 6 = .ok (.aload_n 0, 1) := by decide +kernel
theorem d16_2_3_7 : decode prog_82_method_3_code 7 = .ok (.getfield 12, 3) := by decide +kernel
theorem d16_2_3_10 : decode prog_82_method_3_code 10 = .ok (.invokeinterface 31 1, 5) := by decide +kernel
theorem d16_2_3_15 : decode prog_82_method_3_code 15 = .ok (.if_icmp .ge 19, 3) := by decide +kernel
theorem d16_2_3_34 : decode prog_82_method_3_code 34 = .ok (.aload_n 0, 1) := by decide +kernel
theorem d16_2_3_35 : decode prog_82_method_3_code 35 = .ok (.getfield 17, 3) := by decide +kernel
theorem d16_2_3_38 : decode prog_82_method_3_code 38 = .ok (.astore_n 3, 1) := by decide +kernel
theorem d16_2_3_39 : decode prog_82_method_3_code 39 = .ok (.aload_n 3, 1) := by decide +kernel
theorem d16_2_3_40 : decode prog_82_method_3_code 40 = .ok (.iload_n 1, 1) := by decide +kernel
theorem d16_2_3_41 : decode prog_82_method_3_code 41 = .ok (.sipush 32767, 3) := by decide +kernel
theorem d16_2_3_44 : decode prog_82_method_3_code 44 = .ok (.iand, 1) := by decide +kernel
theorem d16_2_3_45 : decode prog_82_method_3_code 45 = .ok (.daload, 1) := by decide +kernel
theorem d16_2_3_46 : decode prog_82_method_3_code 46 = .ok (.dreturn, 1) := by decide +kernel
theorem pn_16_2_3 : plainName "com/example/crisp_haptics/crisphaptics/SampleBlocks" = true := by first | (simp [plainName, overriddenIn]; done) | decide +kernel
theorem pd16_2_3_0 : parseMethodDescriptor "()I" = some ⟨[], some .int⟩ := by decide +kernel
theorem ef_16_2_3 (m : MethodId) (a1 : Addr) : entryFrame m #[(.ref a1), (.int (2 : Int32))] 4 = mkF m 0 #[.val (.ref a1), .val (.int (2 : Int32)), .unset, .unset] [] := by first | (simp [entryFrame, mkF, argsToLocals, Value.category]; done) | rfl
def Q16_2_3 (Z : State) (a1 : Addr) (al : Addr) (y : Addr) (k2 : ClassId) (u0 : UInt64) (u1 : UInt64) (u2 : UInt64) (h0 : Heap) (n0 : Nat) (v : Option Value) (h : Heap) (L : List Loc) : Prop := ∃ r : UInt64, v = some (.double r) ∧ Fr n0 L ∧ h = h0 ∧ (r = u2)
set_option maxRecDepth 65536 in
set_option maxHeartbeats 40000000 in
theorem rm16_2_3 (l : Launch) (Z : State) (a0 : Array Value) (hw : ∀ d ∈ tables_1, d.before a0 Z = true) (ws : List Jvm.Cond) (a1 : Addr) (al : Addr) (y : Addr) (k2 : ClassId) (u0 : UInt64) (u1 : UInt64) (u2 : UInt64) (h0 : Heap) (n0 : Nat) (Z0 : n0 ≤ h0.size) (F_fullBlocks_a1 : Fld Z h0 a1 "com/example/crisp_haptics/crisphaptics/SampleBlocks" "fullBlocks" "Ljava/util/List;" (.ref al)) (E_al : Exa Z h0 al "java/util/ArrayList") (F_size_al : Fld Z h0 al "java/util/ArrayList" "size" "I" (.int (0 : Int32))) (F_block_a1 : Fld Z h0 a1 "com/example/crisp_haptics/crisphaptics/SampleBlocks" "block" "[D" (.ref y)) (V_y : Arv Z h0 y k2 .double (3 : Int32) [(.double u0), (.double u1), (.double u2)] (.double 0)) :
    MetFree l (⟨"com/example/crisp_haptics/crisphaptics/SampleBlocks", "get", "(I)D"⟩ : MethodName) (head1 (Jvm.Cond.code (⟨"com/example/crisp_haptics/crisphaptics/SampleBlocks", "get", "(I)D"⟩ : MethodName) prog_82_method_3_code 4 (some .double) :: ws) ({ frames := 1, cells := 0, slots := 0, locals := 13 } : Room)) (fun a U => a = #[(.ref a1), (.int (2 : Int32))] ∧ Z.Warmed39 U.vm ∧ U.heap = h0) (fun _ _ _ _ _ => True) (fun _ U o U' => ∃ v L, o = .returned v ∧ Q16_2_3 Z a1 al y k2 u0 u1 u2 h0 n0 v U'.heap L ∧ FrameEnd U o U' L ({ frames := 1, cells := 0, slots := 0, locals := 13 } : Room).cells ({ frames := 1, cells := 0, slots := 0, locals := 13 } : Room).slots) := by
  refine MetFree.of_bodySF (plainFor_of_name pn_16_2_3) hisR ?_
  intro p e s m args below meth c s₁ Bd hml0 hP hK
  obtain ⟨rfl, hZ, hh⟩ := hP
  have hx := Bd.exec
  have hby := Bd.bytes
  have hml : c.maxLocals = 4 := hml0
  have hown : s.vm.findClass "com/example/crisp_haptics/crisphaptics/SampleBlocks" = some m.cls := findClass_of_methodNamed Bd.named
  have hnm := (name_of_methodNamed Bd.named Bd.method).1
  have X0 : Stand p l e ({ frames := 1, cells := 0, slots := 0, locals := 13 } : Room) s m #[(.ref a1), (.int (2 : Int32))] below meth c s₁ [] 0 0 := Stand.of_body Bd
  have e0 : s₁.heap = h0 := by rw [← hh, Bd.state]; rfl
  have N0 := Fr.nil n0
  have pre0 : ∀ tq, Steps p.tables e below (s₁.setTop (mkF m 0 #[.val (.ref a1), .val (.int (2 : Int32)), .unset, .unset] [])) tq → Steps p.tables e below (s₁.setTop (entryFrame m #[(.ref a1), (.int (2 : Int32))] 4)) tq := fun tq kq => castTop (ef_16_2_3 m a1) kq
  have pre1 : ∀ tq, Steps p.tables e below (s₁.setTop (mkF m 7 #[.val (.ref a1), .val (.int (2 : Int32)), .val (.int (0 : Int32)), .unset] [(.ref a1), (.int (0 : Int32))])) tq → Steps p.tables e below (s₁.setTop (entryFrame m #[(.ref a1), (.int (2 : Int32))] 4)) tq := by
    refine fun tq kq => pre0 tq ?_
    show Steps p.tables e below (s₁.setTop (mkF m 0 #[.val (.ref a1), .val (.int (2 : Int32)), .unset, .unset] [])) _
    refine XS.iloadN X0.here hx rfl (hb hby d16_2_3_0) rfl ?_
    show Steps p.tables e below (s₁.setTop (mkF m 1 #[.val (.ref a1), .val (.int (2 : Int32)), .unset, .unset] [(.int (2 : Int32))])) _
    refine XS.bipush X0.here hx rfl (hb hby d16_2_3_1) ?_
    show Steps p.tables e below (s₁.setTop (mkF m 3 #[.val (.ref a1), .val (.int (2 : Int32)), .unset, .unset] [(.int (15 : Int32)), (.int (2 : Int32))])) _
    refine XS.iushr X0.here hx rfl (hb hby d16_2_3_3) rfl ?_
    show Steps p.tables e below (s₁.setTop (mkF m 4 #[.val (.ref a1), .val (.int (2 : Int32)), .unset, .unset] [(.int (0 : Int32))])) _
    refine XS.istoreN X0.here hx rfl (hb hby d16_2_3_4) rfl (l' := #[.val (.ref a1), .val (.int (2 : Int32)), .val (.int (0 : Int32)), .unset]) rfl ?_
    show Steps p.tables e below (s₁.setTop (mkF m 5 #[.val (.ref a1), .val (.int (2 : Int32)), .val (.int (0 : Int32)), .unset] [])) _
    refine XS.iloadN X0.here hx rfl (hb hby d16_2_3_5) rfl ?_
    show Steps p.tables e below (s₁.setTop (mkF m 6 #[.val (.ref a1), .val (.int (2 : Int32)), .val (.int (0 : Int32)), .unset] [(.int (0 : Int32))])) _
    refine XS.aloadN X0.here hx rfl (hb hby d16_2_3_6) rfl rfl ?_
    exact kq
  obtain ⟨T2, X2, e2, st2⟩ := getF X0 hx hZ hown (host := "") (Or.inl (hw _ (List.mem_of_getElem? (i := 33) rfl))) Via.refl e0 F_fullBlocks_a1 (g := (mkF m 7 #[.val (.ref a1), .val (.int (2 : Int32)), .val (.int (0 : Int32)), .unset] [(.ref a1), (.int (0 : Int32))])) rfl rfl (hb hby d16_2_3_7)
  have pre3 : ∀ tq, Steps p.tables e below (T2.setTop (mkF m 10 #[.val (.ref a1), .val (.int (2 : Int32)), .val (.int (0 : Int32)), .unset] [(.ref al), (.int (0 : Int32))])) tq → Steps p.tables e below (s₁.setTop (entryFrame m #[(.ref a1), (.int (2 : Int32))] 4)) tq := fun tq kq => pre1 tq (st2 _ kq)
  have Z4 : n0 ≤ h0.size := Z0
  obtain ⟨cq4, kq4, q4a, q4b, q4c⟩ := isOf hZ e2 E_al
  obtain ⟨_, _, ⟨T4, L4, k4, n4⟩, -, X4, ⟨Lc4, hQ4, l4, y4, z4⟩, st4⟩ := X2.interfaceBack hx (xi := (⟨"java/util/List", "size", "()I"⟩ : MethodName)) (y := (⟨"java/util/ArrayList", "size", "()I"⟩ : MethodName)) hown (mvT hZ (hw _ (List.mem_of_getElem? (i := 63) rfl))) (mvT hZ (hw _ (List.mem_of_getElem? (i := 64) rfl))) (mvT hZ (hw _ (List.mem_of_getElem? (i := 65) rfl))) (mvT hZ (hw _ (List.mem_of_getElem? (i := 66) rfl))) (mvT hZ (hw _ (List.mem_of_getElem? (i := 67) rfl))) (mvT hZ (hw _ (List.mem_of_getElem? (i := 68) rfl))) (mvT hZ (hw _ (List.mem_of_getElem? (i := 69) rfl))) (mvT hZ (hw _ (List.mem_of_getElem? (i := 70) rfl))) (by decide) (backOf (W := 1) (rm10 l Z a0 hw [] al (0 : Int32) h0 n0 Z4 F_size_al) hZ (hw _ (List.mem_of_getElem? (i := 71) rfl)) (hw _ (List.mem_of_getElem? (i := 11) rfl)) (by decide) (by decide)) q4a q4b q4c (g := (mkF m 10 #[.val (.ref a1), .val (.int (2 : Int32)), .val (.int (0 : Int32)), .unset] [(.ref al), (.int (0 : Int32))])) rfl (by rw [hml]; rfl) (Steps.refl _) (argsL := []) (rest := [(.int (0 : Int32))]) (lenOf pd16_2_3_0 rfl) rfl (by show 2 * 0 + _ ≤ _; exact Nat.le_of_eq rfl) (hb hby d16_2_3_10) (fun _ _ => ⟨rfl, e2, (by decide : 0 + 0 ≤ _), (by decide : 0 + 0 ≤ _)⟩)
  dsimp only [Pt.U, Pt.locs, Pt.cells, Pt.slots] at X4 l4 y4 z4 st4 hQ4
  subst l4 y4 z4
  obtain ⟨r5, rfl, Nq4, ehq4, hq4⟩ := hQ4
  have N4 := Fr.app N0 Nq4
  have pre6 : ∀ tq, Steps p.tables e below (T4.setTop (mkF m 15 #[.val (.ref a1), .val (.int (2 : Int32)), .val (.int (0 : Int32)), .unset] [(.int r5), (.int (0 : Int32))])) tq → Steps p.tables e below (s₁.setTop (entryFrame m #[(.ref a1), (.int (2 : Int32))] 4)) tq := fun tq kq => pre3 tq (st4.trans kq)
  subst hq4
  have pre7 : ∀ tq, Steps p.tables e below (T4.setTop (mkF m 34 #[.val (.ref a1), .val (.int (2 : Int32)), .val (.int (0 : Int32)), .unset] [])) tq → Steps p.tables e below (s₁.setTop (entryFrame m #[(.ref a1), (.int (2 : Int32))] 4)) tq := by
    refine fun tq kq => pre6 tq ?_
    show Steps p.tables e below (T4.setTop (mkF m 15 #[.val (.ref a1), .val (.int (2 : Int32)), .val (.int (0 : Int32)), .unset] [(.int (0 : Int32)), (.int (0 : Int32))])) _
    refine XS.icmpYes X4.here hx rfl (pc0 := 15) (pc' := 34) rfl (hb hby d16_2_3_15) rfl (flt (by decide : ¬ ((0 : Int32) < (0 : Int32)))).2.1 (by decide) (by decide) ?_
    exact kq
  have pre8 : ∀ tq, Steps p.tables e below (T4.setTop (mkF m 35 #[.val (.ref a1), .val (.int (2 : Int32)), .val (.int (0 : Int32)), .unset] [(.ref a1)])) tq → Steps p.tables e below (s₁.setTop (entryFrame m #[(.ref a1), (.int (2 : Int32))] 4)) tq := by
    refine fun tq kq => pre7 tq ?_
    show Steps p.tables e below (T4.setTop (mkF m 34 #[.val (.ref a1), .val (.int (2 : Int32)), .val (.int (0 : Int32)), .unset] [])) _
    refine XS.aloadN X4.here hx rfl (hb hby d16_2_3_34) rfl rfl ?_
    exact kq
  obtain ⟨T9, X9, e9, st9⟩ := getF X4 hx hZ hown (host := "") (Or.inl (hw _ (List.mem_of_getElem? (i := 37) rfl))) Via.refl ehq4 F_block_a1 (g := (mkF m 35 #[.val (.ref a1), .val (.int (2 : Int32)), .val (.int (0 : Int32)), .unset] [(.ref a1)])) rfl rfl (hb hby d16_2_3_35)
  have pre10 : ∀ tq, Steps p.tables e below (T9.setTop (mkF m 38 #[.val (.ref a1), .val (.int (2 : Int32)), .val (.int (0 : Int32)), .unset] [(.ref y)])) tq → Steps p.tables e below (s₁.setTop (entryFrame m #[(.ref a1), (.int (2 : Int32))] 4)) tq := fun tq kq => pre8 tq (st9 _ kq)
  have pre11 : ∀ tq, Steps p.tables e below (T9.setTop (mkF m 45 #[.val (.ref a1), .val (.int (2 : Int32)), .val (.int (0 : Int32)), .val (.ref y)] [(.int (2 : Int32)), (.ref y)])) tq → Steps p.tables e below (s₁.setTop (entryFrame m #[(.ref a1), (.int (2 : Int32))] 4)) tq := by
    refine fun tq kq => pre10 tq ?_
    show Steps p.tables e below (T9.setTop (mkF m 38 #[.val (.ref a1), .val (.int (2 : Int32)), .val (.int (0 : Int32)), .unset] [(.ref y)])) _
    refine XS.astoreN X9.here hx rfl (hb hby d16_2_3_38) rfl rfl (l' := #[.val (.ref a1), .val (.int (2 : Int32)), .val (.int (0 : Int32)), .val (.ref y)]) rfl ?_
    show Steps p.tables e below (T9.setTop (mkF m 39 #[.val (.ref a1), .val (.int (2 : Int32)), .val (.int (0 : Int32)), .val (.ref y)] [])) _
    refine XS.aloadN X9.here hx rfl (hb hby d16_2_3_39) rfl rfl ?_
    show Steps p.tables e below (T9.setTop (mkF m 40 #[.val (.ref a1), .val (.int (2 : Int32)), .val (.int (0 : Int32)), .val (.ref y)] [(.ref y)])) _
    refine XS.iloadN X9.here hx rfl (hb hby d16_2_3_40) rfl ?_
    show Steps p.tables e below (T9.setTop (mkF m 41 #[.val (.ref a1), .val (.int (2 : Int32)), .val (.int (0 : Int32)), .val (.ref y)] [(.int (2 : Int32)), (.ref y)])) _
    refine XS.sipush X9.here hx rfl (hb hby d16_2_3_41) ?_
    show Steps p.tables e below (T9.setTop (mkF m 44 #[.val (.ref a1), .val (.int (2 : Int32)), .val (.int (0 : Int32)), .val (.ref y)] [(.int (32767 : Int32)), (.int (2 : Int32)), (.ref y)])) _
    refine XS.iand X9.here hx rfl (hb hby d16_2_3_44) rfl ?_
    exact kq
  have Vc12 := V_y
  obtain ⟨cl12, Ar12, Aq12, As12, An12, Ah12, Ag12⟩ := Vc12
  have hin12 : ¬ ((2 : Int32) < 0 ∨ cl12.slots.size ≤ ((2 : Int32)).toNatClampNeg) := inb_of As12 ⟨by decide, by decide⟩
  have pre13 : ∀ tq, Steps p.tables e below (T9.setTop (mkF m 46 #[.val (.ref a1), .val (.int (2 : Int32)), .val (.int (0 : Int32)), .val (.ref y)] [(.double u2)])) tq → Steps p.tables e below (s₁.setTop (entryFrame m #[(.ref a1), (.int (2 : Int32))] 4)) tq := fun tq kq => pre11 tq (X9.daload hx (j := (2 : Int32)) (v := (.double u2)) (by rw [e9]; exact Ar12.1) (State.isArrayOf_alike hZ.alike Ar12.2.1) Ar12.2.2 hin12 (Has.at Ah12 hin12 rfl) (g := (mkF m 45 #[.val (.ref a1), .val (.int (2 : Int32)), .val (.int (0 : Int32)), .val (.ref y)] [(.int (2 : Int32)), (.ref y)])) rfl rfl (hb hby d16_2_3_45) _ kq)
  obtain ⟨fs, hr, hrun, hended, hW, hsame⟩ := X9.leave (v := some (.double u2)) (fun h => by rw [Bd.returns] at h; cases h)
  refine ⟨_, _, pre13 _ ?_, hrun, hended, _, _, rfl, ?_, ⟨_, rfl⟩, hW, hsame.mono (by decide) (by decide)⟩
  · skip
    show Steps p.tables e below (T9.setTop (mkF m 46 #[.val (.ref a1), .val (.int (2 : Int32)), .val (.int (0 : Int32)), .val (.ref y)] [(.double u2)])) _
    exact retD X9 hx Bd.returns (hb hby d16_2_3_46) hr
  · show Q16_2_3 Z a1 al y k2 u0 u1 u2 h0 n0 _ T9.heap _
    rw [e9]
    exact ⟨u2, rfl, N4, rfl, rfl⟩
/-! body 9_0 -/
theorem d9_0_0 : decode prog_82_method_5_code 0 = .ok (.aload_n 0, 1) := by decide +kernel
theorem d9_0_1 : decode prog_82_method_5_code 1 = .ok (.getfield 12, 3) := by decide +kernel
theorem d9_0_4 : decode prog_82_method_5_code 4 = .ok (.invokeinterface 31 1, 5) := by decide +kernel
theorem d9_0_9 : decode prog_82_method_5_code 9 = .ok (.ldc 16, 2) := by decide +kernel
theorem d9_0_11 : decode prog_82_method_5_code 11 = .ok (.imul, 1) := by decide +kernel
theorem d9_0_12 : decode prog_82_method_5_code 12 = .ok (.aload_n 0, 1) := by decide +kernel
theorem d9_0_13 : decode prog_82_method_5_code 13 = .ok (.getfield 21, 3) := by decide +kernel
theorem d9_0_16 : decode prog_82_method_5_code 16 = .ok (.iadd, 1) := by decide +kernel
theorem d9_0_17 : decode prog_82_method_5_code 17 = .ok (.newarray .double, 2) := by decide +kernel
theorem d9_0_19 : decode prog_82_method_5_code 19 = .ok (.astore_n 1, 1) := by decide +kernel
theorem d9_0_20 : decode prog_82_method_5_code 20 = .ok (.iconst 0, 1) := by decide +kernel
theorem d9_0_21 : decode prog_82_method_5_code 21 = .ok (.istore_n 2, 1) := by decide +kernel
theorem d9_0_22 : decode prog_82_method_5_code 22 = .ok (.aload_n 0, 1) := by decide +kernel
theorem d9_0_23 : decode prog_82_method_5_code 23 = .ok (.getfield 12, 3) := by decide +kernel
theorem d9_0_26 : decode prog_82_method_5_code 26 = .ok (.invokeinterface 46 1, 5) := by decide +kernel
theorem d9_0_31 : decode prog_82_method_5_code 31 = .ok (.astore_n 3, 1) := by decide +kernel
theorem d9_0_32 : decode prog_82_method_5_code 32 = .ok (.aload_n 3, 1) := by decide +kernel
theorem d9_0_33 : decode prog_82_method_5_code 33 = .ok (.invokeinterface 50 1, 5) := by decide +kernel
theorem d9_0_38 : decode prog_82_method_5_code 38 = .ok (.ifCond .eq 32, 3) := by decide +kernel
theorem d9_0_70 : decode prog_82_method_5_code 70 = .ok (.aload_n 0, 1) := by decide +kernel
theorem d9_0_71 : decode prog_82_method_5_code 71 = .ok (.getfield 17, 3) := by decide +kernel
theorem d9_0_74 : decode prog_82_method_5_code 74 = .ok (.iconst 0, 1) := by decide +kernel
theorem d9_0_75 : decode prog_82_method_5_code 75 = .ok (.aload_n 1, 1) := by decide +kernel
theorem d9_0_76 : decode prog_82_method_5_code 76 = .ok (.iload_n 2, 1) := by decide +kernel
theorem d9_0_77 : decode prog_82_method_5_code 77 = .ok (.aload_n 0, 1) := by decide +kernel
theorem d9_0_78 : decode prog_82_method_5_code 78 = .ok (.getfield 21, 3) := by decide +kernel
theorem d9_0_81 : decode prog_82_method_5_code 81 = .ok (.invokestatic 60, 3) := by decide +kernel
theorem d9_0_84 : decode prog_82_method_5_code 84 = .ok (.aload_n 0, 1) := by decide +kernel
theorem d9_0_85 : decode prog_82_method_5_code 85 = .ok (.getfield 12, 3) := by decide +kernel
theorem d9_0_88 : decode prog_82_method_5_code 88 = .ok (.invokeinterface 66 1, 5) := by decide +kernel
theorem d9_0_93 : decode prog_82_method_5_code 93 = .ok (.aload_n 0, 1) := by decide +kernel
theorem d9_0_94 : decode prog_82_method_5_code 94 = .ok (.aconst_null, 1) := by decide +kernel
theorem d9_0_95 : decode prog_82_method_5_code 95 = .ok (.putfield 17, 3) := by decide +kernel
theorem d9_0_98 : decode prog_82_method_5_code 98 = .ok (.aload_n 1, 1) := by decide +kernel
theorem d9_0_99 : decode prog_82_method_5_code 99 = .ok (.areturn, 1) := by decide +kernel
theorem pn_9_0 : plainName "com/example/crisp_haptics/crisphaptics/SampleBlocks" = true := by first | (simp [plainName, overriddenIn]; done) | decide +kernel
theorem pd9_0_0 : parseMethodDescriptor "()I" = some ⟨[], some .int⟩ := by decide +kernel
theorem pd9_0_1 : parseMethodDescriptor "()Ljava/util/Iterator;" = some ⟨[], some (.object "java/util/Iterator")⟩ := by decide +kernel
theorem pd9_0_2 : parseMethodDescriptor "()Z" = some ⟨[], some .boolean⟩ := by decide +kernel
theorem pd9_0_3 : parseMethodDescriptor "()V" = some ⟨[], none⟩ := by decide +kernel
theorem ef_9_0 (m : MethodId) (a1 : Addr) : entryFrame m #[(.ref a1)] 5 = mkF m 0 #[.val (.ref a1), .unset, .unset, .unset, .unset] [] := by first | (simp [entryFrame, mkF, argsToLocals, Value.category]; done) | rfl
def Q9_0 (Z : State) (a1 : Addr) (al : Addr) (y : Addr) (k2 : ClassId) (sD : Addr) (h0 : Heap) (n0 : Nat) (v : Option Value) (h : Heap) (L : List Loc) : Prop := ∃ r : Addr, ∃ k3 : ClassId, v = some (.ref r) ∧ Fr n0 L ∧ Keep h0 h [a1, al] ∧ Arv Z h r k3 .double (0 : Int32) [] (.double 0) ∧ h0.size ≤ r ∧ (True)
set_option maxRecDepth 65536 in
set_option maxHeartbeats 40000000 in
theorem rm9_0 (l : Launch) (Z : State) (a0 : Array Value) (hw : ∀ d ∈ tables_1, d.before a0 Z = true) (ws : List Jvm.Cond) (a1 : Addr) (al : Addr) (y : Addr) (k2 : ClassId) (sD : Addr) (h0 : Heap) (n0 : Nat) (Z0 : n0 ≤ h0.size) (E_a1 : Exa Z h0 a1 "com/example/crisp_haptics/crisphaptics/SampleBlocks") (F_fullBlocks_a1 : Fld Z h0 a1 "com/example/crisp_haptics/crisphaptics/SampleBlocks" "fullBlocks" "Ljava/util/List;" (.ref al)) (F_inBlock_a1 : Fld Z h0 a1 "com/example/crisp_haptics/crisphaptics/SampleBlocks" "inBlock" "I" (.int (0 : Int32))) (F_block_a1 : Fld Z h0 a1 "com/example/crisp_haptics/crisphaptics/SampleBlocks" "block" "[D" (.ref y)) (V_y : Arv Z h0 y k2 .double (0 : Int32) [] (.double 0)) (E_al : Exa Z h0 al "java/util/ArrayList") (F_modCount_al : Fld Z h0 al "java/util/AbstractList" "modCount" "I" (.int (0 : Int32))) (F_elementData_al : Fld Z h0 al "java/util/ArrayList" "elementData" "[Ljava/lang/Object;" (.ref sD)) (F_size_al : Fld Z h0 al "java/util/ArrayList" "size" "I" (.int (0 : Int32))) (g_a1 : n0 ≤ a1) (g_al : n0 ≤ al) (ne_a1_al : a1 ≠ al) (ne_a1_y : a1 ≠ y) (ne_al_y : al ≠ y) :
    MetFree l (⟨"com/example/crisp_haptics/crisphaptics/SampleBlocks", "moveToArray", "()[D"⟩ : MethodName) (head1 (Jvm.Cond.code (⟨"com/example/crisp_haptics/crisphaptics/SampleBlocks", "moveToArray", "()[D"⟩ : MethodName) prog_82_method_5_code 5 (some (.array .double)) :: ws) ({ frames := 3, cells := 2, slots := 4, locals := 40 } : Room)) (fun a U => a = #[(.ref a1)] ∧ Z.Warmed39 U.vm ∧ U.heap = h0) (fun _ _ _ _ _ => True) (fun _ U o U' => ∃ v L, o = .returned v ∧ Q9_0 Z a1 al y k2 sD h0 n0 v U'.heap L ∧ FrameEnd U o U' L ({ frames := 3, cells := 2, slots := 4, locals := 40 } : Room).cells ({ frames := 3, cells := 2, slots := 4, locals := 40 } : Room).slots) := by
  refine MetFree.of_bodySF (plainFor_of_name pn_9_0) hisR ?_
  intro p e s m args below meth c s₁ Bd hml0 hP hK
  obtain ⟨rfl, hZ, hh⟩ := hP
  have hx := Bd.exec
  have hby := Bd.bytes
  have hml : c.maxLocals = 5 := hml0
  have hown : s.vm.findClass "com/example/crisp_haptics/crisphaptics/SampleBlocks" = some m.cls := findClass_of_methodNamed Bd.named
  have hnm := (name_of_methodNamed Bd.named Bd.method).1
  have X0 : Stand p l e ({ frames := 3, cells := 2, slots := 4, locals := 40 } : Room) s m #[(.ref a1)] below meth c s₁ [] 0 0 := Stand.of_body Bd
  have e0 : s₁.heap = h0 := by rw [← hh, Bd.state]; rfl
  have N0 := Fr.nil n0
  have pre0 : ∀ tq, Steps p.tables e below (s₁.setTop (mkF m 0 #[.val (.ref a1), .unset, .unset, .unset, .unset] [])) tq → Steps p.tables e below (s₁.setTop (entryFrame m #[(.ref a1)] 5)) tq := fun tq kq => castTop (ef_9_0 m a1) kq
  have pre1 : ∀ tq, Steps p.tables e below (s₁.setTop (mkF m 1 #[.val (.ref a1), .unset, .unset, .unset, .unset] [(.ref a1)])) tq → Steps p.tables e below (s₁.setTop (entryFrame m #[(.ref a1)] 5)) tq := by
    refine fun tq kq => pre0 tq ?_
    show Steps p.tables e below (s₁.setTop (mkF m 0 #[.val (.ref a1), .unset, .unset, .unset, .unset] [])) _
    refine XS.aloadN X0.here hx rfl (hb hby d9_0_0) rfl rfl ?_
    exact kq
  obtain ⟨T2, X2, e2, st2⟩ := getF X0 hx hZ hown (host := "") (Or.inl (hw _ (List.mem_of_getElem? (i := 33) rfl))) Via.refl e0 F_fullBlocks_a1 (g := (mkF m 1 #[.val (.ref a1), .unset, .unset, .unset, .unset] [(.ref a1)])) rfl rfl (hb hby d9_0_1)
  have pre3 : ∀ tq, Steps p.tables e below (T2.setTop (mkF m 4 #[.val (.ref a1), .unset, .unset, .unset, .unset] [(.ref al)])) tq → Steps p.tables e below (s₁.setTop (entryFrame m #[(.ref a1)] 5)) tq := fun tq kq => pre1 tq (st2 _ kq)
  have Z4 : n0 ≤ h0.size := Z0
  obtain ⟨cq4, kq4, q4a, q4b, q4c⟩ := isOf hZ e2 E_al
  obtain ⟨_, _, ⟨T4, L4, k4, n4⟩, -, X4, ⟨Lc4, hQ4, l4, y4, z4⟩, st4⟩ := X2.interfaceBack hx (xi := (⟨"java/util/List", "size", "()I"⟩ : MethodName)) (y := (⟨"java/util/ArrayList", "size", "()I"⟩ : MethodName)) hown (mvT hZ (hw _ (List.mem_of_getElem? (i := 63) rfl))) (mvT hZ (hw _ (List.mem_of_getElem? (i := 64) rfl))) (mvT hZ (hw _ (List.mem_of_getElem? (i := 65) rfl))) (mvT hZ (hw _ (List.mem_of_getElem? (i := 66) rfl))) (mvT hZ (hw _ (List.mem_of_getElem? (i := 67) rfl))) (mvT hZ (hw _ (List.mem_of_getElem? (i := 68) rfl))) (mvT hZ (hw _ (List.mem_of_getElem? (i := 69) rfl))) (mvT hZ (hw _ (List.mem_of_getElem? (i := 70) rfl))) (by decide) (backOf (W := 0) (rm10 l Z a0 hw [] al (0 : Int32) h0 n0 Z4 F_size_al) hZ (hw _ (List.mem_of_getElem? (i := 71) rfl)) (hw _ (List.mem_of_getElem? (i := 11) rfl)) (by decide) (by decide)) q4a q4b q4c (g := (mkF m 4 #[.val (.ref a1), .unset, .unset, .unset, .unset] [(.ref al)])) rfl (by rw [hml]; rfl) (Steps.refl _) (argsL := []) (rest := []) (lenOf pd9_0_0 rfl) rfl (by show 2 * 0 + _ ≤ _; exact Nat.le_of_eq rfl) (hb hby d9_0_4) (fun _ _ => ⟨rfl, e2, (by decide : 0 + 0 ≤ _), (by decide : 0 + 0 ≤ _)⟩)
  dsimp only [Pt.U, Pt.locs, Pt.cells, Pt.slots] at X4 l4 y4 z4 st4 hQ4
  subst l4 y4 z4
  obtain ⟨r5, rfl, Nq4, ehq4, hq4⟩ := hQ4
  have N4 := Fr.app N0 Nq4
  have pre6 : ∀ tq, Steps p.tables e below (T4.setTop (mkF m 9 #[.val (.ref a1), .unset, .unset, .unset, .unset] [(.int r5)])) tq → Steps p.tables e below (s₁.setTop (entryFrame m #[(.ref a1)] 5)) tq := fun tq kq => pre3 tq (st4.trans kq)
  subst hq4
  have pre7 : ∀ tq, Steps p.tables e below (T4.setTop (mkF m 13 #[.val (.ref a1), .unset, .unset, .unset, .unset] [(.ref a1), (.int (0 : Int32))])) tq → Steps p.tables e below (s₁.setTop (entryFrame m #[(.ref a1)] 5)) tq := by
    refine fun tq kq => pre6 tq ?_
    show Steps p.tables e below (T4.setTop (mkF m 9 #[.val (.ref a1), .unset, .unset, .unset, .unset] [(.int (0 : Int32))])) _
    refine X4.ldcInt hx hown (mvT hZ (hw _ (List.mem_of_getElem? (i := 35) rfl))) (g := (mkF m 9 #[.val (.ref a1), .unset, .unset, .unset, .unset] [(.int (0 : Int32))])) rfl (hb hby d9_0_9) _ ?_
    show Steps p.tables e below (T4.setTop (mkF m 11 #[.val (.ref a1), .unset, .unset, .unset, .unset] [(.int (32768 : Int32)), (.int (0 : Int32))])) _
    refine XS.imul X4.here hx rfl (hb hby d9_0_11) rfl ?_
    show Steps p.tables e below (T4.setTop (mkF m 12 #[.val (.ref a1), .unset, .unset, .unset, .unset] [(.int (0 : Int32))])) _
    refine XS.aloadN X4.here hx rfl (hb hby d9_0_12) rfl rfl ?_
    exact kq
  obtain ⟨T8, X8, e8, st8⟩ := getF X4 hx hZ hown (host := "") (Or.inl (hw _ (List.mem_of_getElem? (i := 44) rfl))) Via.refl ehq4 F_inBlock_a1 (g := (mkF m 13 #[.val (.ref a1), .unset, .unset, .unset, .unset] [(.ref a1), (.int (0 : Int32))])) rfl rfl (hb hby d9_0_13)
  have pre9 : ∀ tq, Steps p.tables e below (T8.setTop (mkF m 16 #[.val (.ref a1), .unset, .unset, .unset, .unset] [(.int (0 : Int32)), (.int (0 : Int32))])) tq → Steps p.tables e below (s₁.setTop (entryFrame m #[(.ref a1)] 5)) tq := fun tq kq => pre7 tq (st8 _ kq)
  have pre10 : ∀ tq, Steps p.tables e below (T8.setTop (mkF m 17 #[.val (.ref a1), .unset, .unset, .unset, .unset] [(.int (0 : Int32))])) tq → Steps p.tables e below (s₁.setTop (entryFrame m #[(.ref a1)] 5)) tq := by
    refine fun tq kq => pre9 tq ?_
    show Steps p.tables e below (T8.setTop (mkF m 16 #[.val (.ref a1), .unset, .unset, .unset, .unset] [(.int (0 : Int32)), (.int (0 : Int32))])) _
    refine XS.iadd X8.here hx rfl (hb hby d9_0_16) rfl ?_
    exact kq
  obtain ⟨T11, h11, k11, X11, e11, E11, A11, st11⟩ := newP X8 hx hZ (hw _ (List.mem_of_getElem? (i := 36) rfl)) e8 (g := (mkF m 17 #[.val (.ref a1), .unset, .unset, .unset, .unset] [(.int (0 : Int32))])) rfl (hb hby d9_0_17) rfl (by decide) (cap := 0) (by decide) (by decide) (by decide) (by decide)
  obtain ⟨b11, g11⟩ : ∃ z, z = h0.size := ⟨_, rfl⟩
  rw [← g11] at A11 st11
  have g_b11 : n0 ≤ b11 := Nat.le_trans Z0 (Nat.le_of_eq g11.symm)
  have sz_b11 : h0.size ≤ b11 := Nat.le_trans (Nat.le_refl h0.size) (Nat.le_of_eq g11.symm)
  have ne12 : a1 ≠ b11 := Nat.ne_of_lt (Nat.lt_of_lt_of_le E_a1.lt (Nat.le_of_eq g11.symm))
  have ne13 : y ≠ b11 := Nat.ne_of_lt (Nat.lt_of_lt_of_le V_y.lt (Nat.le_of_eq g11.symm))
  have ne14 : al ≠ b11 := Nat.ne_of_lt (Nat.lt_of_lt_of_le E_al.lt (Nat.le_of_eq g11.symm))
  have pre15 : ∀ tq, Steps p.tables e below (T11.setTop (mkF m 19 #[.val (.ref a1), .unset, .unset, .unset, .unset] [(.ref b11)])) tq → Steps p.tables e below (s₁.setTop (entryFrame m #[(.ref a1)] 5)) tq := fun tq kq => pre10 tq (st11 _ kq)
  have f16 := E_a1.ext E11
  have f17 := F_fullBlocks_a1.ext E11
  have f18 := F_inBlock_a1.ext E11
  have f19 := F_block_a1.ext E11
  have f20 := V_y.ext E11
  have f21 := E_al.ext E11
  have f22 := F_modCount_al.ext E11
  have f23 := F_elementData_al.ext E11
  have f24 := F_size_al.ext E11
  have K11 : Keep h0 h11 [a1, al] := Keep.ext (Keep.refl h0 [a1, al]) E11
  have f25 : Arv Z h11 b11 k11 .double (0 : Int32) [] (.double 0) := (Arv.new A11 (by decide)).pad (pad_rep [] (.double 0) 0)
  have pre26 : ∀ tq, Steps p.tables e below (T11.setTop (mkF m 23 #[.val (.ref a1), .val (.ref b11), .val (.int (0 : Int32)), .unset, .unset] [(.ref a1)])) tq → Steps p.tables e below (s₁.setTop (entryFrame m #[(.ref a1)] 5)) tq := by
    refine fun tq kq => pre15 tq ?_
    show Steps p.tables e below (T11.setTop (mkF m 19 #[.val (.ref a1), .unset, .unset, .unset, .unset] [(.ref b11)])) _
    refine XS.astoreN X11.here hx rfl (hb hby d9_0_19) rfl rfl (l' := #[.val (.ref a1), .val (.ref b11), .unset, .unset, .unset]) rfl ?_
    show Steps p.tables e below (T11.setTop (mkF m 20 #[.val (.ref a1), .val (.ref b11), .unset, .unset, .unset] [])) _
    refine XS.iconst X11.here hx rfl (hb hby d9_0_20) ?_
    show Steps p.tables e below (T11.setTop (mkF m 21 #[.val (.ref a1), .val (.ref b11), .unset, .unset, .unset] [(.int (0 : Int32))])) _
    refine XS.istoreN X11.here hx rfl (hb hby d9_0_21) rfl (l' := #[.val (.ref a1), .val (.ref b11), .val (.int (0 : Int32)), .unset, .unset]) rfl ?_
    show Steps p.tables e below (T11.setTop (mkF m 22 #[.val (.ref a1), .val (.ref b11), .val (.int (0 : Int32)), .unset, .unset] [])) _
    refine XS.aloadN X11.here hx rfl (hb hby d9_0_22) rfl rfl ?_
    exact kq
  obtain ⟨T27, X27, e27, st27⟩ := getF X11 hx hZ hown (host := "") (Or.inl (hw _ (List.mem_of_getElem? (i := 33) rfl))) Via.refl e11 f17 (g := (mkF m 23 #[.val (.ref a1), .val (.ref b11), .val (.int (0 : Int32)), .unset, .unset] [(.ref a1)])) rfl rfl (hb hby d9_0_23)
  have pre28 : ∀ tq, Steps p.tables e below (T27.setTop (mkF m 26 #[.val (.ref a1), .val (.ref b11), .val (.int (0 : Int32)), .unset, .unset] [(.ref al)])) tq → Steps p.tables e below (s₁.setTop (entryFrame m #[(.ref a1)] 5)) tq := fun tq kq => pre26 tq (st27 _ kq)
  have Z29 : n0 ≤ h11.size := (Nat.le_trans Z0 E11.1)
  obtain ⟨cq29, kq29, q29a, q29b, q29c⟩ := isOf hZ e27 f21
  obtain ⟨_, _, ⟨T29, L29, k29, n29⟩, -, X29, ⟨Lc29, hQ29, l29, y29, z29⟩, st29⟩ := X27.interfaceBack hx (xi := (⟨"java/util/List", "iterator", "()Ljava/util/Iterator;"⟩ : MethodName)) (y := (⟨"java/util/ArrayList", "iterator", "()Ljava/util/Iterator;"⟩ : MethodName)) hown (mvT hZ (hw _ (List.mem_of_getElem? (i := 74) rfl))) (mvT hZ (hw _ (List.mem_of_getElem? (i := 75) rfl))) (mvT hZ (hw _ (List.mem_of_getElem? (i := 76) rfl))) (mvT hZ (hw _ (List.mem_of_getElem? (i := 77) rfl))) (mvT hZ (hw _ (List.mem_of_getElem? (i := 78) rfl))) (mvT hZ (hw _ (List.mem_of_getElem? (i := 79) rfl))) (mvT hZ (hw _ (List.mem_of_getElem? (i := 80) rfl))) (mvT hZ (hw _ (List.mem_of_getElem? (i := 70) rfl))) (by decide) (backOf (W := 0) (rm11 l Z a0 hw [] al (0 : Int32) h11 n0 Z29 f21 f22) hZ (hw _ (List.mem_of_getElem? (i := 81) rfl)) (hw _ (List.mem_of_getElem? (i := 11) rfl)) (by decide) (by decide)) q29a q29b q29c (g := (mkF m 26 #[.val (.ref a1), .val (.ref b11), .val (.int (0 : Int32)), .unset, .unset] [(.ref al)])) rfl (by rw [hml]; rfl) (Steps.refl _) (argsL := []) (rest := []) (lenOf pd9_0_1 rfl) rfl (by show 2 * 0 + _ ≤ _; exact Nat.le_of_eq rfl) (hb hby d9_0_26) (fun _ _ => ⟨rfl, e27, (by decide : ((0 + 0) + 1) + 1 ≤ _), (by decide : ((0 + 0) + 0) + 4 ≤ _)⟩)
  dsimp only [Pt.U, Pt.locs, Pt.cells, Pt.slots] at X29 l29 y29 z29 st29 hQ29
  subst l29 y29 z29
  obtain ⟨r30, rfl, Nq29, Kq29, f31, f32, f33, f34, hq29⟩ := hQ29
  have N29 := Fr.app N4 Nq29
  have pre35 : ∀ tq, Steps p.tables e below (T29.setTop (mkF m 31 #[.val (.ref a1), .val (.ref b11), .val (.int (0 : Int32)), .unset, .unset] [(.ref r30)])) tq → Steps p.tables e below (s₁.setTop (entryFrame m #[(.ref a1)] 5)) tq := fun tq kq => pre28 tq (st29.trans kq)
  have K29 : Keep h0 T29.heap [a1, al] := Keep.trans K11 Kq29 all0
  have f36 := f16.keep Kq29
  have f37 := f17.keep Kq29 (List.not_mem_nil)
  have f38 := f18.keep Kq29 (List.not_mem_nil)
  have f39 := f19.keep Kq29 (List.not_mem_nil)
  have f40 := f20.keep Kq29 (List.not_mem_nil)
  have f41 := f21.keep Kq29
  have f42 := f22.keep Kq29 (List.not_mem_nil)
  have f43 := f23.keep Kq29 (List.not_mem_nil)
  have f44 := f24.keep Kq29 (List.not_mem_nil)
  have f45 := f25.keep Kq29 (List.not_mem_nil)
  have g_r30 : n0 ≤ r30 := Nat.le_trans Z29 f34
  have sz_r30 : h0.size ≤ r30 := Nat.le_trans (Nat.le_trans (Nat.le_refl h0.size) E11.1) f34
  have ne46 : a1 ≠ r30 := Nat.ne_of_lt (Nat.lt_of_lt_of_le f16.lt f34)
  have ne47 : y ≠ r30 := Nat.ne_of_lt (Nat.lt_of_lt_of_le f20.lt f34)
  have ne48 : al ≠ r30 := Nat.ne_of_lt (Nat.lt_of_lt_of_le f21.lt f34)
  have ne49 : b11 ≠ r30 := Nat.ne_of_lt (Nat.lt_of_lt_of_le f25.lt f34)
  have pre50 : ∀ tq, Steps p.tables e below (T29.setTop (mkF m 33 #[.val (.ref a1), .val (.ref b11), .val (.int (0 : Int32)), .val (.ref r30), .unset] [(.ref r30)])) tq → Steps p.tables e below (s₁.setTop (entryFrame m #[(.ref a1)] 5)) tq := by
    refine fun tq kq => pre35 tq ?_
    show Steps p.tables e below (T29.setTop (mkF m 31 #[.val (.ref a1), .val (.ref b11), .val (.int (0 : Int32)), .unset, .unset] [(.ref r30)])) _
    refine XS.astoreN X29.here hx rfl (hb hby d9_0_31) rfl rfl (l' := #[.val (.ref a1), .val (.ref b11), .val (.int (0 : Int32)), .val (.ref r30), .unset]) rfl ?_
    show Steps p.tables e below (T29.setTop (mkF m 32 #[.val (.ref a1), .val (.ref b11), .val (.int (0 : Int32)), .val (.ref r30), .unset] [])) _
    refine XS.aloadN X29.here hx rfl (hb hby d9_0_32) rfl rfl ?_
    exact kq
  have Z51 : n0 ≤ T29.heap.size := (Nat.le_trans Z29 Kq29.1)
  obtain ⟨cq51, kq51, q51a, q51b, q51c⟩ := isOf hZ rfl f31
  obtain ⟨_, _, ⟨T51, L51, k51, n51⟩, -, X51, ⟨Lc51, hQ51, l51, y51, z51⟩, st51⟩ := X29.interfaceBack hx (xi := (⟨"java/util/Iterator", "hasNext", "()Z"⟩ : MethodName)) (y := (⟨"java/util/ArrayList$Itr", "hasNext", "()Z"⟩ : MethodName)) hown (mvT hZ (hw _ (List.mem_of_getElem? (i := 98) rfl))) (mvT hZ (hw _ (List.mem_of_getElem? (i := 99) rfl))) (mvT hZ (hw _ (List.mem_of_getElem? (i := 100) rfl))) (mvT hZ (hw _ (List.mem_of_getElem? (i := 101) rfl))) (mvT hZ (hw _ (List.mem_of_getElem? (i := 102) rfl))) (mvT hZ (hw _ (List.mem_of_getElem? (i := 103) rfl))) (mvT hZ (hw _ (List.mem_of_getElem? (i := 104) rfl))) (mvT hZ (hw _ (List.mem_of_getElem? (i := 105) rfl))) (by decide) (backOf (W := 0) (rm13 l Z a0 hw [] r30 al T29.heap n0 Z51 f33 f32 f44) hZ (hw _ (List.mem_of_getElem? (i := 106) rfl)) (hw _ (List.mem_of_getElem? (i := 84) rfl)) (by decide) (by decide)) q51a q51b q51c (g := (mkF m 33 #[.val (.ref a1), .val (.ref b11), .val (.int (0 : Int32)), .val (.ref r30), .unset] [(.ref r30)])) rfl (by rw [hml]; rfl) (Steps.refl _) (argsL := []) (rest := []) (lenOf pd9_0_2 rfl) rfl (by show 2 * 0 + _ ≤ _; exact Nat.le_of_eq rfl) (hb hby d9_0_33) (fun _ _ => ⟨rfl, rfl, (by decide : (((0 + 0) + 1) + 1) + 0 ≤ _), (by decide : (((0 + 0) + 0) + 4) + 0 ≤ _)⟩)
  dsimp only [Pt.U, Pt.locs, Pt.cells, Pt.slots] at X51 l51 y51 z51 st51 hQ51
  subst l51 y51 z51
  obtain ⟨r52, rfl, Nq51, ehq51, hq51⟩ := hQ51
  have N51 := Fr.app N29 Nq51
  have pre53 : ∀ tq, Steps p.tables e below (T51.setTop (mkF m 38 #[.val (.ref a1), .val (.ref b11), .val (.int (0 : Int32)), .val (.ref r30), .unset] [(.int r52)])) tq → Steps p.tables e below (s₁.setTop (entryFrame m #[(.ref a1)] 5)) tq := fun tq kq => pre50 tq (st51.trans kq)
  subst hq51
  have pre54 : ∀ tq, Steps p.tables e below (T51.setTop (mkF m 70 #[.val (.ref a1), .val (.ref b11), .val (.int (0 : Int32)), .val (.ref r30), .unset] [])) tq → Steps p.tables e below (s₁.setTop (entryFrame m #[(.ref a1)] 5)) tq := by
    refine fun tq kq => pre53 tq ?_
    show Steps p.tables e below (T51.setTop (mkF m 38 #[.val (.ref a1), .val (.ref b11), .val (.int (0 : Int32)), .val (.ref r30), .unset] [(.int (0 : Int32))])) _
    refine XS.ifYes X51.here hx rfl (pc0 := 38) (pc' := 70) rfl (hb hby d9_0_38) rfl ((if0 _ _).trans (teq (by decide : (0 : Int32) = (0 : Int32))).1) (by decide) (by decide) ?_
    exact kq
  have pre55 : ∀ tq, Steps p.tables e below (T51.setTop (mkF m 71 #[.val (.ref a1), .val (.ref b11), .val (.int (0 : Int32)), .val (.ref r30), .unset] [(.ref a1)])) tq → Steps p.tables e below (s₁.setTop (entryFrame m #[(.ref a1)] 5)) tq := by
    refine fun tq kq => pre54 tq ?_
    show Steps p.tables e below (T51.setTop (mkF m 70 #[.val (.ref a1), .val (.ref b11), .val (.int (0 : Int32)), .val (.ref r30), .unset] [])) _
    refine XS.aloadN X51.here hx rfl (hb hby d9_0_70) rfl rfl ?_
    exact kq
  obtain ⟨T56, X56, e56, st56⟩ := getF X51 hx hZ hown (host := "") (Or.inl (hw _ (List.mem_of_getElem? (i := 37) rfl))) Via.refl ehq51 f39 (g := (mkF m 71 #[.val (.ref a1), .val (.ref b11), .val (.int (0 : Int32)), .val (.ref r30), .unset] [(.ref a1)])) rfl rfl (hb hby d9_0_71)
  have pre57 : ∀ tq, Steps p.tables e below (T56.setTop (mkF m 74 #[.val (.ref a1), .val (.ref b11), .val (.int (0 : Int32)), .val (.ref r30), .unset] [(.ref y)])) tq → Steps p.tables e below (s₁.setTop (entryFrame m #[(.ref a1)] 5)) tq := fun tq kq => pre55 tq (st56 _ kq)
  have pre58 : ∀ tq, Steps p.tables e below (T56.setTop (mkF m 78 #[.val (.ref a1), .val (.ref b11), .val (.int (0 : Int32)), .val (.ref r30), .unset] [(.ref a1), (.int (0 : Int32)), (.ref b11), (.int (0 : Int32)), (.ref y)])) tq → Steps p.tables e below (s₁.setTop (entryFrame m #[(.ref a1)] 5)) tq := by
    refine fun tq kq => pre57 tq ?_
    show Steps p.tables e below (T56.setTop (mkF m 74 #[.val (.ref a1), .val (.ref b11), .val (.int (0 : Int32)), .val (.ref r30), .unset] [(.ref y)])) _
    refine XS.iconst X56.here hx rfl (hb hby d9_0_74) ?_
    show Steps p.tables e below (T56.setTop (mkF m 75 #[.val (.ref a1), .val (.ref b11), .val (.int (0 : Int32)), .val (.ref r30), .unset] [(.int (0 : Int32)), (.ref y)])) _
    refine XS.aloadN X56.here hx rfl (hb hby d9_0_75) rfl rfl ?_
    show Steps p.tables e below (T56.setTop (mkF m 76 #[.val (.ref a1), .val (.ref b11), .val (.int (0 : Int32)), .val (.ref r30), .unset] [(.ref b11), (.int (0 : Int32)), (.ref y)])) _
    refine XS.iloadN X56.here hx rfl (hb hby d9_0_76) rfl ?_
    show Steps p.tables e below (T56.setTop (mkF m 77 #[.val (.ref a1), .val (.ref b11), .val (.int (0 : Int32)), .val (.ref r30), .unset] [(.int (0 : Int32)), (.ref b11), (.int (0 : Int32)), (.ref y)])) _
    refine XS.aloadN X56.here hx rfl (hb hby d9_0_77) rfl rfl ?_
    exact kq
  obtain ⟨T59, X59, e59, st59⟩ := getF X56 hx hZ hown (host := "") (Or.inl (hw _ (List.mem_of_getElem? (i := 44) rfl))) Via.refl e56 f38 (g := (mkF m 78 #[.val (.ref a1), .val (.ref b11), .val (.int (0 : Int32)), .val (.ref r30), .unset] [(.ref a1), (.int (0 : Int32)), (.ref b11), (.int (0 : Int32)), (.ref y)])) rfl rfl (hb hby d9_0_78)
  have pre60 : ∀ tq, Steps p.tables e below (T59.setTop (mkF m 81 #[.val (.ref a1), .val (.ref b11), .val (.int (0 : Int32)), .val (.ref r30), .unset] [(.int (0 : Int32)), (.int (0 : Int32)), (.ref b11), (.int (0 : Int32)), (.ref y)])) tq → Steps p.tables e below (s₁.setTop (entryFrame m #[(.ref a1)] 5)) tq := fun tq kq => pre58 tq (st59 _ kq)
  obtain ⟨T61, h61, Lc61, X61, e61, N61, Kq61, f62', st61⟩ := cpA X59 hx hZ hown (hw _ (List.mem_of_getElem? (i := 110) rfl)) (hw _ (List.mem_of_getElem? (i := 57) rfl)) (hw _ (List.mem_of_getElem? (i := 55) rfl)) (hw _ (List.mem_of_getElem? (i := 56) rfl)) e59 f40 f45 (us := []) (Or.inl ⟨rfl, rfl⟩) (by decide) (by decide) (by decide) (by decide) (by decide) rfl (by decide) N51 g_b11 (g := (mkF m 81 #[.val (.ref a1), .val (.ref b11), .val (.int (0 : Int32)), .val (.ref r30), .unset] [(.int (0 : Int32)), (.int (0 : Int32)), (.ref b11), (.int (0 : Int32)), (.ref y)])) rfl (by rw [hml]; rfl) (rest := []) rfl (hb hby d9_0_81) (by decide) (W := 0) (by show 2 * 0 + _ ≤ _; exact Nat.le_of_eq rfl) (by decide)
  have f62 : Arv Z h61 b11 k11 .double (0 : Int32) [] (.double 0) := f62'
  have pre63 : ∀ tq, Steps p.tables e below (T61.setTop (mkF m 84 #[.val (.ref a1), .val (.ref b11), .val (.int (0 : Int32)), .val (.ref r30), .unset] [])) tq → Steps p.tables e below (s₁.setTop (entryFrame m #[(.ref a1)] 5)) tq := fun tq kq => pre60 tq (st61 _ kq)
  have K61 : Keep h0 h61 [a1, al] := Keep.trans K29 Kq61 (allS (Or.inr sz_b11) all0)
  have f64 := f36.keep Kq61
  have f65 := f37.keep Kq61 (by simp only [List.mem_cons, List.not_mem_nil, or_false, not_or]; exact ne12)
  have f66 := f38.keep Kq61 (by simp only [List.mem_cons, List.not_mem_nil, or_false, not_or]; exact ne12)
  have f67 := f39.keep Kq61 (by simp only [List.mem_cons, List.not_mem_nil, or_false, not_or]; exact ne12)
  have f68 := f40.keep Kq61 (by simp only [List.mem_cons, List.not_mem_nil, or_false, not_or]; exact ne13)
  have f69 := f41.keep Kq61
  have f70 := f42.keep Kq61 (by simp only [List.mem_cons, List.not_mem_nil, or_false, not_or]; exact ne14)
  have f71 := f43.keep Kq61 (by simp only [List.mem_cons, List.not_mem_nil, or_false, not_or]; exact ne14)
  have f72 := f44.keep Kq61 (by simp only [List.mem_cons, List.not_mem_nil, or_false, not_or]; exact ne14)
  have f73 := f31.keep Kq61
  have f74 := f32.keep Kq61 (by simp only [List.mem_cons, List.not_mem_nil, or_false, not_or]; exact (Ne.symm ne49))
  have f75 := f33.keep Kq61 (by simp only [List.mem_cons, List.not_mem_nil, or_false, not_or]; exact (Ne.symm ne49))
  have pre76 : ∀ tq, Steps p.tables e below (T61.setTop (mkF m 85 #[.val (.ref a1), .val (.ref b11), .val (.int (0 : Int32)), .val (.ref r30), .unset] [(.ref a1)])) tq → Steps p.tables e below (s₁.setTop (entryFrame m #[(.ref a1)] 5)) tq := by
    refine fun tq kq => pre63 tq ?_
    show Steps p.tables e below (T61.setTop (mkF m 84 #[.val (.ref a1), .val (.ref b11), .val (.int (0 : Int32)), .val (.ref r30), .unset] [])) _
    refine XS.aloadN X61.here hx rfl (hb hby d9_0_84) rfl rfl ?_
    exact kq
  obtain ⟨T77, X77, e77, st77⟩ := getF X61 hx hZ hown (host := "") (Or.inl (hw _ (List.mem_of_getElem? (i := 33) rfl))) Via.refl e61 f65 (g := (mkF m 85 #[.val (.ref a1), .val (.ref b11), .val (.int (0 : Int32)), .val (.ref r30), .unset] [(.ref a1)])) rfl rfl (hb hby d9_0_85)
  have pre78 : ∀ tq, Steps p.tables e below (T77.setTop (mkF m 88 #[.val (.ref a1), .val (.ref b11), .val (.int (0 : Int32)), .val (.ref r30), .unset] [(.ref al)])) tq → Steps p.tables e below (s₁.setTop (entryFrame m #[(.ref a1)] 5)) tq := fun tq kq => pre76 tq (st77 _ kq)
  have Z79 : n0 ≤ h61.size := (Nat.le_trans (Nat.le_trans Z29 Kq29.1) Kq61.1)
  obtain ⟨cq79, kq79, q79a, q79b, q79c⟩ := isOf hZ e77 f69
  obtain ⟨_, _, ⟨T79, L79, k79, n79⟩, -, X79, ⟨Lc79, hQ79, l79, y79, z79⟩, st79⟩ := X77.interfaceBack hx (xi := (⟨"java/util/List", "clear", "()V"⟩ : MethodName)) (y := (⟨"java/util/ArrayList", "clear", "()V"⟩ : MethodName)) hown (mvT hZ (hw _ (List.mem_of_getElem? (i := 111) rfl))) (mvT hZ (hw _ (List.mem_of_getElem? (i := 112) rfl))) (mvT hZ (hw _ (List.mem_of_getElem? (i := 113) rfl))) (mvT hZ (hw _ (List.mem_of_getElem? (i := 114) rfl))) (mvT hZ (hw _ (List.mem_of_getElem? (i := 115) rfl))) (mvT hZ (hw _ (List.mem_of_getElem? (i := 116) rfl))) (mvT hZ (hw _ (List.mem_of_getElem? (i := 117) rfl))) (mvT hZ (hw _ (List.mem_of_getElem? (i := 70) rfl))) (by decide) (backOf (W := 0) (rm14 l Z a0 hw [] al sD (0 : Int32) h61 n0 Z79 f69 f70 f71 f72 g_al) hZ (hw _ (List.mem_of_getElem? (i := 118) rfl)) (hw _ (List.mem_of_getElem? (i := 11) rfl)) (by decide) (by decide)) q79a q79b q79c (g := (mkF m 88 #[.val (.ref a1), .val (.ref b11), .val (.int (0 : Int32)), .val (.ref r30), .unset] [(.ref al)])) rfl (by rw [hml]; rfl) (Steps.refl _) (argsL := []) (rest := []) (lenOf pd9_0_3 rfl) rfl (by show 2 * 0 + _ ≤ _; exact Nat.le_of_eq rfl) (hb hby d9_0_88) (fun _ _ => ⟨rfl, e77, (by decide : ((((0 + 0) + 1) + 1) + 0) + 0 ≤ _), (by decide : ((((0 + 0) + 0) + 4) + 0) + 0 ≤ _)⟩)
  dsimp only [Pt.U, Pt.locs, Pt.cells, Pt.slots] at X79 l79 y79 z79 st79 hQ79
  subst l79 y79 z79
  obtain ⟨rfl, Nq79, Kq79, hq79⟩ := hQ79
  have N79 := Fr.app N61 Nq79
  have pre80 : ∀ tq, Steps p.tables e below (T79.setTop (mkF m 93 #[.val (.ref a1), .val (.ref b11), .val (.int (0 : Int32)), .val (.ref r30), .unset] [])) tq → Steps p.tables e below (s₁.setTop (entryFrame m #[(.ref a1)] 5)) tq := fun tq kq => pre78 tq (st79.trans kq)
  have K79 : Keep h0 T79.heap [a1, al] := Keep.trans K61 Kq79 (allS (Or.inl (List.mem_of_getElem? (i := 1) rfl)) all0)
  have f81 := f64.keep Kq79
  have f82 := f65.keep Kq79 (by simp only [List.mem_cons, List.not_mem_nil, or_false, not_or]; exact ne_a1_al)
  have f83 := f66.keep Kq79 (by simp only [List.mem_cons, List.not_mem_nil, or_false, not_or]; exact ne_a1_al)
  have f84 := f67.keep Kq79 (by simp only [List.mem_cons, List.not_mem_nil, or_false, not_or]; exact ne_a1_al)
  have f85 := f68.keep Kq79 (by simp only [List.mem_cons, List.not_mem_nil, or_false, not_or]; exact (Ne.symm ne_al_y))
  have f86 := f69.keep Kq79
  have f87 := f73.keep Kq79
  have f88 := f74.keep Kq79 (by simp only [List.mem_cons, List.not_mem_nil, or_false, not_or]; exact (Ne.symm ne48))
  have f89 := f75.keep Kq79 (by simp only [List.mem_cons, List.not_mem_nil, or_false, not_or]; exact (Ne.symm ne48))
  have f90 := f62.keep Kq79 (by simp only [List.mem_cons, List.not_mem_nil, or_false, not_or]; exact (Ne.symm ne14))
  have pre91 : ∀ tq, Steps p.tables e below (T79.setTop (mkF m 95 #[.val (.ref a1), .val (.ref b11), .val (.int (0 : Int32)), .val (.ref r30), .unset] [.null, (.ref a1)])) tq → Steps p.tables e below (s₁.setTop (entryFrame m #[(.ref a1)] 5)) tq := by
    refine fun tq kq => pre80 tq ?_
    show Steps p.tables e below (T79.setTop (mkF m 93 #[.val (.ref a1), .val (.ref b11), .val (.int (0 : Int32)), .val (.ref r30), .unset] [])) _
    refine XS.aloadN X79.here hx rfl (hb hby d9_0_93) rfl rfl ?_
    show Steps p.tables e below (T79.setTop (mkF m 94 #[.val (.ref a1), .val (.ref b11), .val (.int (0 : Int32)), .val (.ref r30), .unset] [(.ref a1)])) _
    refine XS.aconstNull X79.here hx rfl (hb hby d9_0_94) ?_
    exact kq
  obtain ⟨T92, h92, X92, e92, W92, st92⟩ := putF X79 hx hZ hown (host := "") (Or.inl (hw _ (List.mem_of_getElem? (i := 37) rfl))) Via.refl rfl f84 f81 (Or.inl (hw _ (List.mem_of_getElem? (i := 38) rfl))) (hw _ (List.mem_of_getElem? (i := 1) rfl)) (ty := (.array .double)) (by decide) rfl rfl (g := (mkF m 95 #[.val (.ref a1), .val (.ref b11), .val (.int (0 : Int32)), .val (.ref r30), .unset] [.null, (.ref a1)])) rfl rfl (hb hby d9_0_95)
  have pre93 : ∀ tq, Steps p.tables e below (T92.setTop (mkF m 98 #[.val (.ref a1), .val (.ref b11), .val (.int (0 : Int32)), .val (.ref r30), .unset] [])) tq → Steps p.tables e below (s₁.setTop (entryFrame m #[(.ref a1)] 5)) tq := fun tq kq => pre91 tq (st92 _ kq)
  have N92 := Fr.snoc X92 N79 g_a1
  have K92 : Keep h0 h92 [a1, al] := Keep.wr K79 W92 (Or.inl (List.mem_of_getElem? (i := 0) rfl))
  have f94 := f81.wr W92
  have f95 := f82.other W92 (Or.inr (slot_ne (Or.inr (hw _ (List.mem_of_getElem? (i := 34) rfl))) (Or.inl (hw _ (List.mem_of_getElem? (i := 38) rfl))) (by decide) (t := (.object "java/util/List")) (t' := (.array .double)) (by decide) (by decide)))
  have f96 := f83.other W92 (Or.inr (slot_ne (Or.inl (hw _ (List.mem_of_getElem? (i := 45) rfl))) (Or.inl (hw _ (List.mem_of_getElem? (i := 38) rfl))) (by decide) (t := .int) (t' := (.array .double)) (by decide) (by decide)))
  have f97 := f85.other W92 (Ne.symm ne_a1_y)
  have f98 := f86.wr W92
  have f99 := f87.wr W92
  have f100 := f88.other W92 (Or.inl (Ne.symm ne46))
  have f101 := f89.other W92 (Or.inl (Ne.symm ne46))
  have f102 := f90.other W92 (Ne.symm ne12)
  have f103 := f84.same W92
  obtain ⟨fs, hr, hrun, hended, hW, hsame⟩ := X92.leave (v := some (.ref b11)) (fun h => by rw [Bd.returns] at h; cases h)
  refine ⟨_, _, pre93 _ ?_, hrun, hended, _, _, rfl, ?_, ⟨_, rfl⟩, hW, hsame.mono (by decide) (by decide)⟩
  · skip
    show Steps p.tables e below (T92.setTop (mkF m 98 #[.val (.ref a1), .val (.ref b11), .val (.int (0 : Int32)), .val (.ref r30), .unset] [])) _
    refine XS.aloadN X92.here hx rfl (hb hby d9_0_98) rfl rfl ?_
    show Steps p.tables e below (T92.setTop (mkF m 99 #[.val (.ref a1), .val (.ref b11), .val (.int (0 : Int32)), .val (.ref r30), .unset] [(.ref b11)])) _
    exact X92.areturnOut hx rfl Bd.returns rfl (hb hby d9_0_99) hr
  · show Q9_0 Z a1 al y k2 sD h0 n0 _ T92.heap _
    rw [e92]
    refine ⟨b11, k11, rfl, N92, K92, f102, sz_b11, ?_⟩
    trivial
/-! body 9_1 -/
theorem d9_1_0 : decode prog_82_method_5_code 0 = .ok (.aload_n 0, 1) := by decide +kernel
theorem d9_1_1 : decode prog_82_method_5_code 1 = .ok (.getfield 12, 3) := by decide +kernel
theorem d9_1_4 : decode prog_82_method_5_code 4 = .ok (.invokeinterface 31 1, 5) := by decide +kernel
theorem d9_1_9 : decode prog_82_method_5_code 9 = .ok (.ldc 16, 2) := by decide +kernel
theorem d9_1_11 : decode prog_82_method_5_code 11 = .ok (.imul, 1) := by decide +kernel
theorem d9_1_12 : decode prog_82_method_5_code 12 = .ok (.aload_n 0, 1) := by decide +kernel
theorem d9_1_13 : decode prog_82_method_5_code 13 = .ok (.getfield 21, 3) := by decide +kernel
theorem d9_1_16 : decode prog_82_method_5_code 16 = .ok (.iadd, 1) := by decide +kernel
theorem d9_1_17 : decode prog_82_method_5_code 17 = .ok (.newarray .double, 2) := by decide +kernel
theorem d9_1_19 : decode prog_82_method_5_code 19 = .ok (.astore_n 1, 1) := by decide +kernel
theorem d9_1_20 : decode prog_82_method_5_code 20 = .ok (.iconst 0, 1) := by decide +kernel
theorem d9_1_21 : decode prog_82_method_5_code 21 = .ok (.istore_n 2, 1) := by decide +kernel
theorem d9_1_22 : decode prog_82_method_5_code 22 = .ok (.aload_n 0, 1) := by decide +kernel
theorem d9_1_23 : decode prog_82_method_5_code 23 = .ok (.getfield 12, 3) := by decide +kernel
theorem d9_1_26 : decode prog_82_method_5_code 26 = .ok (.invokeinterface 46 1, 5) := by decide +kernel
theorem d9_1_31 : decode prog_82_method_5_code 31 = .ok (.astore_n 3, 1) := by decide +kernel
theorem d9_1_32 : decode prog_82_method_5_code 32 = .ok (.aload_n 3, 1) := by decide +kernel
theorem d9_1_33 : decode prog_82_method_5_code 33 = .ok (.invokeinterface 50 1, 5) := by decide +kernel
theorem d9_1_38 : decode prog_82_method_5_code 38 = .ok (.ifCond .eq 32, 3) := by decide +kernel
theorem d9_1_70 : decode prog_82_method_5_code 70 = .ok (.aload_n 0, 1) := by decide +kernel
theorem d9_1_71 : decode prog_82_method_5_code 71 = .ok (.getfield 17, 3) := by decide +kernel
theorem d9_1_74 : decode prog_82_method_5_code 74 = .ok (.iconst 0, 1) := by decide +kernel
theorem d9_1_75 : decode prog_82_method_5_code 75 = .ok (.aload_n 1, 1) := by decide +kernel
theorem d9_1_76 : decode prog_82_method_5_code 76 = .ok (.iload_n 2, 1) := by decide +kernel
theorem d9_1_77 : decode prog_82_method_5_code 77 = .ok (.aload_n 0, 1) := by decide +kernel
theorem d9_1_78 : decode prog_82_method_5_code 78 = .ok (.getfield 21, 3) := by decide +kernel
theorem d9_1_81 : decode prog_82_method_5_code 81 = .ok (.invokestatic 60, 3) := by decide +kernel
theorem d9_1_84 : decode prog_82_method_5_code 84 = .ok (.aload_n 0, 1) := by decide +kernel
theorem d9_1_85 : decode prog_82_method_5_code 85 = .ok (.getfield 12, 3) := by decide +kernel
theorem d9_1_88 : decode prog_82_method_5_code 88 = .ok (.invokeinterface 66 1, 5) := by decide +kernel
theorem d9_1_93 : decode prog_82_method_5_code 93 = .ok (.aload_n 0, 1) := by decide +kernel
theorem d9_1_94 : decode prog_82_method_5_code 94 = .ok (.aconst_null, 1) := by decide +kernel
theorem d9_1_95 : decode prog_82_method_5_code 95 = .ok (.putfield 17, 3) := by decide +kernel
theorem d9_1_98 : decode prog_82_method_5_code 98 = .ok (.aload_n 1, 1) := by decide +kernel
theorem d9_1_99 : decode prog_82_method_5_code 99 = .ok (.areturn, 1) := by decide +kernel
theorem pn_9_1 : plainName "com/example/crisp_haptics/crisphaptics/SampleBlocks" = true := by first | (simp [plainName, overriddenIn]; done) | decide +kernel
theorem pd9_1_0 : parseMethodDescriptor "()I" = some ⟨[], some .int⟩ := by decide +kernel
theorem pd9_1_1 : parseMethodDescriptor "()Ljava/util/Iterator;" = some ⟨[], some (.object "java/util/Iterator")⟩ := by decide +kernel
theorem pd9_1_2 : parseMethodDescriptor "()Z" = some ⟨[], some .boolean⟩ := by decide +kernel
theorem pd9_1_3 : parseMethodDescriptor "()V" = some ⟨[], none⟩ := by decide +kernel
theorem ef_9_1 (m : MethodId) (a1 : Addr) : entryFrame m #[(.ref a1)] 5 = mkF m 0 #[.val (.ref a1), .unset, .unset, .unset, .unset] [] := by first | (simp [entryFrame, mkF, argsToLocals, Value.category]; done) | rfl
def Q9_1 (Z : State) (a1 : Addr) (al : Addr) (y : Addr) (k2 : ClassId) (sD : Addr) (u0 : UInt64) (h0 : Heap) (n0 : Nat) (v : Option Value) (h : Heap) (L : List Loc) : Prop := ∃ r : Addr, ∃ k3 : ClassId, v = some (.ref r) ∧ Fr n0 L ∧ Keep h0 h [a1, al] ∧ Arv Z h r k3 .double (1 : Int32) [(.double u0)] (.double 0) ∧ h0.size ≤ r ∧ (True)
set_option maxRecDepth 65536 in
set_option maxHeartbeats 40000000 in
theorem rm9_1 (l : Launch) (Z : State) (a0 : Array Value) (hw : ∀ d ∈ tables_1, d.before a0 Z = true) (ws : List Jvm.Cond) (a1 : Addr) (al : Addr) (y : Addr) (k2 : ClassId) (sD : Addr) (u0 : UInt64) (h0 : Heap) (n0 : Nat) (Z0 : n0 ≤ h0.size) (E_a1 : Exa Z h0 a1 "com/example/crisp_haptics/crisphaptics/SampleBlocks") (F_fullBlocks_a1 : Fld Z h0 a1 "com/example/crisp_haptics/crisphaptics/SampleBlocks" "fullBlocks" "Ljava/util/List;" (.ref al)) (F_inBlock_a1 : Fld Z h0 a1 "com/example/crisp_haptics/crisphaptics/SampleBlocks" "inBlock" "I" (.int (1 : Int32))) (F_block_a1 : Fld Z h0 a1 "com/example/crisp_haptics/crisphaptics/SampleBlocks" "block" "[D" (.ref y)) (V_y : Arv Z h0 y k2 .double (1 : Int32) [(.double u0)] (.double 0)) (E_al : Exa Z h0 al "java/util/ArrayList") (F_modCount_al : Fld Z h0 al "java/util/AbstractList" "modCount" "I" (.int (0 : Int32))) (F_elementData_al : Fld Z h0 al "java/util/ArrayList" "elementData" "[Ljava/lang/Object;" (.ref sD)) (F_size_al : Fld Z h0 al "java/util/ArrayList" "size" "I" (.int (0 : Int32))) (g_a1 : n0 ≤ a1) (g_al : n0 ≤ al) (ne_a1_al : a1 ≠ al) (ne_a1_y : a1 ≠ y) (ne_al_y : al ≠ y) :
    MetFree l (⟨"com/example/crisp_haptics/crisphaptics/SampleBlocks", "moveToArray", "()[D"⟩ : MethodName) (head1 (Jvm.Cond.code (⟨"com/example/crisp_haptics/crisphaptics/SampleBlocks", "moveToArray", "()[D"⟩ : MethodName) prog_82_method_5_code 5 (some (.array .double)) :: ws) ({ frames := 3, cells := 2, slots := 5, locals := 40 } : Room)) (fun a U => a = #[(.ref a1)] ∧ Z.Warmed39 U.vm ∧ U.heap = h0) (fun _ _ _ _ _ => True) (fun _ U o U' => ∃ v L, o = .returned v ∧ Q9_1 Z a1 al y k2 sD u0 h0 n0 v U'.heap L ∧ FrameEnd U o U' L ({ frames := 3, cells := 2, slots := 5, locals := 40 } : Room).cells ({ frames := 3, cells := 2, slots := 5, locals := 40 } : Room).slots) := by
  refine MetFree.of_bodySF (plainFor_of_name pn_9_1) hisR ?_
  intro p e s m args below meth c s₁ Bd hml0 hP hK
  obtain ⟨rfl, hZ, hh⟩ := hP
  have hx := Bd.exec
  have hby := Bd.bytes
  have hml : c.maxLocals = 5 := hml0
  have hown : s.vm.findClass "com/example/crisp_haptics/crisphaptics/SampleBlocks" = some m.cls := findClass_of_methodNamed Bd.named
  have hnm := (name_of_methodNamed Bd.named Bd.method).1
  have X0 : Stand p l e ({ frames := 3, cells := 2, slots := 5, locals := 40 } : Room) s m #[(.ref a1)] below meth c s₁ [] 0 0 := Stand.of_body Bd
  have e0 : s₁.heap = h0 := by rw [← hh, Bd.state]; rfl
  have N0 := Fr.nil n0
  have pre0 : ∀ tq, Steps p.tables e below (s₁.setTop (mkF m 0 #[.val (.ref a1), .unset, .unset, .unset, .unset] [])) tq → Steps p.tables e below (s₁.setTop (entryFrame m #[(.ref a1)] 5)) tq := fun tq kq => castTop (ef_9_1 m a1) kq
  have pre1 : ∀ tq, Steps p.tables e below (s₁.setTop (mkF m 1 #[.val (.ref a1), .unset, .unset, .unset, .unset] [(.ref a1)])) tq → Steps p.tables e below (s₁.setTop (entryFrame m #[(.ref a1)] 5)) tq := by
    refine fun tq kq => pre0 tq ?_
    show Steps p.tables e below (s₁.setTop (mkF m 0 #[.val (.ref a1), .unset, .unset, .unset, .unset] [])) _
    refine XS.aloadN X0.here hx rfl (hb hby d9_1_0) rfl rfl ?_
    exact kq
  obtain ⟨T2, X2, e2, st2⟩ := getF X0 hx hZ hown (host := "") (Or.inl (hw _ (List.mem_of_getElem? (i := 33) rfl))) Via.refl e0 F_fullBlocks_a1 (g := (mkF m 1 #[.val (.ref a1), .unset, .unset, .unset, .unset] [(.ref a1)])) rfl rfl (hb hby d9_1_1)
  have pre3 : ∀ tq, Steps p.tables e below (T2.setTop (mkF m 4 #[.val (.ref a1), .unset, .unset, .unset, .unset] [(.ref al)])) tq → Steps p.tables e below (s₁.setTop (entryFrame m #[(.ref a1)] 5)) tq := fun tq kq => pre1 tq (st2 _ kq)
  have Z4 : n0 ≤ h0.size := Z0
  obtain ⟨cq4, kq4, q4a, q4b, q4c⟩ := isOf hZ e2 E_al
  obtain ⟨_, _, ⟨T4, L4, k4, n4⟩, -, X4, ⟨Lc4, hQ4, l4, y4, z4⟩, st4⟩ := X2.interfaceBack hx (xi := (⟨"java/util/List", "size", "()I"⟩ : MethodName)) (y := (⟨"java/util/ArrayList", "size", "()I"⟩ : MethodName)) hown (mvT hZ (hw _ (List.mem_of_getElem? (i := 63) rfl))) (mvT hZ (hw _ (List.mem_of_getElem? (i := 64) rfl))) (mvT hZ (hw _ (List.mem_of_getElem? (i := 65) rfl))) (mvT hZ (hw _ (List.mem_of_getElem? (i := 66) rfl))) (mvT hZ (hw _ (List.mem_of_getElem? (i := 67) rfl))) (mvT hZ (hw _ (List.mem_of_getElem? (i := 68) rfl))) (mvT hZ (hw _ (List.mem_of_getElem? (i := 69) rfl))) (mvT hZ (hw _ (List.mem_of_getElem? (i := 70) rfl))) (by decide) (backOf (W := 0) (rm10 l Z a0 hw [] al (0 : Int32) h0 n0 Z4 F_size_al) hZ (hw _ (List.mem_of_getElem? (i := 71) rfl)) (hw _ (List.mem_of_getElem? (i := 11) rfl)) (by decide) (by decide)) q4a q4b q4c (g := (mkF m 4 #[.val (.ref a1), .unset, .unset, .unset, .unset] [(.ref al)])) rfl (by rw [hml]; rfl) (Steps.refl _) (argsL := []) (rest := []) (lenOf pd9_1_0 rfl) rfl (by show 2 * 0 + _ ≤ _; exact Nat.le_of_eq rfl) (hb hby d9_1_4) (fun _ _ => ⟨rfl, e2, (by decide : 0 + 0 ≤ _), (by decide : 0 + 0 ≤ _)⟩)
  dsimp only [Pt.U, Pt.locs, Pt.cells, Pt.slots] at X4 l4 y4 z4 st4 hQ4
  subst l4 y4 z4
  obtain ⟨r5, rfl, Nq4, ehq4, hq4⟩ := hQ4
  have N4 := Fr.app N0 Nq4
  have pre6 : ∀ tq, Steps p.tables e below (T4.setTop (mkF m 9 #[.val (.ref a1), .unset, .unset, .unset, .unset] [(.int r5)])) tq → Steps p.tables e below (s₁.setTop (entryFrame m #[(.ref a1)] 5)) tq := fun tq kq => pre3 tq (st4.trans kq)
  subst hq4
  have pre7 : ∀ tq, Steps p.tables e below (T4.setTop (mkF m 13 #[.val (.ref a1), .unset, .unset, .unset, .unset] [(.ref a1), (.int (0 : Int32))])) tq → Steps p.tables e below (s₁.setTop (entryFrame m #[(.ref a1)] 5)) tq := by
    refine fun tq kq => pre6 tq ?_
    show Steps p.tables e below (T4.setTop (mkF m 9 #[.val (.ref a1), .unset, .unset, .unset, .unset] [(.int (0 : Int32))])) _
    refine X4.ldcInt hx hown (mvT hZ (hw _ (List.mem_of_getElem? (i := 35) rfl))) (g := (mkF m 9 #[.val (.ref a1), .unset, .unset, .unset, .unset] [(.int (0 : Int32))])) rfl (hb hby d9_1_9) _ ?_
    show Steps p.tables e below (T4.setTop (mkF m 11 #[.val (.ref a1), .unset, .unset, .unset, .unset] [(.int (32768 : Int32)), (.int (0 : Int32))])) _
    refine XS.imul X4.here hx rfl (hb hby d9_1_11) rfl ?_
    show Steps p.tables e below (T4.setTop (mkF m 12 #[.val (.ref a1), .unset, .unset, .unset, .unset] [(.int (0 : Int32))])) _
    refine XS.aloadN X4.here hx rfl (hb hby d9_1_12) rfl rfl ?_
    exact kq
  obtain ⟨T8, X8, e8, st8⟩ := getF X4 hx hZ hown (host := "") (Or.inl (hw _ (List.mem_of_getElem? (i := 44) rfl))) Via.refl ehq4 F_inBlock_a1 (g := (mkF m 13 #[.val (.ref a1), .unset, .unset, .unset, .unset] [(.ref a1), (.int (0 : Int32))])) rfl rfl (hb hby d9_1_13)
  have pre9 : ∀ tq, Steps p.tables e below (T8.setTop (mkF m 16 #[.val (.ref a1), .unset, .unset, .unset, .unset] [(.int (1 : Int32)), (.int (0 : Int32))])) tq → Steps p.tables e below (s₁.setTop (entryFrame m #[(.ref a1)] 5)) tq := fun tq kq => pre7 tq (st8 _ kq)
  have pre10 : ∀ tq, Steps p.tables e below (T8.setTop (mkF m 17 #[.val (.ref a1), .unset, .unset, .unset, .unset] [(.int (1 : Int32))])) tq → Steps p.tables e below (s₁.setTop (entryFrame m #[(.ref a1)] 5)) tq := by
    refine fun tq kq => pre9 tq ?_
    show Steps p.tables e below (T8.setTop (mkF m 16 #[.val (.ref a1), .unset, .unset, .unset, .unset] [(.int (1 : Int32)), (.int (0 : Int32))])) _
    refine XS.iadd X8.here hx rfl (hb hby d9_1_16) rfl ?_
    exact kq
  obtain ⟨T11, h11, k11, X11, e11, E11, A11, st11⟩ := newP X8 hx hZ (hw _ (List.mem_of_getElem? (i := 36) rfl)) e8 (g := (mkF m 17 #[.val (.ref a1), .unset, .unset, .unset, .unset] [(.int (1 : Int32))])) rfl (hb hby d9_1_17) rfl (by decide) (cap := 1) (by decide) (by decide) (by decide) (by decide)
  obtain ⟨b11, g11⟩ : ∃ z, z = h0.size := ⟨_, rfl⟩
  rw [← g11] at A11 st11
  have g_b11 : n0 ≤ b11 := Nat.le_trans Z0 (Nat.le_of_eq g11.symm)
  have sz_b11 : h0.size ≤ b11 := Nat.le_trans (Nat.le_refl h0.size) (Nat.le_of_eq g11.symm)
  have ne12 : a1 ≠ b11 := Nat.ne_of_lt (Nat.lt_of_lt_of_le E_a1.lt (Nat.le_of_eq g11.symm))
  have ne13 : y ≠ b11 := Nat.ne_of_lt (Nat.lt_of_lt_of_le V_y.lt (Nat.le_of_eq g11.symm))
  have ne14 : al ≠ b11 := Nat.ne_of_lt (Nat.lt_of_lt_of_le E_al.lt (Nat.le_of_eq g11.symm))
  have pre15 : ∀ tq, Steps p.tables e below (T11.setTop (mkF m 19 #[.val (.ref a1), .unset, .unset, .unset, .unset] [(.ref b11)])) tq → Steps p.tables e below (s₁.setTop (entryFrame m #[(.ref a1)] 5)) tq := fun tq kq => pre10 tq (st11 _ kq)
  have f16 := E_a1.ext E11
  have f17 := F_fullBlocks_a1.ext E11
  have f18 := F_inBlock_a1.ext E11
  have f19 := F_block_a1.ext E11
  have f20 := V_y.ext E11
  have f21 := E_al.ext E11
  have f22 := F_modCount_al.ext E11
  have f23 := F_elementData_al.ext E11
  have f24 := F_size_al.ext E11
  have K11 : Keep h0 h11 [a1, al] := Keep.ext (Keep.refl h0 [a1, al]) E11
  have f25 : Arv Z h11 b11 k11 .double (1 : Int32) [(.double 0)] (.double 0) := (Arv.new A11 (by decide)).pad (pad_rep [] (.double 0) 1)
  have pre26 : ∀ tq, Steps p.tables e below (T11.setTop (mkF m 23 #[.val (.ref a1), .val (.ref b11), .val (.int (0 : Int32)), .unset, .unset] [(.ref a1)])) tq → Steps p.tables e below (s₁.setTop (entryFrame m #[(.ref a1)] 5)) tq := by
    refine fun tq kq => pre15 tq ?_
    show Steps p.tables e below (T11.setTop (mkF m 19 #[.val (.ref a1), .unset, .unset, .unset, .unset] [(.ref b11)])) _
    refine XS.astoreN X11.here hx rfl (hb hby d9_1_19) rfl rfl (l' := #[.val (.ref a1), .val (.ref b11), .unset, .unset, .unset]) rfl ?_
    show Steps p.tables e below (T11.setTop (mkF m 20 #[.val (.ref a1), .val (.ref b11), .unset, .unset, .unset] [])) _
    refine XS.iconst X11.here hx rfl (hb hby d9_1_20) ?_
    show Steps p.tables e below (T11.setTop (mkF m 21 #[.val (.ref a1), .val (.ref b11), .unset, .unset, .unset] [(.int (0 : Int32))])) _
    refine XS.istoreN X11.here hx rfl (hb hby d9_1_21) rfl (l' := #[.val (.ref a1), .val (.ref b11), .val (.int (0 : Int32)), .unset, .unset]) rfl ?_
    show Steps p.tables e below (T11.setTop (mkF m 22 #[.val (.ref a1), .val (.ref b11), .val (.int (0 : Int32)), .unset, .unset] [])) _
    refine XS.aloadN X11.here hx rfl (hb hby d9_1_22) rfl rfl ?_
    exact kq
  obtain ⟨T27, X27, e27, st27⟩ := getF X11 hx hZ hown (host := "") (Or.inl (hw _ (List.mem_of_getElem? (i := 33) rfl))) Via.refl e11 f17 (g := (mkF m 23 #[.val (.ref a1), .val (.ref b11), .val (.int (0 : Int32)), .unset, .unset] [(.ref a1)])) rfl rfl (hb hby d9_1_23)
  have pre28 : ∀ tq, Steps p.tables e below (T27.setTop (mkF m 26 #[.val (.ref a1), .val (.ref b11), .val (.int (0 : Int32)), .unset, .unset] [(.ref al)])) tq → Steps p.tables e below (s₁.setTop (entryFrame m #[(.ref a1)] 5)) tq := fun tq kq => pre26 tq (st27 _ kq)
  have Z29 : n0 ≤ h11.size := (Nat.le_trans Z0 E11.1)
  obtain ⟨cq29, kq29, q29a, q29b, q29c⟩ := isOf hZ e27 f21
  obtain ⟨_, _, ⟨T29, L29, k29, n29⟩, -, X29, ⟨Lc29, hQ29, l29, y29, z29⟩, st29⟩ := X27.interfaceBack hx (xi := (⟨"java/util/List", "iterator", "()Ljava/util/Iterator;"⟩ : MethodName)) (y := (⟨"java/util/ArrayList", "iterator", "()Ljava/util/Iterator;"⟩ : MethodName)) hown (mvT hZ (hw _ (List.mem_of_getElem? (i := 74) rfl))) (mvT hZ (hw _ (List.mem_of_getElem? (i := 75) rfl))) (mvT hZ (hw _ (List.mem_of_getElem? (i := 76) rfl))) (mvT hZ (hw _ (List.mem_of_getElem? (i := 77) rfl))) (mvT hZ (hw _ (List.mem_of_getElem? (i := 78) rfl))) (mvT hZ (hw _ (List.mem_of_getElem? (i := 79) rfl))) (mvT hZ (hw _ (List.mem_of_getElem? (i := 80) rfl))) (mvT hZ (hw _ (List.mem_of_getElem? (i := 70) rfl))) (by decide) (backOf (W := 0) (rm11 l Z a0 hw [] al (0 : Int32) h11 n0 Z29 f21 f22) hZ (hw _ (List.mem_of_getElem? (i := 81) rfl)) (hw _ (List.mem_of_getElem? (i := 11) rfl)) (by decide) (by decide)) q29a q29b q29c (g := (mkF m 26 #[.val (.ref a1), .val (.ref b11), .val (.int (0 : Int32)), .unset, .unset] [(.ref al)])) rfl (by rw [hml]; rfl) (Steps.refl _) (argsL := []) (rest := []) (lenOf pd9_1_1 rfl) rfl (by show 2 * 0 + _ ≤ _; exact Nat.le_of_eq rfl) (hb hby d9_1_26) (fun _ _ => ⟨rfl, e27, (by decide : ((0 + 0) + 1) + 1 ≤ _), (by decide : ((0 + 0) + 1) + 4 ≤ _)⟩)
  dsimp only [Pt.U, Pt.locs, Pt.cells, Pt.slots] at X29 l29 y29 z29 st29 hQ29
  subst l29 y29 z29
  obtain ⟨r30, rfl, Nq29, Kq29, f31, f32, f33, f34, hq29⟩ := hQ29
  have N29 := Fr.app N4 Nq29
  have pre35 : ∀ tq, Steps p.tables e below (T29.setTop (mkF m 31 #[.val (.ref a1), .val (.ref b11), .val (.int (0 : Int32)), .unset, .unset] [(.ref r30)])) tq → Steps p.tables e below (s₁.setTop (entryFrame m #[(.ref a1)] 5)) tq := fun tq kq => pre28 tq (st29.trans kq)
  have K29 : Keep h0 T29.heap [a1, al] := Keep.trans K11 Kq29 all0
  have f36 := f16.keep Kq29
  have f37 := f17.keep Kq29 (List.not_mem_nil)
  have f38 := f18.keep Kq29 (List.not_mem_nil)
  have f39 := f19.keep Kq29 (List.not_mem_nil)
  have f40 := f20.keep Kq29 (List.not_mem_nil)
  have f41 := f21.keep Kq29
  have f42 := f22.keep Kq29 (List.not_mem_nil)
  have f43 := f23.keep Kq29 (List.not_mem_nil)
  have f44 := f24.keep Kq29 (List.not_mem_nil)
  have f45 := f25.keep Kq29 (List.not_mem_nil)
  have g_r30 : n0 ≤ r30 := Nat.le_trans Z29 f34
  have sz_r30 : h0.size ≤ r30 := Nat.le_trans (Nat.le_trans (Nat.le_refl h0.size) E11.1) f34
  have ne46 : a1 ≠ r30 := Nat.ne_of_lt (Nat.lt_of_lt_of_le f16.lt f34)
  have ne47 : y ≠ r30 := Nat.ne_of_lt (Nat.lt_of_lt_of_le f20.lt f34)
  have ne48 : al ≠ r30 := Nat.ne_of_lt (Nat.lt_of_lt_of_le f21.lt f34)
  have ne49 : b11 ≠ r30 := Nat.ne_of_lt (Nat.lt_of_lt_of_le f25.lt f34)
  have pre50 : ∀ tq, Steps p.tables e below (T29.setTop (mkF m 33 #[.val (.ref a1), .val (.ref b11), .val (.int (0 : Int32)), .val (.ref r30), .unset] [(.ref r30)])) tq → Steps p.tables e below (s₁.setTop (entryFrame m #[(.ref a1)] 5)) tq := by
    refine fun tq kq => pre35 tq ?_
    show Steps p.tables e below (T29.setTop (mkF m 31 #[.val (.ref a1), .val (.ref b11), .val (.int (0 : Int32)), .unset, .unset] [(.ref r30)])) _
    refine XS.astoreN X29.here hx rfl (hb hby d9_1_31) rfl rfl (l' := #[.val (.ref a1), .val (.ref b11), .val (.int (0 : Int32)), .val (.ref r30), .unset]) rfl ?_
    show Steps p.tables e below (T29.setTop (mkF m 32 #[.val (.ref a1), .val (.ref b11), .val (.int (0 : Int32)), .val (.ref r30), .unset] [])) _
    refine XS.aloadN X29.here hx rfl (hb hby d9_1_32) rfl rfl ?_
    exact kq
  have Z51 : n0 ≤ T29.heap.size := (Nat.le_trans Z29 Kq29.1)
  obtain ⟨cq51, kq51, q51a, q51b, q51c⟩ := isOf hZ rfl f31
  obtain ⟨_, _, ⟨T51, L51, k51, n51⟩, -, X51, ⟨Lc51, hQ51, l51, y51, z51⟩, st51⟩ := X29.interfaceBack hx (xi := (⟨"java/util/Iterator", "hasNext", "()Z"⟩ : MethodName)) (y := (⟨"java/util/ArrayList$Itr", "hasNext", "()Z"⟩ : MethodName)) hown (mvT hZ (hw _ (List.mem_of_getElem? (i := 98) rfl))) (mvT hZ (hw _ (List.mem_of_getElem? (i := 99) rfl))) (mvT hZ (hw _ (List.mem_of_getElem? (i := 100) rfl))) (mvT hZ (hw _ (List.mem_of_getElem? (i := 101) rfl))) (mvT hZ (hw _ (List.mem_of_getElem? (i := 102) rfl))) (mvT hZ (hw _ (List.mem_of_getElem? (i := 103) rfl))) (mvT hZ (hw _ (List.mem_of_getElem? (i := 104) rfl))) (mvT hZ (hw _ (List.mem_of_getElem? (i := 105) rfl))) (by decide) (backOf (W := 0) (rm13 l Z a0 hw [] r30 al T29.heap n0 Z51 f33 f32 f44) hZ (hw _ (List.mem_of_getElem? (i := 106) rfl)) (hw _ (List.mem_of_getElem? (i := 84) rfl)) (by decide) (by decide)) q51a q51b q51c (g := (mkF m 33 #[.val (.ref a1), .val (.ref b11), .val (.int (0 : Int32)), .val (.ref r30), .unset] [(.ref r30)])) rfl (by rw [hml]; rfl) (Steps.refl _) (argsL := []) (rest := []) (lenOf pd9_1_2 rfl) rfl (by show 2 * 0 + _ ≤ _; exact Nat.le_of_eq rfl) (hb hby d9_1_33) (fun _ _ => ⟨rfl, rfl, (by decide : (((0 + 0) + 1) + 1) + 0 ≤ _), (by decide : (((0 + 0) + 1) + 4) + 0 ≤ _)⟩)
  dsimp only [Pt.U, Pt.locs, Pt.cells, Pt.slots] at X51 l51 y51 z51 st51 hQ51
  subst l51 y51 z51
  obtain ⟨r52, rfl, Nq51, ehq51, hq51⟩ := hQ51
  have N51 := Fr.app N29 Nq51
  have pre53 : ∀ tq, Steps p.tables e below (T51.setTop (mkF m 38 #[.val (.ref a1), .val (.ref b11), .val (.int (0 : Int32)), .val (.ref r30), .unset] [(.int r52)])) tq → Steps p.tables e below (s₁.setTop (entryFrame m #[(.ref a1)] 5)) tq := fun tq kq => pre50 tq (st51.trans kq)
  subst hq51
  have pre54 : ∀ tq, Steps p.tables e below (T51.setTop (mkF m 70 #[.val (.ref a1), .val (.ref b11), .val (.int (0 : Int32)), .val (.ref r30), .unset] [])) tq → Steps p.tables e below (s₁.setTop (entryFrame m #[(.ref a1)] 5)) tq := by
    refine fun tq kq => pre53 tq ?_
    show Steps p.tables e below (T51.setTop (mkF m 38 #[.val (.ref a1), .val (.ref b11), .val (.int (0 : Int32)), .val (.ref r30), .unset] [(.int (0 : Int32))])) _
    refine XS.ifYes X51.here hx rfl (pc0 := 38) (pc' := 70) rfl (hb hby d9_1_38) rfl ((if0 _ _).trans (teq (by decide : (0 : Int32) = (0 : Int32))).1) (by decide) (by decide) ?_
    exact kq
  have pre55 : ∀ tq, Steps p.tables e below (T51.setTop (mkF m 71 #[.val (.ref a1), .val (.ref b11), .val (.int (0 : Int32)), .val (.ref r30), .unset] [(.ref a1)])) tq → Steps p.tables e below (s₁.setTop (entryFrame m #[(.ref a1)] 5)) tq := by
    refine fun tq kq => pre54 tq ?_
    show Steps p.tables e below (T51.setTop (mkF m 70 #[.val (.ref a1), .val (.ref b11), .val (.int (0 : Int32)), .val (.ref r30), .unset] [])) _
    refine XS.aloadN X51.here hx rfl (hb hby d9_1_70) rfl rfl ?_
    exact kq
  obtain ⟨T56, X56, e56, st56⟩ := getF X51 hx hZ hown (host := "") (Or.inl (hw _ (List.mem_of_getElem? (i := 37) rfl))) Via.refl ehq51 f39 (g := (mkF m 71 #[.val (.ref a1), .val (.ref b11), .val (.int (0 : Int32)), .val (.ref r30), .unset] [(.ref a1)])) rfl rfl (hb hby d9_1_71)
  have pre57 : ∀ tq, Steps p.tables e below (T56.setTop (mkF m 74 #[.val (.ref a1), .val (.ref b11), .val (.int (0 : Int32)), .val (.ref r30), .unset] [(.ref y)])) tq → Steps p.tables e below (s₁.setTop (entryFrame m #[(.ref a1)] 5)) tq := fun tq kq => pre55 tq (st56 _ kq)
  have pre58 : ∀ tq, Steps p.tables e below (T56.setTop (mkF m 78 #[.val (.ref a1), .val (.ref b11), .val (.int (0 : Int32)), .val (.ref r30), .unset] [(.ref a1), (.int (0 : Int32)), (.ref b11), (.int (0 : Int32)), (.ref y)])) tq → Steps p.tables e below (s₁.setTop (entryFrame m #[(.ref a1)] 5)) tq := by
    refine fun tq kq => pre57 tq ?_
    show Steps p.tables e below (T56.setTop (mkF m 74 #[.val (.ref a1), .val (.ref b11), .val (.int (0 : Int32)), .val (.ref r30), .unset] [(.ref y)])) _
    refine XS.iconst X56.here hx rfl (hb hby d9_1_74) ?_
    show Steps p.tables e below (T56.setTop (mkF m 75 #[.val (.ref a1), .val (.ref b11), .val (.int (0 : Int32)), .val (.ref r30), .unset] [(.int (0 : Int32)), (.ref y)])) _
    refine XS.aloadN X56.here hx rfl (hb hby d9_1_75) rfl rfl ?_
    show Steps p.tables e below (T56.setTop (mkF m 76 #[.val (.ref a1), .val (.ref b11), .val (.int (0 : Int32)), .val (.ref r30), .unset] [(.ref b11), (.int (0 : Int32)), (.ref y)])) _
    refine XS.iloadN X56.here hx rfl (hb hby d9_1_76) rfl ?_
    show Steps p.tables e below (T56.setTop (mkF m 77 #[.val (.ref a1), .val (.ref b11), .val (.int (0 : Int32)), .val (.ref r30), .unset] [(.int (0 : Int32)), (.ref b11), (.int (0 : Int32)), (.ref y)])) _
    refine XS.aloadN X56.here hx rfl (hb hby d9_1_77) rfl rfl ?_
    exact kq
  obtain ⟨T59, X59, e59, st59⟩ := getF X56 hx hZ hown (host := "") (Or.inl (hw _ (List.mem_of_getElem? (i := 44) rfl))) Via.refl e56 f38 (g := (mkF m 78 #[.val (.ref a1), .val (.ref b11), .val (.int (0 : Int32)), .val (.ref r30), .unset] [(.ref a1), (.int (0 : Int32)), (.ref b11), (.int (0 : Int32)), (.ref y)])) rfl rfl (hb hby d9_1_78)
  have pre60 : ∀ tq, Steps p.tables e below (T59.setTop (mkF m 81 #[.val (.ref a1), .val (.ref b11), .val (.int (0 : Int32)), .val (.ref r30), .unset] [(.int (1 : Int32)), (.int (0 : Int32)), (.ref b11), (.int (0 : Int32)), (.ref y)])) tq → Steps p.tables e below (s₁.setTop (entryFrame m #[(.ref a1)] 5)) tq := fun tq kq => pre58 tq (st59 _ kq)
  obtain ⟨T61, h61, Lc61, X61, e61, N61, Kq61, f62', st61⟩ := cpA X59 hx hZ hown (hw _ (List.mem_of_getElem? (i := 110) rfl)) (hw _ (List.mem_of_getElem? (i := 57) rfl)) (hw _ (List.mem_of_getElem? (i := 55) rfl)) (hw _ (List.mem_of_getElem? (i := 56) rfl)) e59 f40 f45 (us := [(.double u0)]) (Or.inl ⟨rfl, rfl⟩) (by decide) (by decide) (by decide) (by decide) (by decide) rfl (by decide) N51 g_b11 (g := (mkF m 81 #[.val (.ref a1), .val (.ref b11), .val (.int (0 : Int32)), .val (.ref r30), .unset] [(.int (1 : Int32)), (.int (0 : Int32)), (.ref b11), (.int (0 : Int32)), (.ref y)])) rfl (by rw [hml]; rfl) (rest := []) rfl (hb hby d9_1_81) (by decide) (W := 0) (by show 2 * 0 + _ ≤ _; exact Nat.le_of_eq rfl) (by decide)
  have f62 : Arv Z h61 b11 k11 .double (1 : Int32) [(.double u0)] (.double 0) := f62'
  have pre63 : ∀ tq, Steps p.tables e below (T61.setTop (mkF m 84 #[.val (.ref a1), .val (.ref b11), .val (.int (0 : Int32)), .val (.ref r30), .unset] [])) tq → Steps p.tables e below (s₁.setTop (entryFrame m #[(.ref a1)] 5)) tq := fun tq kq => pre60 tq (st61 _ kq)
  have K61 : Keep h0 h61 [a1, al] := Keep.trans K29 Kq61 (allS (Or.inr sz_b11) all0)
  have f64 := f36.keep Kq61
  have f65 := f37.keep Kq61 (by simp only [List.mem_cons, List.not_mem_nil, or_false, not_or]; exact ne12)
  have f66 := f38.keep Kq61 (by simp only [List.mem_cons, List.not_mem_nil, or_false, not_or]; exact ne12)
  have f67 := f39.keep Kq61 (by simp only [List.mem_cons, List.not_mem_nil, or_false, not_or]; exact ne12)
  have f68 := f40.keep Kq61 (by simp only [List.mem_cons, List.not_mem_nil, or_false, not_or]; exact ne13)
  have f69 := f41.keep Kq61
  have f70 := f42.keep Kq61 (by simp only [List.mem_cons, List.not_mem_nil, or_false, not_or]; exact ne14)
  have f71 := f43.keep Kq61 (by simp only [List.mem_cons, List.not_mem_nil, or_false, not_or]; exact ne14)
  have f72 := f44.keep Kq61 (by simp only [List.mem_cons, List.not_mem_nil, or_false, not_or]; exact ne14)
  have f73 := f31.keep Kq61
  have f74 := f32.keep Kq61 (by simp only [List.mem_cons, List.not_mem_nil, or_false, not_or]; exact (Ne.symm ne49))
  have f75 := f33.keep Kq61 (by simp only [List.mem_cons, List.not_mem_nil, or_false, not_or]; exact (Ne.symm ne49))
  have pre76 : ∀ tq, Steps p.tables e below (T61.setTop (mkF m 85 #[.val (.ref a1), .val (.ref b11), .val (.int (0 : Int32)), .val (.ref r30), .unset] [(.ref a1)])) tq → Steps p.tables e below (s₁.setTop (entryFrame m #[(.ref a1)] 5)) tq := by
    refine fun tq kq => pre63 tq ?_
    show Steps p.tables e below (T61.setTop (mkF m 84 #[.val (.ref a1), .val (.ref b11), .val (.int (0 : Int32)), .val (.ref r30), .unset] [])) _
    refine XS.aloadN X61.here hx rfl (hb hby d9_1_84) rfl rfl ?_
    exact kq
  obtain ⟨T77, X77, e77, st77⟩ := getF X61 hx hZ hown (host := "") (Or.inl (hw _ (List.mem_of_getElem? (i := 33) rfl))) Via.refl e61 f65 (g := (mkF m 85 #[.val (.ref a1), .val (.ref b11), .val (.int (0 : Int32)), .val (.ref r30), .unset] [(.ref a1)])) rfl rfl (hb hby d9_1_85)
  have pre78 : ∀ tq, Steps p.tables e below (T77.setTop (mkF m 88 #[.val (.ref a1), .val (.ref b11), .val (.int (0 : Int32)), .val (.ref r30), .unset] [(.ref al)])) tq → Steps p.tables e below (s₁.setTop (entryFrame m #[(.ref a1)] 5)) tq := fun tq kq => pre76 tq (st77 _ kq)
  have Z79 : n0 ≤ h61.size := (Nat.le_trans (Nat.le_trans Z29 Kq29.1) Kq61.1)
  obtain ⟨cq79, kq79, q79a, q79b, q79c⟩ := isOf hZ e77 f69
  obtain ⟨_, _, ⟨T79, L79, k79, n79⟩, -, X79, ⟨Lc79, hQ79, l79, y79, z79⟩, st79⟩ := X77.interfaceBack hx (xi := (⟨"java/util/List", "clear", "()V"⟩ : MethodName)) (y := (⟨"java/util/ArrayList", "clear", "()V"⟩ : MethodName)) hown (mvT hZ (hw _ (List.mem_of_getElem? (i := 111) rfl))) (mvT hZ (hw _ (List.mem_of_getElem? (i := 112) rfl))) (mvT hZ (hw _ (List.mem_of_getElem? (i := 113) rfl))) (mvT hZ (hw _ (List.mem_of_getElem? (i := 114) rfl))) (mvT hZ (hw _ (List.mem_of_getElem? (i := 115) rfl))) (mvT hZ (hw _ (List.mem_of_getElem? (i := 116) rfl))) (mvT hZ (hw _ (List.mem_of_getElem? (i := 117) rfl))) (mvT hZ (hw _ (List.mem_of_getElem? (i := 70) rfl))) (by decide) (backOf (W := 0) (rm14 l Z a0 hw [] al sD (0 : Int32) h61 n0 Z79 f69 f70 f71 f72 g_al) hZ (hw _ (List.mem_of_getElem? (i := 118) rfl)) (hw _ (List.mem_of_getElem? (i := 11) rfl)) (by decide) (by decide)) q79a q79b q79c (g := (mkF m 88 #[.val (.ref a1), .val (.ref b11), .val (.int (0 : Int32)), .val (.ref r30), .unset] [(.ref al)])) rfl (by rw [hml]; rfl) (Steps.refl _) (argsL := []) (rest := []) (lenOf pd9_1_3 rfl) rfl (by show 2 * 0 + _ ≤ _; exact Nat.le_of_eq rfl) (hb hby d9_1_88) (fun _ _ => ⟨rfl, e77, (by decide : ((((0 + 0) + 1) + 1) + 0) + 0 ≤ _), (by decide : ((((0 + 0) + 1) + 4) + 0) + 0 ≤ _)⟩)
  dsimp only [Pt.U, Pt.locs, Pt.cells, Pt.slots] at X79 l79 y79 z79 st79 hQ79
  subst l79 y79 z79
  obtain ⟨rfl, Nq79, Kq79, hq79⟩ := hQ79
  have N79 := Fr.app N61 Nq79
  have pre80 : ∀ tq, Steps p.tables e below (T79.setTop (mkF m 93 #[.val (.ref a1), .val (.ref b11), .val (.int (0 : Int32)), .val (.ref r30), .unset] [])) tq → Steps p.tables e below (s₁.setTop (entryFrame m #[(.ref a1)] 5)) tq := fun tq kq => pre78 tq (st79.trans kq)
  have K79 : Keep h0 T79.heap [a1, al] := Keep.trans K61 Kq79 (allS (Or.inl (List.mem_of_getElem? (i := 1) rfl)) all0)
  have f81 := f64.keep Kq79
  have f82 := f65.keep Kq79 (by simp only [List.mem_cons, List.not_mem_nil, or_false, not_or]; exact ne_a1_al)
  have f83 := f66.keep Kq79 (by simp only [List.mem_cons, List.not_mem_nil, or_false, not_or]; exact ne_a1_al)
  have f84 := f67.keep Kq79 (by simp only [List.mem_cons, List.not_mem_nil, or_false, not_or]; exact ne_a1_al)
  have f85 := f68.keep Kq79 (by simp only [List.mem_cons, List.not_mem_nil, or_false, not_or]; exact (Ne.symm ne_al_y))
  have f86 := f69.keep Kq79
  have f87 := f73.keep Kq79
  have f88 := f74.keep Kq79 (by simp only [List.mem_cons, List.not_mem_nil, or_false, not_or]; exact (Ne.symm ne48))
  have f89 := f75.keep Kq79 (by simp only [List.mem_cons, List.not_mem_nil, or_false, not_or]; exact (Ne.symm ne48))
  have f90 := f62.keep Kq79 (by simp only [List.mem_cons, List.not_mem_nil, or_false, not_or]; exact (Ne.symm ne14))
  have pre91 : ∀ tq, Steps p.tables e below (T79.setTop (mkF m 95 #[.val (.ref a1), .val (.ref b11), .val (.int (0 : Int32)), .val (.ref r30), .unset] [.null, (.ref a1)])) tq → Steps p.tables e below (s₁.setTop (entryFrame m #[(.ref a1)] 5)) tq := by
    refine fun tq kq => pre80 tq ?_
    show Steps p.tables e below (T79.setTop (mkF m 93 #[.val (.ref a1), .val (.ref b11), .val (.int (0 : Int32)), .val (.ref r30), .unset] [])) _
    refine XS.aloadN X79.here hx rfl (hb hby d9_1_93) rfl rfl ?_
    show Steps p.tables e below (T79.setTop (mkF m 94 #[.val (.ref a1), .val (.ref b11), .val (.int (0 : Int32)), .val (.ref r30), .unset] [(.ref a1)])) _
    refine XS.aconstNull X79.here hx rfl (hb hby d9_1_94) ?_
    exact kq
  obtain ⟨T92, h92, X92, e92, W92, st92⟩ := putF X79 hx hZ hown (host := "") (Or.inl (hw _ (List.mem_of_getElem? (i := 37) rfl))) Via.refl rfl f84 f81 (Or.inl (hw _ (List.mem_of_getElem? (i := 38) rfl))) (hw _ (List.mem_of_getElem? (i := 1) rfl)) (ty := (.array .double)) (by decide) rfl rfl (g := (mkF m 95 #[.val (.ref a1), .val (.ref b11), .val (.int (0 : Int32)), .val (.ref r30), .unset] [.null, (.ref a1)])) rfl rfl (hb hby d9_1_95)
  have pre93 : ∀ tq, Steps p.tables e below (T92.setTop (mkF m 98 #[.val (.ref a1), .val (.ref b11), .val (.int (0 : Int32)), .val (.ref r30), .unset] [])) tq → Steps p.tables e below (s₁.setTop (entryFrame m #[(.ref a1)] 5)) tq := fun tq kq => pre91 tq (st92 _ kq)
  have N92 := Fr.snoc X92 N79 g_a1
  have K92 : Keep h0 h92 [a1, al] := Keep.wr K79 W92 (Or.inl (List.mem_of_getElem? (i := 0) rfl))
  have f94 := f81.wr W92
  have f95 := f82.other W92 (Or.inr (slot_ne (Or.inr (hw _ (List.mem_of_getElem? (i := 34) rfl))) (Or.inl (hw _ (List.mem_of_getElem? (i := 38) rfl))) (by decide) (t := (.object "java/util/List")) (t' := (.array .double)) (by decide) (by decide)))
  have f96 := f83.other W92 (Or.inr (slot_ne (Or.inl (hw _ (List.mem_of_getElem? (i := 45) rfl))) (Or.inl (hw _ (List.mem_of_getElem? (i := 38) rfl))) (by decide) (t := .int) (t' := (.array .double)) (by decide) (by decide)))
  have f97 := f85.other W92 (Ne.symm ne_a1_y)
  have f98 := f86.wr W92
  have f99 := f87.wr W92
  have f100 := f88.other W92 (Or.inl (Ne.symm ne46))
  have f101 := f89.other W92 (Or.inl (Ne.symm ne46))
  have f102 := f90.other W92 (Ne.symm ne12)
  have f103 := f84.same W92
  obtain ⟨fs, hr, hrun, hended, hW, hsame⟩ := X92.leave (v := some (.ref b11)) (fun h => by rw [Bd.returns] at h; cases h)
  refine ⟨_, _, pre93 _ ?_, hrun, hended, _, _, rfl, ?_, ⟨_, rfl⟩, hW, hsame.mono (by decide) (by decide)⟩
  · skip
    show Steps p.tables e below (T92.setTop (mkF m 98 #[.val (.ref a1), .val (.ref b11), .val (.int (0 : Int32)), .val (.ref r30), .unset] [])) _
    refine XS.aloadN X92.here hx rfl (hb hby d9_1_98) rfl rfl ?_
    show Steps p.tables e below (T92.setTop (mkF m 99 #[.val (.ref a1), .val (.ref b11), .val (.int (0 : Int32)), .val (.ref r30), .unset] [(.ref b11)])) _
    exact X92.areturnOut hx rfl Bd.returns rfl (hb hby d9_1_99) hr
  · show Q9_1 Z a1 al y k2 sD u0 h0 n0 _ T92.heap _
    rw [e92]
    refine ⟨b11, k11, rfl, N92, K92, f102, sz_b11, ?_⟩
    trivial
/-! body 9_2 -/
theorem d9_2_0 : decode prog_82_method_5_code 0 = .ok (.aload_n 0, 1) := by decide +kernel
theorem d9_2_1 : decode prog_82_method_5_code 1 = .ok (.getfield 12, 3) := by decide +kernel
theorem d9_2_4 : decode prog_82_method_5_code 4 = .ok (.invokeinterface 31 1, 5) := by decide +kernel
theorem d9_2_9 : decode prog_82_method_5_code 9 = .ok (.ldc 16, 2) := by decide +kernel
theorem d9_2_11 : decode prog_82_method_5_code 11 = .ok (.imul, 1) := by decide +kernel
theorem d9_2_12 : decode prog_82_method_5_code 12 = .ok (.aload_n 0, 1) := by decide +kernel
theorem d9_2_13 : decode prog_82_method_5_code 13 = .ok (.getfield 21, 3) := by decide +kernel
theorem d9_2_16 : decode prog_82_method_5_code 16 = .ok (.iadd, 1) := by decide +kernel
theorem d9_2_17 : decode prog_82_method_5_code 17 = .ok (.newarray .double, 2) := by decide +kernel
theorem d9_2_19 : decode prog_82_method_5_code 19 = .ok (.astore_n 1, 1) := by decide +kernel
theorem d9_2_20 : decode prog_82_method_5_code 20 = .ok (.iconst 0, 1) := by decide +kernel
theorem d9_2_21 : decode prog_82_method_5_code 21 = .ok (.istore_n 2, 1) := by decide +kernel
theorem d9_2_22 : decode prog_82_method_5_code 22 = .ok (.aload_n 0, 1) := by decide +kernel
theorem d9_2_23 : decode prog_82_method_5_code 23 = .ok (.getfield 12, 3) := by decide +kernel
theorem d9_2_26 : decode prog_82_method_5_code 26 = .ok (.invokeinterface 46 1, 5) := by decide +kernel
theorem d9_2_31 : decode prog_82_method_5_code 31 = .ok (.astore_n 3, 1) := by decide +kernel
theorem d9_2_32 : decode prog_82_method_5_code 32 = .ok (.aload_n 3, 1) := by decide +kernel
theorem d9_2_33 : decode prog_82_method_5_code 33 = .ok (.invokeinterface 50 1, 5) := by decide +kernel
theorem d9_2_38 : decode prog_82_method_5_code 38 = .ok (.ifCond .eq 32, 3) := by decide +kernel
theorem d9_2_70 : decode prog_82_method_5_code 70 = .ok (.aload_n 0, 1) := by decide +kernel
theorem d9_2_71 : decode prog_82_method_5_code 71 = .ok (.getfield 17, 3) := by decide +kernel
theorem d9_2_74 : decode prog_82_method_5_code 74 = .ok (.iconst 0, 1) := by decide +kernel
theorem d9_2_75 : decode prog_82_method_5_code 75 = .ok (.aload_n 1, 1) := by decide +kernel
theorem d9_2_76 : decode prog_82_method_5_code 76 = .ok (.iload_n 2, 1) := by decide +kernel
theorem d9_2_77 : decode prog_82_method_5_code 77 = .ok (.aload_n 0, 1) := by decide +kernel
theorem d9_2_78 : decode prog_82_method_5_code 78 = .ok (.getfield 21, 3) := by decide +kernel
theorem d9_2_81 : decode prog_82_method_5_code 81 = .ok (.invokestatic 60, 3) := by decide +kernel
theorem d9_2_84 : decode prog_82_method_5_code 84 = .ok (.aload_n 0, 1) := by decide +kernel
theorem d9_2_85 : decode prog_82_method_5_code 85 = .ok (.getfield 12, 3) := by decide +kernel
theorem d9_2_88 : decode prog_82_method_5_code 88 = .ok (.invokeinterface 66 1, 5) := by decide +kernel
theorem d9_2_93 : decode prog_82_method_5_code 93 = .ok (.aload_n 0, 1) := by decide +kernel
theorem d9_2_94 : decode prog_82_method_5_code 94 = .ok (.aconst_null, 1) := by decide +kernel
theorem d9_2_95 : decode prog_82_method_5_code 95 = .ok (.putfield 17, 3) := by decide +kernel
theorem d9_2_98 : decode prog_82_method_5_code 98 = .ok (.aload_n 1, 1) := by decide +kernel
theorem d9_2_99 : decode prog_82_method_5_code 99 = .ok (.areturn, 1) := by decide +kernel
theorem pn_9_2 : plainName "com/example/crisp_haptics/crisphaptics/SampleBlocks" = true := by first | (simp [plainName, overriddenIn]; done) | decide +kernel
theorem pd9_2_0 : parseMethodDescriptor "()I" = some ⟨[], some .int⟩ := by decide +kernel
theorem pd9_2_1 : parseMethodDescriptor "()Ljava/util/Iterator;" = some ⟨[], some (.object "java/util/Iterator")⟩ := by decide +kernel
theorem pd9_2_2 : parseMethodDescriptor "()Z" = some ⟨[], some .boolean⟩ := by decide +kernel
theorem pd9_2_3 : parseMethodDescriptor "()V" = some ⟨[], none⟩ := by decide +kernel
theorem ef_9_2 (m : MethodId) (a1 : Addr) : entryFrame m #[(.ref a1)] 5 = mkF m 0 #[.val (.ref a1), .unset, .unset, .unset, .unset] [] := by first | (simp [entryFrame, mkF, argsToLocals, Value.category]; done) | rfl
def Q9_2 (Z : State) (a1 : Addr) (al : Addr) (y : Addr) (k2 : ClassId) (sD : Addr) (u0 : UInt64) (u1 : UInt64) (h0 : Heap) (n0 : Nat) (v : Option Value) (h : Heap) (L : List Loc) : Prop := ∃ r : Addr, ∃ k3 : ClassId, v = some (.ref r) ∧ Fr n0 L ∧ Keep h0 h [a1, al] ∧ Arv Z h r k3 .double (2 : Int32) [(.double u0), (.double u1)] (.double 0) ∧ h0.size ≤ r ∧ (True)
set_option maxRecDepth 65536 in
set_option maxHeartbeats 40000000 in
theorem rm9_2 (l : Launch) (Z : State) (a0 : Array Value) (hw : ∀ d ∈ tables_1, d.before a0 Z = true) (ws : List Jvm.Cond) (a1 : Addr) (al : Addr) (y : Addr) (k2 : ClassId) (sD : Addr) (u0 : UInt64) (u1 : UInt64) (h0 : Heap) (n0 : Nat) (Z0 : n0 ≤ h0.size) (E_a1 : Exa Z h0 a1 "com/example/crisp_haptics/crisphaptics/SampleBlocks") (F_fullBlocks_a1 : Fld Z h0 a1 "com/example/crisp_haptics/crisphaptics/SampleBlocks" "fullBlocks" "Ljava/util/List;" (.ref al)) (F_inBlock_a1 : Fld Z h0 a1 "com/example/crisp_haptics/crisphaptics/SampleBlocks" "inBlock" "I" (.int (2 : Int32))) (F_block_a1 : Fld Z h0 a1 "com/example/crisp_haptics/crisphaptics/SampleBlocks" "block" "[D" (.ref y)) (V_y : Arv Z h0 y k2 .double (2 : Int32) [(.double u0), (.double u1)] (.double 0)) (E_al : Exa Z h0 al "java/util/ArrayList") (F_modCount_al : Fld Z h0 al "java/util/AbstractList" "modCount" "I" (.int (0 : Int32))) (F_elementData_al : Fld Z h0 al "java/util/ArrayList" "elementData" "[Ljava/lang/Object;" (.ref sD)) (F_size_al : Fld Z h0 al "java/util/ArrayList" "size" "I" (.int (0 : Int32))) (g_a1 : n0 ≤ a1) (g_al : n0 ≤ al) (ne_a1_al : a1 ≠ al) (ne_a1_y : a1 ≠ y) (ne_al_y : al ≠ y) :
    MetFree l (⟨"com/example/crisp_haptics/crisphaptics/SampleBlocks", "moveToArray", "()[D"⟩ : MethodName) (head1 (Jvm.Cond.code (⟨"com/example/crisp_haptics/crisphaptics/SampleBlocks", "moveToArray", "()[D"⟩ : MethodName) prog_82_method_5_code 5 (some (.array .double)) :: ws) ({ frames := 3, cells := 2, slots := 6, locals := 40 } : Room)) (fun a U => a = #[(.ref a1)] ∧ Z.Warmed39 U.vm ∧ U.heap = h0) (fun _ _ _ _ _ => True) (fun _ U o U' => ∃ v L, o = .returned v ∧ Q9_2 Z a1 al y k2 sD u0 u1 h0 n0 v U'.heap L ∧ FrameEnd U o U' L ({ frames := 3, cells := 2, slots := 6, locals := 40 } : Room).cells ({ frames := 3, cells := 2, slots := 6, locals := 40 } : Room).slots) := by
  refine MetFree.of_bodySF (plainFor_of_name pn_9_2) hisR ?_
  intro p e s m args below meth c s₁ Bd hml0 hP hK
  obtain ⟨rfl, hZ, hh⟩ := hP
  have hx := Bd.exec
  have hby := Bd.bytes
  have hml : c.maxLocals = 5 := hml0
  have hown : s.vm.findClass "com/example/crisp_haptics/crisphaptics/SampleBlocks" = some m.cls := findClass_of_methodNamed Bd.named
  have hnm := (name_of_methodNamed Bd.named Bd.method).1
  have X0 : Stand p l e ({ frames := 3, cells := 2, slots := 6, locals := 40 } : Room) s m #[(.ref a1)] below meth c s₁ [] 0 0 := Stand.of_body Bd
  have e0 : s₁.heap = h0 := by rw [← hh, Bd.state]; rfl
  have N0 := Fr.nil n0
  have pre0 : ∀ tq, Steps p.tables e below (s₁.setTop (mkF m 0 #[.val (.ref a1), .unset, .unset, .unset, .unset] [])) tq → Steps p.tables e below (s₁.setTop (entryFrame m #[(.ref a1)] 5)) tq := fun tq kq => castTop (ef_9_2 m a1) kq
  have pre1 : ∀ tq, Steps p.tables e below (s₁.setTop (mkF m 1 #[.val (.ref a1), .unset, .unset, .unset, .unset] [(.ref a1)])) tq → Steps p.tables e below (s₁.setTop (entryFrame m #[(.ref a1)] 5)) tq := by
    refine fun tq kq => pre0 tq ?_
    show Steps p.tables e below (s₁.setTop (mkF m 0 #[.val (.ref a1), .unset, .unset, .unset, .unset] [])) _
    refine XS.aloadN X0.here hx rfl (hb hby d9_2_0) rfl rfl ?_
    exact kq
  obtain ⟨T2, X2, e2, st2⟩ := getF X0 hx hZ hown (host := "") (Or.inl (hw _ (List.mem_of_getElem? (i := 33) rfl))) Via.refl e0 F_fullBlocks_a1 (g := (mkF m 1 #[.val (.ref a1), .unset, .unset, .unset, .unset] [(.ref a1)])) rfl rfl (hb hby d9_2_1)
  have pre3 : ∀ tq, Steps p.tables e below (T2.setTop (mkF m 4 #[.val (.ref a1), .unset, .unset, .unset, .unset] [(.ref al)])) tq → Steps p.tables e below (s₁.setTop (entryFrame m #[(.ref a1)] 5)) tq := fun tq kq => pre1 tq (st2 _ kq)
  have Z4 : n0 ≤ h0.size := Z0
  obtain ⟨cq4, kq4, q4a, q4b, q4c⟩ := isOf hZ e2 E_al
  obtain ⟨_, _, ⟨T4, L4, k4, n4⟩, -, X4, ⟨Lc4, hQ4, l4, y4, z4⟩, st4⟩ := X2.interfaceBack hx (xi := (⟨"java/util/List", "size", "()I"⟩ : MethodName)) (y := (⟨"java/util/ArrayList", "size", "()I"⟩ : MethodName)) hown (mvT hZ (hw _ (List.mem_of_getElem? (i := 63) rfl))) (mvT hZ (hw _ (List.mem_of_getElem? (i := 64) rfl))) (mvT hZ (hw _ (List.mem_of_getElem? (i := 65) rfl))) (mvT hZ (hw _ (List.mem_of_getElem? (i := 66) rfl))) (mvT hZ (hw _ (List.mem_of_getElem? (i := 67) rfl))) (mvT hZ (hw _ (List.mem_of_getElem? (i := 68) rfl))) (mvT hZ (hw _ (List.mem_of_getElem? (i := 69) rfl))) (mvT hZ (hw _ (List.mem_of_getElem? (i := 70) rfl))) (by decide) (backOf (W := 0) (rm10 l Z a0 hw [] al (0 : Int32) h0 n0 Z4 F_size_al) hZ (hw _ (List.mem_of_getElem? (i := 71) rfl)) (hw _ (List.mem_of_getElem? (i := 11) rfl)) (by decide) (by decide)) q4a q4b q4c (g := (mkF m 4 #[.val (.ref a1), .unset, .unset, .unset, .unset] [(.ref al)])) rfl (by rw [hml]; rfl) (Steps.refl _) (argsL := []) (rest := []) (lenOf pd9_2_0 rfl) rfl (by show 2 * 0 + _ ≤ _; exact Nat.le_of_eq rfl) (hb hby d9_2_4) (fun _ _ => ⟨rfl, e2, (by decide : 0 + 0 ≤ _), (by decide : 0 + 0 ≤ _)⟩)
  dsimp only [Pt.U, Pt.locs, Pt.cells, Pt.slots] at X4 l4 y4 z4 st4 hQ4
  subst l4 y4 z4
  obtain ⟨r5, rfl, Nq4, ehq4, hq4⟩ := hQ4
  have N4 := Fr.app N0 Nq4
  have pre6 : ∀ tq, Steps p.tables e below (T4.setTop (mkF m 9 #[.val (.ref a1), .unset, .unset, .unset, .unset] [(.int r5)])) tq → Steps p.tables e below (s₁.setTop (entryFrame m #[(.ref a1)] 5)) tq := fun tq kq => pre3 tq (st4.trans kq)
  subst hq4
  have pre7 : ∀ tq, Steps p.tables e below (T4.setTop (mkF m 13 #[.val (.ref a1), .unset, .unset, .unset, .unset] [(.ref a1), (.int (0 : Int32))])) tq → Steps p.tables e below (s₁.setTop (entryFrame m #[(.ref a1)] 5)) tq := by
    refine fun tq kq => pre6 tq ?_
    show Steps p.tables e below (T4.setTop (mkF m 9 #[.val (.ref a1), .unset, .unset, .unset, .unset] [(.int (0 : Int32))])) _
    refine X4.ldcInt hx hown (mvT hZ (hw _ (List.mem_of_getElem? (i := 35) rfl))) (g := (mkF m 9 #[.val (.ref a1), .unset, .unset, .unset, .unset] [(.int (0 : Int32))])) rfl (hb hby d9_2_9) _ ?_
    show Steps p.tables e below (T4.setTop (mkF m 11 #[.val (.ref a1), .unset, .unset, .unset, .unset] [(.int (32768 : Int32)), (.int (0 : Int32))])) _
    refine XS.imul X4.here hx rfl (hb hby d9_2_11) rfl ?_
    show Steps p.tables e below (T4.setTop (mkF m 12 #[.val (.ref a1), .unset, .unset, .unset, .unset] [(.int (0 : Int32))])) _
    refine XS.aloadN X4.here hx rfl (hb hby d9_2_12) rfl rfl ?_
    exact kq
  obtain ⟨T8, X8, e8, st8⟩ := getF X4 hx hZ hown (host := "") (Or.inl (hw _ (List.mem_of_getElem? (i := 44) rfl))) Via.refl ehq4 F_inBlock_a1 (g := (mkF m 13 #[.val (.ref a1), .unset, .unset, .unset, .unset] [(.ref a1), (.int (0 : Int32))])) rfl rfl (hb hby d9_2_13)
  have pre9 : ∀ tq, Steps p.tables e below (T8.setTop (mkF m 16 #[.val (.ref a1), .unset, .unset, .unset, .unset] [(.int (2 : Int32)), (.int (0 : Int32))])) tq → Steps p.tables e below (s₁.setTop (entryFrame m #[(.ref a1)] 5)) tq := fun tq kq => pre7 tq (st8 _ kq)
  have pre10 : ∀ tq, Steps p.tables e below (T8.setTop (mkF m 17 #[.val (.ref a1), .unset, .unset, .unset, .unset] [(.int (2 : Int32))])) tq → Steps p.tables e below (s₁.setTop (entryFrame m #[(.ref a1)] 5)) tq := by
    refine fun tq kq => pre9 tq ?_
    show Steps p.tables e below (T8.setTop (mkF m 16 #[.val (.ref a1), .unset, .unset, .unset, .unset] [(.int (2 : Int32)), (.int (0 : Int32))])) _
    refine XS.iadd X8.here hx rfl (hb hby d9_2_16) rfl ?_
    exact kq
  obtain ⟨T11, h11, k11, X11, e11, E11, A11, st11⟩ := newP X8 hx hZ (hw _ (List.mem_of_getElem? (i := 36) rfl)) e8 (g := (mkF m 17 #[.val (.ref a1), .unset, .unset, .unset, .unset] [(.int (2 : Int32))])) rfl (hb hby d9_2_17) rfl (by decide) (cap := 2) (by decide) (by decide) (by decide) (by decide)
  obtain ⟨b11, g11⟩ : ∃ z, z = h0.size := ⟨_, rfl⟩
  rw [← g11] at A11 st11
  have g_b11 : n0 ≤ b11 := Nat.le_trans Z0 (Nat.le_of_eq g11.symm)
  have sz_b11 : h0.size ≤ b11 := Nat.le_trans (Nat.le_refl h0.size) (Nat.le_of_eq g11.symm)
  have ne12 : a1 ≠ b11 := Nat.ne_of_lt (Nat.lt_of_lt_of_le E_a1.lt (Nat.le_of_eq g11.symm))
  have ne13 : y ≠ b11 := Nat.ne_of_lt (Nat.lt_of_lt_of_le V_y.lt (Nat.le_of_eq g11.symm))
  have ne14 : al ≠ b11 := Nat.ne_of_lt (Nat.lt_of_lt_of_le E_al.lt (Nat.le_of_eq g11.symm))
  have pre15 : ∀ tq, Steps p.tables e below (T11.setTop (mkF m 19 #[.val (.ref a1), .unset, .unset, .unset, .unset] [(.ref b11)])) tq → Steps p.tables e below (s₁.setTop (entryFrame m #[(.ref a1)] 5)) tq := fun tq kq => pre10 tq (st11 _ kq)
  have f16 := E_a1.ext E11
  have f17 := F_fullBlocks_a1.ext E11
  have f18 := F_inBlock_a1.ext E11
  have f19 := F_block_a1.ext E11
  have f20 := V_y.ext E11
  have f21 := E_al.ext E11
  have f22 := F_modCount_al.ext E11
  have f23 := F_elementData_al.ext E11
  have f24 := F_size_al.ext E11
  have K11 : Keep h0 h11 [a1, al] := Keep.ext (Keep.refl h0 [a1, al]) E11
  have f25 : Arv Z h11 b11 k11 .double (2 : Int32) [(.double 0), (.double 0)] (.double 0) := (Arv.new A11 (by decide)).pad (pad_rep [] (.double 0) 2)
  have pre26 : ∀ tq, Steps p.tables e below (T11.setTop (mkF m 23 #[.val (.ref a1), .val (.ref b11), .val (.int (0 : Int32)), .unset, .unset] [(.ref a1)])) tq → Steps p.tables e below (s₁.setTop (entryFrame m #[(.ref a1)] 5)) tq := by
    refine fun tq kq => pre15 tq ?_
    show Steps p.tables e below (T11.setTop (mkF m 19 #[.val (.ref a1), .unset, .unset, .unset, .unset] [(.ref b11)])) _
    refine XS.astoreN X11.here hx rfl (hb hby d9_2_19) rfl rfl (l' := #[.val (.ref a1), .val (.ref b11), .unset, .unset, .unset]) rfl ?_
    show Steps p.tables e below (T11.setTop (mkF m 20 #[.val (.ref a1), .val (.ref b11), .unset, .unset, .unset] [])) _
    refine XS.iconst X11.here hx rfl (hb hby d9_2_20) ?_
    show Steps p.tables e below (T11.setTop (mkF m 21 #[.val (.ref a1), .val (.ref b11), .unset, .unset, .unset] [(.int (0 : Int32))])) _
    refine XS.istoreN X11.here hx rfl (hb hby d9_2_21) rfl (l' := #[.val (.ref a1), .val (.ref b11), .val (.int (0 : Int32)), .unset, .unset]) rfl ?_
    show Steps p.tables e below (T11.setTop (mkF m 22 #[.val (.ref a1), .val (.ref b11), .val (.int (0 : Int32)), .unset, .unset] [])) _
    refine XS.aloadN X11.here hx rfl (hb hby d9_2_22) rfl rfl ?_
    exact kq
  obtain ⟨T27, X27, e27, st27⟩ := getF X11 hx hZ hown (host := "") (Or.inl (hw _ (List.mem_of_getElem? (i := 33) rfl))) Via.refl e11 f17 (g := (mkF m 23 #[.val (.ref a1), .val (.ref b11), .val (.int (0 : Int32)), .unset, .unset] [(.ref a1)])) rfl rfl (hb hby d9_2_23)
  have pre28 : ∀ tq, Steps p.tables e below (T27.setTop (mkF m 26 #[.val (.ref a1), .val (.ref b11), .val (.int (0 : Int32)), .unset, .unset] [(.ref al)])) tq → Steps p.tables e below (s₁.setTop (entryFrame m #[(.ref a1)] 5)) tq := fun tq kq => pre26 tq (st27 _ kq)
  have Z29 : n0 ≤ h11.size := (Nat.le_trans Z0 E11.1)
  obtain ⟨cq29, kq29, q29a, q29b, q29c⟩ := isOf hZ e27 f21
  obtain ⟨_, _, ⟨T29, L29, k29, n29⟩, -, X29, ⟨Lc29, hQ29, l29, y29, z29⟩, st29⟩ := X27.interfaceBack hx (xi := (⟨"java/util/List", "iterator", "()Ljava/util/Iterator;"⟩ : MethodName)) (y := (⟨"java/util/ArrayList", "iterator", "()Ljava/util/Iterator;"⟩ : MethodName)) hown (mvT hZ (hw _ (List.mem_of_getElem? (i := 74) rfl))) (mvT hZ (hw _ (List.mem_of_getElem? (i := 75) rfl))) (mvT hZ (hw _ (List.mem_of_getElem? (i := 76) rfl))) (mvT hZ (hw _ (List.mem_of_getElem? (i := 77) rfl))) (mvT hZ (hw _ (List.mem_of_getElem? (i := 78) rfl))) (mvT hZ (hw _ (List.mem_of_getElem? (i := 79) rfl))) (mvT hZ (hw _ (List.mem_of_getElem? (i := 80) rfl))) (mvT hZ (hw _ (List.mem_of_getElem? (i := 70) rfl))) (by decide) (backOf (W := 0) (rm11 l Z a0 hw [] al (0 : Int32) h11 n0 Z29 f21 f22) hZ (hw _ (List.mem_of_getElem? (i := 81) rfl)) (hw _ (List.mem_of_getElem? (i := 11) rfl)) (by decide) (by decide)) q29a q29b q29c (g := (mkF m 26 #[.val (.ref a1), .val (.ref b11), .val (.int (0 : Int32)), .unset, .unset] [(.ref al)])) rfl (by rw [hml]; rfl) (Steps.refl _) (argsL := []) (rest := []) (lenOf pd9_2_1 rfl) rfl (by show 2 * 0 + _ ≤ _; exact Nat.le_of_eq rfl) (hb hby d9_2_26) (fun _ _ => ⟨rfl, e27, (by decide : ((0 + 0) + 1) + 1 ≤ _), (by decide : ((0 + 0) + 2) + 4 ≤ _)⟩)
  dsimp only [Pt.U, Pt.locs, Pt.cells, Pt.slots] at X29 l29 y29 z29 st29 hQ29
  subst l29 y29 z29
  obtain ⟨r30, rfl, Nq29, Kq29, f31, f32, f33, f34, hq29⟩ := hQ29
  have N29 := Fr.app N4 Nq29
  have pre35 : ∀ tq, Steps p.tables e below (T29.setTop (mkF m 31 #[.val (.ref a1), .val (.ref b11), .val (.int (0 : Int32)), .unset, .unset] [(.ref r30)])) tq → Steps p.tables e below (s₁.setTop (entryFrame m #[(.ref a1)] 5)) tq := fun tq kq => pre28 tq (st29.trans kq)
  have K29 : Keep h0 T29.heap [a1, al] := Keep.trans K11 Kq29 all0
  have f36 := f16.keep Kq29
  have f37 := f17.keep Kq29 (List.not_mem_nil)
  have f38 := f18.keep Kq29 (List.not_mem_nil)
  have f39 := f19.keep Kq29 (List.not_mem_nil)
  have f40 := f20.keep Kq29 (List.not_mem_nil)
  have f41 := f21.keep Kq29
  have f42 := f22.keep Kq29 (List.not_mem_nil)
  have f43 := f23.keep Kq29 (List.not_mem_nil)
  have f44 := f24.keep Kq29 (List.not_mem_nil)
  have f45 := f25.keep Kq29 (List.not_mem_nil)
  have g_r30 : n0 ≤ r30 := Nat.le_trans Z29 f34
  have sz_r30 : h0.size ≤ r30 := Nat.le_trans (Nat.le_trans (Nat.le_refl h0.size) E11.1) f34
  have ne46 : a1 ≠ r30 := Nat.ne_of_lt (Nat.lt_of_lt_of_le f16.lt f34)
  have ne47 : y ≠ r30 := Nat.ne_of_lt (Nat.lt_of_lt_of_le f20.lt f34)
  have ne48 : al ≠ r30 := Nat.ne_of_lt (Nat.lt_of_lt_of_le f21.lt f34)
  have ne49 : b11 ≠ r30 := Nat.ne_of_lt (Nat.lt_of_lt_of_le f25.lt f34)
  have pre50 : ∀ tq, Steps p.tables e below (T29.setTop (mkF m 33 #[.val (.ref a1), .val (.ref b11), .val (.int (0 : Int32)), .val (.ref r30), .unset] [(.ref r30)])) tq → Steps p.tables e below (s₁.setTop (entryFrame m #[(.ref a1)] 5)) tq := by
    refine fun tq kq => pre35 tq ?_
    show Steps p.tables e below (T29.setTop (mkF m 31 #[.val (.ref a1), .val (.ref b11), .val (.int (0 : Int32)), .unset, .unset] [(.ref r30)])) _
    refine XS.astoreN X29.here hx rfl (hb hby d9_2_31) rfl rfl (l' := #[.val (.ref a1), .val (.ref b11), .val (.int (0 : Int32)), .val (.ref r30), .unset]) rfl ?_
    show Steps p.tables e below (T29.setTop (mkF m 32 #[.val (.ref a1), .val (.ref b11), .val (.int (0 : Int32)), .val (.ref r30), .unset] [])) _
    refine XS.aloadN X29.here hx rfl (hb hby d9_2_32) rfl rfl ?_
    exact kq
  have Z51 : n0 ≤ T29.heap.size := (Nat.le_trans Z29 Kq29.1)
  obtain ⟨cq51, kq51, q51a, q51b, q51c⟩ := isOf hZ rfl f31
  obtain ⟨_, _, ⟨T51, L51, k51, n51⟩, -, X51, ⟨Lc51, hQ51, l51, y51, z51⟩, st51⟩ := X29.interfaceBack hx (xi := (⟨"java/util/Iterator", "hasNext", "()Z"⟩ : MethodName)) (y := (⟨"java/util/ArrayList$Itr", "hasNext", "()Z"⟩ : MethodName)) hown (mvT hZ (hw _ (List.mem_of_getElem? (i := 98) rfl))) (mvT hZ (hw _ (List.mem_of_getElem? (i := 99) rfl))) (mvT hZ (hw _ (List.mem_of_getElem? (i := 100) rfl))) (mvT hZ (hw _ (List.mem_of_getElem? (i := 101) rfl))) (mvT hZ (hw _ (List.mem_of_getElem? (i := 102) rfl))) (mvT hZ (hw _ (List.mem_of_getElem? (i := 103) rfl))) (mvT hZ (hw _ (List.mem_of_getElem? (i := 104) rfl))) (mvT hZ (hw _ (List.mem_of_getElem? (i := 105) rfl))) (by decide) (backOf (W := 0) (rm13 l Z a0 hw [] r30 al T29.heap n0 Z51 f33 f32 f44) hZ (hw _ (List.mem_of_getElem? (i := 106) rfl)) (hw _ (List.mem_of_getElem? (i := 84) rfl)) (by decide) (by decide)) q51a q51b q51c (g := (mkF m 33 #[.val (.ref a1), .val (.ref b11), .val (.int (0 : Int32)), .val (.ref r30), .unset] [(.ref r30)])) rfl (by rw [hml]; rfl) (Steps.refl _) (argsL := []) (rest := []) (lenOf pd9_2_2 rfl) rfl (by show 2 * 0 + _ ≤ _; exact Nat.le_of_eq rfl) (hb hby d9_2_33) (fun _ _ => ⟨rfl, rfl, (by decide : (((0 + 0) + 1) + 1) + 0 ≤ _), (by decide : (((0 + 0) + 2) + 4) + 0 ≤ _)⟩)
  dsimp only [Pt.U, Pt.locs, Pt.cells, Pt.slots] at X51 l51 y51 z51 st51 hQ51
  subst l51 y51 z51
  obtain ⟨r52, rfl, Nq51, ehq51, hq51⟩ := hQ51
  have N51 := Fr.app N29 Nq51
  have pre53 : ∀ tq, Steps p.tables e below (T51.setTop (mkF m 38 #[.val (.ref a1), .val (.ref b11), .val (.int (0 : Int32)), .val (.ref r30), .unset] [(.int r52)])) tq → Steps p.tables e below (s₁.setTop (entryFrame m #[(.ref a1)] 5)) tq := fun tq kq => pre50 tq (st51.trans kq)
  subst hq51
  have pre54 : ∀ tq, Steps p.tables e below (T51.setTop (mkF m 70 #[.val (.ref a1), .val (.ref b11), .val (.int (0 : Int32)), .val (.ref r30), .unset] [])) tq → Steps p.tables e below (s₁.setTop (entryFrame m #[(.ref a1)] 5)) tq := by
    refine fun tq kq => pre53 tq ?_
    show Steps p.tables e below (T51.setTop (mkF m 38 #[.val (.ref a1), .val (.ref b11), .val (.int (0 : Int32)), .val (.ref r30), .unset] [(.int (0 : Int32))])) _
    refine XS.ifYes X51.here hx rfl (pc0 := 38) (pc' := 70) rfl (hb hby d9_2_38) rfl ((if0 _ _).trans (teq (by decide : (0 : Int32) = (0 : Int32))).1) (by decide) (by decide) ?_
    exact kq
  have pre55 : ∀ tq, Steps p.tables e below (T51.setTop (mkF m 71 #[.val (.ref a1), .val (.ref b11), .val (.int (0 : Int32)), .val (.ref r30), .unset] [(.ref a1)])) tq → Steps p.tables e below (s₁.setTop (entryFrame m #[(.ref a1)] 5)) tq := by
    refine fun tq kq => pre54 tq ?_
    show Steps p.tables e below (T51.setTop (mkF m 70 #[.val (.ref a1), .val (.ref b11), .val (.int (0 : Int32)), .val (.ref r30), .unset] [])) _
    refine XS.aloadN X51.here hx rfl (hb hby d9_2_70) rfl rfl ?_
    exact kq
  obtain ⟨T56, X56, e56, st56⟩ := getF X51 hx hZ hown (host := "") (Or.inl (hw _ (List.mem_of_getElem? (i := 37) rfl))) Via.refl ehq51 f39 (g := (mkF m 71 #[.val (.ref a1), .val (.ref b11), .val (.int (0 : Int32)), .val (.ref r30), .unset] [(.ref a1)])) rfl rfl (hb hby d9_2_71)
  have pre57 : ∀ tq, Steps p.tables e below (T56.setTop (mkF m 74 #[.val (.ref a1), .val (.ref b11), .val (.int (0 : Int32)), .val (.ref r30), .unset] [(.ref y)])) tq → Steps p.tables e below (s₁.setTop (entryFrame m #[(.ref a1)] 5)) tq := fun tq kq => pre55 tq (st56 _ kq)
  have pre58 : ∀ tq, Steps p.tables e below (T56.setTop (mkF m 78 #[.val (.ref a1), .val (.ref b11), .val (.int (0 : Int32)), .val (.ref r30), .unset] [(.ref a1), (.int (0 : Int32)), (.ref b11), (.int (0 : Int32)), (.ref y)])) tq → Steps p.tables e below (s₁.setTop (entryFrame m #[(.ref a1)] 5)) tq := by
    refine fun tq kq => pre57 tq ?_
    show Steps p.tables e below (T56.setTop (mkF m 74 #[.val (.ref a1), .val (.ref b11), .val (.int (0 : Int32)), .val (.ref r30), .unset] [(.ref y)])) _
    refine XS.iconst X56.here hx rfl (hb hby d9_2_74) ?_
    show Steps p.tables e below (T56.setTop (mkF m 75 #[.val (.ref a1), .val (.ref b11), .val (.int (0 : Int32)), .val (.ref r30), .unset] [(.int (0 : Int32)), (.ref y)])) _
    refine XS.aloadN X56.here hx rfl (hb hby d9_2_75) rfl rfl ?_
    show Steps p.tables e below (T56.setTop (mkF m 76 #[.val (.ref a1), .val (.ref b11), .val (.int (0 : Int32)), .val (.ref r30), .unset] [(.ref b11), (.int (0 : Int32)), (.ref y)])) _
    refine XS.iloadN X56.here hx rfl (hb hby d9_2_76) rfl ?_
    show Steps p.tables e below (T56.setTop (mkF m 77 #[.val (.ref a1), .val (.ref b11), .val (.int (0 : Int32)), .val (.ref r30), .unset] [(.int (0 : Int32)), (.ref b11), (.int (0 : Int32)), (.ref y)])) _
    refine XS.aloadN X56.here hx rfl (hb hby d9_2_77) rfl rfl ?_
    exact kq
  obtain ⟨T59, X59, e59, st59⟩ := getF X56 hx hZ hown (host := "") (Or.inl (hw _ (List.mem_of_getElem? (i := 44) rfl))) Via.refl e56 f38 (g := (mkF m 78 #[.val (.ref a1), .val (.ref b11), .val (.int (0 : Int32)), .val (.ref r30), .unset] [(.ref a1), (.int (0 : Int32)), (.ref b11), (.int (0 : Int32)), (.ref y)])) rfl rfl (hb hby d9_2_78)
  have pre60 : ∀ tq, Steps p.tables e below (T59.setTop (mkF m 81 #[.val (.ref a1), .val (.ref b11), .val (.int (0 : Int32)), .val (.ref r30), .unset] [(.int (2 : Int32)), (.int (0 : Int32)), (.ref b11), (.int (0 : Int32)), (.ref y)])) tq → Steps p.tables e below (s₁.setTop (entryFrame m #[(.ref a1)] 5)) tq := fun tq kq => pre58 tq (st59 _ kq)
  obtain ⟨T61, h61, Lc61, X61, e61, N61, Kq61, f62', st61⟩ := cpA X59 hx hZ hown (hw _ (List.mem_of_getElem? (i := 110) rfl)) (hw _ (List.mem_of_getElem? (i := 57) rfl)) (hw _ (List.mem_of_getElem? (i := 55) rfl)) (hw _ (List.mem_of_getElem? (i := 56) rfl)) e59 f40 f45 (us := [(.double u0), (.double u1)]) (Or.inl ⟨rfl, rfl⟩) (by decide) (by decide) (by decide) (by decide) (by decide) rfl (by decide) N51 g_b11 (g := (mkF m 81 #[.val (.ref a1), .val (.ref b11), .val (.int (0 : Int32)), .val (.ref r30), .unset] [(.int (2 : Int32)), (.int (0 : Int32)), (.ref b11), (.int (0 : Int32)), (.ref y)])) rfl (by rw [hml]; rfl) (rest := []) rfl (hb hby d9_2_81) (by decide) (W := 0) (by show 2 * 0 + _ ≤ _; exact Nat.le_of_eq rfl) (by decide)
  have f62 : Arv Z h61 b11 k11 .double (2 : Int32) [(.double u0), (.double u1)] (.double 0) := f62'
  have pre63 : ∀ tq, Steps p.tables e below (T61.setTop (mkF m 84 #[.val (.ref a1), .val (.ref b11), .val (.int (0 : Int32)), .val (.ref r30), .unset] [])) tq → Steps p.tables e below (s₁.setTop (entryFrame m #[(.ref a1)] 5)) tq := fun tq kq => pre60 tq (st61 _ kq)
  have K61 : Keep h0 h61 [a1, al] := Keep.trans K29 Kq61 (allS (Or.inr sz_b11) all0)
  have f64 := f36.keep Kq61
  have f65 := f37.keep Kq61 (by simp only [List.mem_cons, List.not_mem_nil, or_false, not_or]; exact ne12)
  have f66 := f38.keep Kq61 (by simp only [List.mem_cons, List.not_mem_nil, or_false, not_or]; exact ne12)
  have f67 := f39.keep Kq61 (by simp only [List.mem_cons, List.not_mem_nil, or_false, not_or]; exact ne12)
  have f68 := f40.keep Kq61 (by simp only [List.mem_cons, List.not_mem_nil, or_false, not_or]; exact ne13)
  have f69 := f41.keep Kq61
  have f70 := f42.keep Kq61 (by simp only [List.mem_cons, List.not_mem_nil, or_false, not_or]; exact ne14)
  have f71 := f43.keep Kq61 (by simp only [List.mem_cons, List.not_mem_nil, or_false, not_or]; exact ne14)
  have f72 := f44.keep Kq61 (by simp only [List.mem_cons, List.not_mem_nil, or_false, not_or]; exact ne14)
  have f73 := f31.keep Kq61
  have f74 := f32.keep Kq61 (by simp only [List.mem_cons, List.not_mem_nil, or_false, not_or]; exact (Ne.symm ne49))
  have f75 := f33.keep Kq61 (by simp only [List.mem_cons, List.not_mem_nil, or_false, not_or]; exact (Ne.symm ne49))
  have pre76 : ∀ tq, Steps p.tables e below (T61.setTop (mkF m 85 #[.val (.ref a1), .val (.ref b11), .val (.int (0 : Int32)), .val (.ref r30), .unset] [(.ref a1)])) tq → Steps p.tables e below (s₁.setTop (entryFrame m #[(.ref a1)] 5)) tq := by
    refine fun tq kq => pre63 tq ?_
    show Steps p.tables e below (T61.setTop (mkF m 84 #[.val (.ref a1), .val (.ref b11), .val (.int (0 : Int32)), .val (.ref r30), .unset] [])) _
    refine XS.aloadN X61.here hx rfl (hb hby d9_2_84) rfl rfl ?_
    exact kq
  obtain ⟨T77, X77, e77, st77⟩ := getF X61 hx hZ hown (host := "") (Or.inl (hw _ (List.mem_of_getElem? (i := 33) rfl))) Via.refl e61 f65 (g := (mkF m 85 #[.val (.ref a1), .val (.ref b11), .val (.int (0 : Int32)), .val (.ref r30), .unset] [(.ref a1)])) rfl rfl (hb hby d9_2_85)
  have pre78 : ∀ tq, Steps p.tables e below (T77.setTop (mkF m 88 #[.val (.ref a1), .val (.ref b11), .val (.int (0 : Int32)), .val (.ref r30), .unset] [(.ref al)])) tq → Steps p.tables e below (s₁.setTop (entryFrame m #[(.ref a1)] 5)) tq := fun tq kq => pre76 tq (st77 _ kq)
  have Z79 : n0 ≤ h61.size := (Nat.le_trans (Nat.le_trans Z29 Kq29.1) Kq61.1)
  obtain ⟨cq79, kq79, q79a, q79b, q79c⟩ := isOf hZ e77 f69
  obtain ⟨_, _, ⟨T79, L79, k79, n79⟩, -, X79, ⟨Lc79, hQ79, l79, y79, z79⟩, st79⟩ := X77.interfaceBack hx (xi := (⟨"java/util/List", "clear", "()V"⟩ : MethodName)) (y := (⟨"java/util/ArrayList", "clear", "()V"⟩ : MethodName)) hown (mvT hZ (hw _ (List.mem_of_getElem? (i := 111) rfl))) (mvT hZ (hw _ (List.mem_of_getElem? (i := 112) rfl))) (mvT hZ (hw _ (List.mem_of_getElem? (i := 113) rfl))) (mvT hZ (hw _ (List.mem_of_getElem? (i := 114) rfl))) (mvT hZ (hw _ (List.mem_of_getElem? (i := 115) rfl))) (mvT hZ (hw _ (List.mem_of_getElem? (i := 116) rfl))) (mvT hZ (hw _ (List.mem_of_getElem? (i := 117) rfl))) (mvT hZ (hw _ (List.mem_of_getElem? (i := 70) rfl))) (by decide) (backOf (W := 0) (rm14 l Z a0 hw [] al sD (0 : Int32) h61 n0 Z79 f69 f70 f71 f72 g_al) hZ (hw _ (List.mem_of_getElem? (i := 118) rfl)) (hw _ (List.mem_of_getElem? (i := 11) rfl)) (by decide) (by decide)) q79a q79b q79c (g := (mkF m 88 #[.val (.ref a1), .val (.ref b11), .val (.int (0 : Int32)), .val (.ref r30), .unset] [(.ref al)])) rfl (by rw [hml]; rfl) (Steps.refl _) (argsL := []) (rest := []) (lenOf pd9_2_3 rfl) rfl (by show 2 * 0 + _ ≤ _; exact Nat.le_of_eq rfl) (hb hby d9_2_88) (fun _ _ => ⟨rfl, e77, (by decide : ((((0 + 0) + 1) + 1) + 0) + 0 ≤ _), (by decide : ((((0 + 0) + 2) + 4) + 0) + 0 ≤ _)⟩)
  dsimp only [Pt.U, Pt.locs, Pt.cells, Pt.slots] at X79 l79 y79 z79 st79 hQ79
  subst l79 y79 z79
  obtain ⟨rfl, Nq79, Kq79, hq79⟩ := hQ79
  have N79 := Fr.app N61 Nq79
  have pre80 : ∀ tq, Steps p.tables e below (T79.setTop (mkF m 93 #[.val (.ref a1), .val (.ref b11), .val (.int (0 : Int32)), .val (.ref r30), .unset] [])) tq → Steps p.tables e below (s₁.setTop (entryFrame m #[(.ref a1)] 5)) tq := fun tq kq => pre78 tq (st79.trans kq)
  have K79 : Keep h0 T79.heap [a1, al] := Keep.trans K61 Kq79 (allS (Or.inl (List.mem_of_getElem? (i := 1) rfl)) all0)
  have f81 := f64.keep Kq79
  have f82 := f65.keep Kq79 (by simp only [List.mem_cons, List.not_mem_nil, or_false, not_or]; exact ne_a1_al)
  have f83 := f66.keep Kq79 (by simp only [List.mem_cons, List.not_mem_nil, or_false, not_or]; exact ne_a1_al)
  have f84 := f67.keep Kq79 (by simp only [List.mem_cons, List.not_mem_nil, or_false, not_or]; exact ne_a1_al)
  have f85 := f68.keep Kq79 (by simp only [List.mem_cons, List.not_mem_nil, or_false, not_or]; exact (Ne.symm ne_al_y))
  have f86 := f69.keep Kq79
  have f87 := f73.keep Kq79
  have f88 := f74.keep Kq79 (by simp only [List.mem_cons, List.not_mem_nil, or_false, not_or]; exact (Ne.symm ne48))
  have f89 := f75.keep Kq79 (by simp only [List.mem_cons, List.not_mem_nil, or_false, not_or]; exact (Ne.symm ne48))
  have f90 := f62.keep Kq79 (by simp only [List.mem_cons, List.not_mem_nil, or_false, not_or]; exact (Ne.symm ne14))
  have pre91 : ∀ tq, Steps p.tables e below (T79.setTop (mkF m 95 #[.val (.ref a1), .val (.ref b11), .val (.int (0 : Int32)), .val (.ref r30), .unset] [.null, (.ref a1)])) tq → Steps p.tables e below (s₁.setTop (entryFrame m #[(.ref a1)] 5)) tq := by
    refine fun tq kq => pre80 tq ?_
    show Steps p.tables e below (T79.setTop (mkF m 93 #[.val (.ref a1), .val (.ref b11), .val (.int (0 : Int32)), .val (.ref r30), .unset] [])) _
    refine XS.aloadN X79.here hx rfl (hb hby d9_2_93) rfl rfl ?_
    show Steps p.tables e below (T79.setTop (mkF m 94 #[.val (.ref a1), .val (.ref b11), .val (.int (0 : Int32)), .val (.ref r30), .unset] [(.ref a1)])) _
    refine XS.aconstNull X79.here hx rfl (hb hby d9_2_94) ?_
    exact kq
  obtain ⟨T92, h92, X92, e92, W92, st92⟩ := putF X79 hx hZ hown (host := "") (Or.inl (hw _ (List.mem_of_getElem? (i := 37) rfl))) Via.refl rfl f84 f81 (Or.inl (hw _ (List.mem_of_getElem? (i := 38) rfl))) (hw _ (List.mem_of_getElem? (i := 1) rfl)) (ty := (.array .double)) (by decide) rfl rfl (g := (mkF m 95 #[.val (.ref a1), .val (.ref b11), .val (.int (0 : Int32)), .val (.ref r30), .unset] [.null, (.ref a1)])) rfl rfl (hb hby d9_2_95)
  have pre93 : ∀ tq, Steps p.tables e below (T92.setTop (mkF m 98 #[.val (.ref a1), .val (.ref b11), .val (.int (0 : Int32)), .val (.ref r30), .unset] [])) tq → Steps p.tables e below (s₁.setTop (entryFrame m #[(.ref a1)] 5)) tq := fun tq kq => pre91 tq (st92 _ kq)
  have N92 := Fr.snoc X92 N79 g_a1
  have K92 : Keep h0 h92 [a1, al] := Keep.wr K79 W92 (Or.inl (List.mem_of_getElem? (i := 0) rfl))
  have f94 := f81.wr W92
  have f95 := f82.other W92 (Or.inr (slot_ne (Or.inr (hw _ (List.mem_of_getElem? (i := 34) rfl))) (Or.inl (hw _ (List.mem_of_getElem? (i := 38) rfl))) (by decide) (t := (.object "java/util/List")) (t' := (.array .double)) (by decide) (by decide)))
  have f96 := f83.other W92 (Or.inr (slot_ne (Or.inl (hw _ (List.mem_of_getElem? (i := 45) rfl))) (Or.inl (hw _ (List.mem_of_getElem? (i := 38) rfl))) (by decide) (t := .int) (t' := (.array .double)) (by decide) (by decide)))
  have f97 := f85.other W92 (Ne.symm ne_a1_y)
  have f98 := f86.wr W92
  have f99 := f87.wr W92
  have f100 := f88.other W92 (Or.inl (Ne.symm ne46))
  have f101 := f89.other W92 (Or.inl (Ne.symm ne46))
  have f102 := f90.other W92 (Ne.symm ne12)
  have f103 := f84.same W92
  obtain ⟨fs, hr, hrun, hended, hW, hsame⟩ := X92.leave (v := some (.ref b11)) (fun h => by rw [Bd.returns] at h; cases h)
  refine ⟨_, _, pre93 _ ?_, hrun, hended, _, _, rfl, ?_, ⟨_, rfl⟩, hW, hsame.mono (by decide) (by decide)⟩
  · skip
    show Steps p.tables e below (T92.setTop (mkF m 98 #[.val (.ref a1), .val (.ref b11), .val (.int (0 : Int32)), .val (.ref r30), .unset] [])) _
    refine XS.aloadN X92.here hx rfl (hb hby d9_2_98) rfl rfl ?_
    show Steps p.tables e below (T92.setTop (mkF m 99 #[.val (.ref a1), .val (.ref b11), .val (.int (0 : Int32)), .val (.ref r30), .unset] [(.ref b11)])) _
    exact X92.areturnOut hx rfl Bd.returns rfl (hb hby d9_2_99) hr
  · show Q9_2 Z a1 al y k2 sD u0 u1 h0 n0 _ T92.heap _
    rw [e92]
    refine ⟨b11, k11, rfl, N92, K92, f102, sz_b11, ?_⟩
    trivial
/-! body 9_3 -/
theorem d9_3_0 : decode prog_82_method_5_code 0 = .ok (.aload_n 0, 1) := by decide +kernel
theorem d9_3_1 : decode prog_82_method_5_code 1 = .ok (.getfield 12, 3) := by decide +kernel
theorem d9_3_4 : decode prog_82_method_5_code 4 = .ok (.invokeinterface 31 1, 5) := by decide +kernel
theorem d9_3_9 : decode prog_82_method_5_code 9 = .ok (.ldc 16, 2) := by decide +kernel
theorem d9_3_11 : decode prog_82_method_5_code 11 = .ok (.imul, 1) := by decide +kernel
theorem d9_3_12 : decode prog_82_method_5_code 12 = .ok (.aload_n 0, 1) := by decide +kernel
theorem d9_3_13 : decode prog_82_method_5_code 13 = .ok (.getfield 21, 3) := by decide +kernel
theorem d9_3_16 : decode prog_82_method_5_code 16 = .ok (.iadd, 1) := by decide +kernel
theorem d9_3_17 : decode prog_82_method_5_code 17 = .ok (.newarray .double, 2) := by decide +kernel
theorem d9_3_19 : decode prog_82_method_5_code 19 = .ok (.astore_n 1, 1) := by decide +kernel
theorem d9_3_20 : decode prog_82_method_5_code 20 = .ok (.iconst 0, 1) := by decide +kernel
theorem d9_3_21 : decode prog_82_method_5_code 21 = .ok (.istore_n 2, 1) := by decide +kernel
theorem d9_3_22 : decode prog_82_method_5_code 22 = .ok (.aload_n 0, 1) := by decide +kernel
theorem d9_3_23 : decode prog_82_method_5_code 23 = .ok (.getfield 12, 3) := by decide +kernel
theorem d9_3_26 : decode prog_82_method_5_code 26 = .ok (.invokeinterface 46 1, 5) := by decide +kernel
theorem d9_3_31 : decode prog_82_method_5_code 31 = .ok (.astore_n 3, 1) := by decide +kernel
theorem d9_3_32 : decode prog_82_method_5_code 32 = .ok (.aload_n 3, 1) := by decide +kernel
theorem d9_3_33 : decode prog_82_method_5_code 33 = .ok (.invokeinterface 50 1, 5) := by decide +kernel
theorem d9_3_38 : decode prog_82_method_5_code 38 = .ok (.ifCond .eq 32, 3) := by decide +kernel
theorem d9_3_70 : decode prog_82_method_5_code 70 = .ok (.aload_n 0, 1) := by decide +kernel
theorem d9_3_71 : decode prog_82_method_5_code 71 = .ok (.getfield 17, 3) := by decide +kernel
theorem d9_3_74 : decode prog_82_method_5_code 74 = .ok (.iconst 0, 1) := by decide +kernel
theorem d9_3_75 : decode prog_82_method_5_code 75 = .ok (.aload_n 1, 1) := by decide +kernel
theorem d9_3_76 : decode prog_82_method_5_code 76 = .ok (.iload_n 2, 1) := by decide +kernel
theorem d9_3_77 : decode prog_82_method_5_code 77 = .ok (.aload_n 0, 1) := by decide +kernel
theorem d9_3_78 : decode prog_82_method_5_code 78 = .ok (.getfield 21, 3) := by decide +kernel
theorem d9_3_81 : decode prog_82_method_5_code 81 = .ok (.invokestatic 60, 3) := by decide +kernel
theorem d9_3_84 : decode prog_82_method_5_code 84 = .ok (.aload_n 0, 1) := by decide +kernel
theorem d9_3_85 : decode prog_82_method_5_code 85 = .ok (.getfield 12, 3) := by decide +kernel
theorem d9_3_88 : decode prog_82_method_5_code 88 = .ok (.invokeinterface 66 1, 5) := by decide +kernel
theorem d9_3_93 : decode prog_82_method_5_code 93 = .ok (.aload_n 0, 1) := by decide +kernel
theorem d9_3_94 : decode prog_82_method_5_code 94 = .ok (.aconst_null, 1) := by decide +kernel
theorem d9_3_95 : decode prog_82_method_5_code 95 = .ok (.putfield 17, 3) := by decide +kernel
theorem d9_3_98 : decode prog_82_method_5_code 98 = .ok (.aload_n 1, 1) := by decide +kernel
theorem d9_3_99 : decode prog_82_method_5_code 99 = .ok (.areturn, 1) := by decide +kernel
theorem pn_9_3 : plainName "com/example/crisp_haptics/crisphaptics/SampleBlocks" = true := by first | (simp [plainName, overriddenIn]; done) | decide +kernel
theorem pd9_3_0 : parseMethodDescriptor "()I" = some ⟨[], some .int⟩ := by decide +kernel
theorem pd9_3_1 : parseMethodDescriptor "()Ljava/util/Iterator;" = some ⟨[], some (.object "java/util/Iterator")⟩ := by decide +kernel
theorem pd9_3_2 : parseMethodDescriptor "()Z" = some ⟨[], some .boolean⟩ := by decide +kernel
theorem pd9_3_3 : parseMethodDescriptor "()V" = some ⟨[], none⟩ := by decide +kernel
theorem ef_9_3 (m : MethodId) (a1 : Addr) : entryFrame m #[(.ref a1)] 5 = mkF m 0 #[.val (.ref a1), .unset, .unset, .unset, .unset] [] := by first | (simp [entryFrame, mkF, argsToLocals, Value.category]; done) | rfl
def Q9_3 (Z : State) (a1 : Addr) (al : Addr) (y : Addr) (k2 : ClassId) (sD : Addr) (u0 : UInt64) (u1 : UInt64) (u2 : UInt64) (h0 : Heap) (n0 : Nat) (v : Option Value) (h : Heap) (L : List Loc) : Prop := ∃ r : Addr, ∃ k3 : ClassId, v = some (.ref r) ∧ Fr n0 L ∧ Keep h0 h [a1, al] ∧ Arv Z h r k3 .double (3 : Int32) [(.double u0), (.double u1), (.double u2)] (.double 0) ∧ h0.size ≤ r ∧ (True)
set_option maxRecDepth 65536 in
set_option maxHeartbeats 40000000 in
theorem rm9_3 (l : Launch) (Z : State) (a0 : Array Value) (hw : ∀ d ∈ tables_1, d.before a0 Z = true) (ws : List Jvm.Cond) (a1 : Addr) (al : Addr) (y : Addr) (k2 : ClassId) (sD : Addr) (u0 : UInt64) (u1 : UInt64) (u2 : UInt64) (h0 : Heap) (n0 : Nat) (Z0 : n0 ≤ h0.size) (E_a1 : Exa Z h0 a1 "com/example/crisp_haptics/crisphaptics/SampleBlocks") (F_fullBlocks_a1 : Fld Z h0 a1 "com/example/crisp_haptics/crisphaptics/SampleBlocks" "fullBlocks" "Ljava/util/List;" (.ref al)) (F_inBlock_a1 : Fld Z h0 a1 "com/example/crisp_haptics/crisphaptics/SampleBlocks" "inBlock" "I" (.int (3 : Int32))) (F_block_a1 : Fld Z h0 a1 "com/example/crisp_haptics/crisphaptics/SampleBlocks" "block" "[D" (.ref y)) (V_y : Arv Z h0 y k2 .double (3 : Int32) [(.double u0), (.double u1), (.double u2)] (.double 0)) (E_al : Exa Z h0 al "java/util/ArrayList") (F_modCount_al : Fld Z h0 al "java/util/AbstractList" "modCount" "I" (.int (0 : Int32))) (F_elementData_al : Fld Z h0 al "java/util/ArrayList" "elementData" "[Ljava/lang/Object;" (.ref sD)) (F_size_al : Fld Z h0 al "java/util/ArrayList" "size" "I" (.int (0 : Int32))) (g_a1 : n0 ≤ a1) (g_al : n0 ≤ al) (ne_a1_al : a1 ≠ al) (ne_a1_y : a1 ≠ y) (ne_al_y : al ≠ y) :
    MetFree l (⟨"com/example/crisp_haptics/crisphaptics/SampleBlocks", "moveToArray", "()[D"⟩ : MethodName) (head1 (Jvm.Cond.code (⟨"com/example/crisp_haptics/crisphaptics/SampleBlocks", "moveToArray", "()[D"⟩ : MethodName) prog_82_method_5_code 5 (some (.array .double)) :: ws) ({ frames := 3, cells := 2, slots := 7, locals := 40 } : Room)) (fun a U => a = #[(.ref a1)] ∧ Z.Warmed39 U.vm ∧ U.heap = h0) (fun _ _ _ _ _ => True) (fun _ U o U' => ∃ v L, o = .returned v ∧ Q9_3 Z a1 al y k2 sD u0 u1 u2 h0 n0 v U'.heap L ∧ FrameEnd U o U' L ({ frames := 3, cells := 2, slots := 7, locals := 40 } : Room).cells ({ frames := 3, cells := 2, slots := 7, locals := 40 } : Room).slots) := by
  refine MetFree.of_bodySF (plainFor_of_name pn_9_3) hisR ?_
  intro p e s m args below meth c s₁ Bd hml0 hP hK
  obtain ⟨rfl, hZ, hh⟩ := hP
  have hx := Bd.exec
  have hby := Bd.bytes
  have hml : c.maxLocals = 5 := hml0
  have hown : s.vm.findClass "com/example/crisp_haptics/crisphaptics/SampleBlocks" = some m.cls := findClass_of_methodNamed Bd.named
  have hnm := (name_of_methodNamed Bd.named Bd.method).1
  have X0 : Stand p l e ({ frames := 3, cells := 2, slots := 7, locals := 40 } : Room) s m #[(.ref a1)] below meth c s₁ [] 0 0 := Stand.of_body Bd
  have e0 : s₁.heap = h0 := by rw [← hh, Bd.state]; rfl
  have N0 := Fr.nil n0
  have pre0 : ∀ tq, Steps p.tables e below (s₁.setTop (mkF m 0 #[.val (.ref a1), .unset, .unset, .unset, .unset] [])) tq → Steps p.tables e below (s₁.setTop (entryFrame m #[(.ref a1)] 5)) tq := fun tq kq => castTop (ef_9_3 m a1) kq
  have pre1 : ∀ tq, Steps p.tables e below (s₁.setTop (mkF m 1 #[.val (.ref a1), .unset, .unset, .unset, .unset] [(.ref a1)])) tq → Steps p.tables e below (s₁.setTop (entryFrame m #[(.ref a1)] 5)) tq := by
    refine fun tq kq => pre0 tq ?_
    show Steps p.tables e below (s₁.setTop (mkF m 0 #[.val (.ref a1), .unset, .unset, .unset, .unset] [])) _
    refine XS.aloadN X0.here hx rfl (hb hby d9_3_0) rfl rfl ?_
    exact kq
  obtain ⟨T2, X2, e2, st2⟩ := getF X0 hx hZ hown (host := "") (Or.inl (hw _ (List.mem_of_getElem? (i := 33) rfl))) Via.refl e0 F_fullBlocks_a1 (g := (mkF m 1 #[.val (.ref a1), .unset, .unset, .unset, .unset] [(.ref a1)])) rfl rfl (hb hby d9_3_1)
  have pre3 : ∀ tq, Steps p.tables e below (T2.setTop (mkF m 4 #[.val (.ref a1), .unset, .unset, .unset, .unset] [(.ref al)])) tq → Steps p.tables e below (s₁.setTop (entryFrame m #[(.ref a1)] 5)) tq := fun tq kq => pre1 tq (st2 _ kq)
  have Z4 : n0 ≤ h0.size := Z0
  obtain ⟨cq4, kq4, q4a, q4b, q4c⟩ := isOf hZ e2 E_al
  obtain ⟨_, _, ⟨T4, L4, k4, n4⟩, -, X4, ⟨Lc4, hQ4, l4, y4, z4⟩, st4⟩ := X2.interfaceBack hx (xi := (⟨"java/util/List", "size", "()I"⟩ : MethodName)) (y := (⟨"java/util/ArrayList", "size", "()I"⟩ : MethodName)) hown (mvT hZ (hw _ (List.mem_of_getElem? (i := 63) rfl))) (mvT hZ (hw _ (List.mem_of_getElem? (i := 64) rfl))) (mvT hZ (hw _ (List.mem_of_getElem? (i := 65) rfl))) (mvT hZ (hw _ (List.mem_of_getElem? (i := 66) rfl))) (mvT hZ (hw _ (List.mem_of_getElem? (i := 67) rfl))) (mvT hZ (hw _ (List.mem_of_getElem? (i := 68) rfl))) (mvT hZ (hw _ (List.mem_of_getElem? (i := 69) rfl))) (mvT hZ (hw _ (List.mem_of_getElem? (i := 70) rfl))) (by decide) (backOf (W := 0) (rm10 l Z a0 hw [] al (0 : Int32) h0 n0 Z4 F_size_al) hZ (hw _ (List.mem_of_getElem? (i := 71) rfl)) (hw _ (List.mem_of_getElem? (i := 11) rfl)) (by decide) (by decide)) q4a q4b q4c (g := (mkF m 4 #[.val (.ref a1), .unset, .unset, .unset, .unset] [(.ref al)])) rfl (by rw [hml]; rfl) (Steps.refl _) (argsL := []) (rest := []) (lenOf pd9_3_0 rfl) rfl (by show 2 * 0 + _ ≤ _; exact Nat.le_of_eq rfl) (hb hby d9_3_4) (fun _ _ => ⟨rfl, e2, (by decide : 0 + 0 ≤ _), (by decide : 0 + 0 ≤ _)⟩)
  dsimp only [Pt.U, Pt.locs, Pt.cells, Pt.slots] at X4 l4 y4 z4 st4 hQ4
  subst l4 y4 z4
  obtain ⟨r5, rfl, Nq4, ehq4, hq4⟩ := hQ4
  have N4 := Fr.app N0 Nq4
  have pre6 : ∀ tq, Steps p.tables e below (T4.setTop (mkF m 9 #[.val (.ref a1), .unset, .unset, .unset, .unset] [(.int r5)])) tq → Steps p.tables e below (s₁.setTop (entryFrame m #[(.ref a1)] 5)) tq := fun tq kq => pre3 tq (st4.trans kq)
  subst hq4
  have pre7 : ∀ tq, Steps p.tables e below (T4.setTop (mkF m 13 #[.val (.ref a1), .unset, .unset, .unset, .unset] [(.ref a1), (.int (0 : Int32))])) tq → Steps p.tables e below (s₁.setTop (entryFrame m #[(.ref a1)] 5)) tq := by
    refine fun tq kq => pre6 tq ?_
    show Steps p.tables e below (T4.setTop (mkF m 9 #[.val (.ref a1), .unset, .unset, .unset, .unset] [(.int (0 : Int32))])) _
    refine X4.ldcInt hx hown (mvT hZ (hw _ (List.mem_of_getElem? (i := 35) rfl))) (g := (mkF m 9 #[.val (.ref a1), .unset, .unset, .unset, .unset] [(.int (0 : Int32))])) rfl (hb hby d9_3_9) _ ?_
    show Steps p.tables e below (T4.setTop (mkF m 11 #[.val (.ref a1), .unset, .unset, .unset, .unset] [(.int (32768 : Int32)), (.int (0 : Int32))])) _
    refine XS.imul X4.here hx rfl (hb hby d9_3_11) rfl ?_
    show Steps p.tables e below (T4.setTop (mkF m 12 #[.val (.ref a1), .unset, .unset, .unset, .unset] [(.int (0 : Int32))])) _
    refine XS.aloadN X4.here hx rfl (hb hby d9_3_12) rfl rfl ?_
    exact kq
  obtain ⟨T8, X8, e8, st8⟩ := getF X4 hx hZ hown (host := "") (Or.inl (hw _ (List.mem_of_getElem? (i := 44) rfl))) Via.refl ehq4 F_inBlock_a1 (g := (mkF m 13 #[.val (.ref a1), .unset, .unset, .unset, .unset] [(.ref a1), (.int (0 : Int32))])) rfl rfl (hb hby d9_3_13)
  have pre9 : ∀ tq, Steps p.tables e below (T8.setTop (mkF m 16 #[.val (.ref a1), .unset, .unset, .unset, .unset] [(.int (3 : Int32)), (.int (0 : Int32))])) tq → Steps p.tables e below (s₁.setTop (entryFrame m #[(.ref a1)] 5)) tq := fun tq kq => pre7 tq (st8 _ kq)
  have pre10 : ∀ tq, Steps p.tables e below (T8.setTop (mkF m 17 #[.val (.ref a1), .unset, .unset, .unset, .unset] [(.int (3 : Int32))])) tq → Steps p.tables e below (s₁.setTop (entryFrame m #[(.ref a1)] 5)) tq := by
    refine fun tq kq => pre9 tq ?_
    show Steps p.tables e below (T8.setTop (mkF m 16 #[.val (.ref a1), .unset, .unset, .unset, .unset] [(.int (3 : Int32)), (.int (0 : Int32))])) _
    refine XS.iadd X8.here hx rfl (hb hby d9_3_16) rfl ?_
    exact kq
  obtain ⟨T11, h11, k11, X11, e11, E11, A11, st11⟩ := newP X8 hx hZ (hw _ (List.mem_of_getElem? (i := 36) rfl)) e8 (g := (mkF m 17 #[.val (.ref a1), .unset, .unset, .unset, .unset] [(.int (3 : Int32))])) rfl (hb hby d9_3_17) rfl (by decide) (cap := 3) (by decide) (by decide) (by decide) (by decide)
  obtain ⟨b11, g11⟩ : ∃ z, z = h0.size := ⟨_, rfl⟩
  rw [← g11] at A11 st11
  have g_b11 : n0 ≤ b11 := Nat.le_trans Z0 (Nat.le_of_eq g11.symm)
  have sz_b11 : h0.size ≤ b11 := Nat.le_trans (Nat.le_refl h0.size) (Nat.le_of_eq g11.symm)
  have ne12 : a1 ≠ b11 := Nat.ne_of_lt (Nat.lt_of_lt_of_le E_a1.lt (Nat.le_of_eq g11.symm))
  have ne13 : y ≠ b11 := Nat.ne_of_lt (Nat.lt_of_lt_of_le V_y.lt (Nat.le_of_eq g11.symm))
  have ne14 : al ≠ b11 := Nat.ne_of_lt (Nat.lt_of_lt_of_le E_al.lt (Nat.le_of_eq g11.symm))
  have pre15 : ∀ tq, Steps p.tables e below (T11.setTop (mkF m 19 #[.val (.ref a1), .unset, .unset, .unset, .unset] [(.ref b11)])) tq → Steps p.tables e below (s₁.setTop (entryFrame m #[(.ref a1)] 5)) tq := fun tq kq => pre10 tq (st11 _ kq)
  have f16 := E_a1.ext E11
  have f17 := F_fullBlocks_a1.ext E11
  have f18 := F_inBlock_a1.ext E11
  have f19 := F_block_a1.ext E11
  have f20 := V_y.ext E11
  have f21 := E_al.ext E11
  have f22 := F_modCount_al.ext E11
  have f23 := F_elementData_al.ext E11
  have f24 := F_size_al.ext E11
  have K11 : Keep h0 h11 [a1, al] := Keep.ext (Keep.refl h0 [a1, al]) E11
  have f25 : Arv Z h11 b11 k11 .double (3 : Int32) [(.double 0), (.double 0), (.double 0)] (.double 0) := (Arv.new A11 (by decide)).pad (pad_rep [] (.double 0) 3)
  have pre26 : ∀ tq, Steps p.tables e below (T11.setTop (mkF m 23 #[.val (.ref a1), .val (.ref b11), .val (.int (0 : Int32)), .unset, .unset] [(.ref a1)])) tq → Steps p.tables e below (s₁.setTop (entryFrame m #[(.ref a1)] 5)) tq := by
    refine fun tq kq => pre15 tq ?_
    show Steps p.tables e below (T11.setTop (mkF m 19 #[.val (.ref a1), .unset, .unset, .unset, .unset] [(.ref b11)])) _
    refine XS.astoreN X11.here hx rfl (hb hby d9_3_19) rfl rfl (l' := #[.val (.ref a1), .val (.ref b11), .unset, .unset, .unset]) rfl ?_
    show Steps p.tables e below (T11.setTop (mkF m 20 #[.val (.ref a1), .val (.ref b11), .unset, .unset, .unset] [])) _
    refine XS.iconst X11.here hx rfl (hb hby d9_3_20) ?_
    show Steps p.tables e below (T11.setTop (mkF m 21 #[.val (.ref a1), .val (.ref b11), .unset, .unset, .unset] [(.int (0 : Int32))])) _
    refine XS.istoreN X11.here hx rfl (hb hby d9_3_21) rfl (l' := #[.val (.ref a1), .val (.ref b11), .val (.int (0 : Int32)), .unset, .unset]) rfl ?_
    show Steps p.tables e below (T11.setTop (mkF m 22 #[.val (.ref a1), .val (.ref b11), .val (.int (0 : Int32)), .unset, .unset] [])) _
    refine XS.aloadN X11.here hx rfl (hb hby d9_3_22) rfl rfl ?_
    exact kq
  obtain ⟨T27, X27, e27, st27⟩ := getF X11 hx hZ hown (host := "") (Or.inl (hw _ (List.mem_of_getElem? (i := 33) rfl))) Via.refl e11 f17 (g := (mkF m 23 #[.val (.ref a1), .val (.ref b11), .val (.int (0 : Int32)), .unset, .unset] [(.ref a1)])) rfl rfl (hb hby d9_3_23)
  have pre28 : ∀ tq, Steps p.tables e below (T27.setTop (mkF m 26 #[.val (.ref a1), .val (.ref b11), .val (.int (0 : Int32)), .unset, .unset] [(.ref al)])) tq → Steps p.tables e below (s₁.setTop (entryFrame m #[(.ref a1)] 5)) tq := fun tq kq => pre26 tq (st27 _ kq)
  have Z29 : n0 ≤ h11.size := (Nat.le_trans Z0 E11.1)
  obtain ⟨cq29, kq29, q29a, q29b, q29c⟩ := isOf hZ e27 f21
  obtain ⟨_, _, ⟨T29, L29, k29, n29⟩, -, X29, ⟨Lc29, hQ29, l29, y29, z29⟩, st29⟩ := X27.interfaceBack hx (xi := (⟨"java/util/List", "iterator", "()Ljava/util/Iterator;"⟩ : MethodName)) (y := (⟨"java/util/ArrayList", "iterator", "()Ljava/util/Iterator;"⟩ : MethodName)) hown (mvT hZ (hw _ (List.mem_of_getElem? (i := 74) rfl))) (mvT hZ (hw _ (List.mem_of_getElem? (i := 75) rfl))) (mvT hZ (hw _ (List.mem_of_getElem? (i := 76) rfl))) (mvT hZ (hw _ (List.mem_of_getElem? (i := 77) rfl))) (mvT hZ (hw _ (List.mem_of_getElem? (i := 78) rfl))) (mvT hZ (hw _ (List.mem_of_getElem? (i := 79) rfl))) (mvT hZ (hw _ (List.mem_of_getElem? (i := 80) rfl))) (mvT hZ (hw _ (List.mem_of_getElem? (i := 70) rfl))) (by decide) (backOf (W := 0) (rm11 l Z a0 hw [] al (0 : Int32) h11 n0 Z29 f21 f22) hZ (hw _ (List.mem_of_getElem? (i := 81) rfl)) (hw _ (List.mem_of_getElem? (i := 11) rfl)) (by decide) (by decide)) q29a q29b q29c (g := (mkF m 26 #[.val (.ref a1), .val (.ref b11), .val (.int (0 : Int32)), .unset, .unset] [(.ref al)])) rfl (by rw [hml]; rfl) (Steps.refl _) (argsL := []) (rest := []) (lenOf pd9_3_1 rfl) rfl (by show 2 * 0 + _ ≤ _; exact Nat.le_of_eq rfl) (hb hby d9_3_26) (fun _ _ => ⟨rfl, e27, (by decide : ((0 + 0) + 1) + 1 ≤ _), (by decide : ((0 + 0) + 3) + 4 ≤ _)⟩)
  dsimp only [Pt.U, Pt.locs, Pt.cells, Pt.slots] at X29 l29 y29 z29 st29 hQ29
  subst l29 y29 z29
  obtain ⟨r30, rfl, Nq29, Kq29, f31, f32, f33, f34, hq29⟩ := hQ29
  have N29 := Fr.app N4 Nq29
  have pre35 : ∀ tq, Steps p.tables e below (T29.setTop (mkF m 31 #[.val (.ref a1), .val (.ref b11), .val (.int (0 : Int32)), .unset, .unset] [(.ref r30)])) tq → Steps p.tables e below (s₁.setTop (entryFrame m #[(.ref a1)] 5)) tq := fun tq kq => pre28 tq (st29.trans kq)
  have K29 : Keep h0 T29.heap [a1, al] := Keep.trans K11 Kq29 all0
  have f36 := f16.keep Kq29
  have f37 := f17.keep Kq29 (List.not_mem_nil)
  have f38 := f18.keep Kq29 (List.not_mem_nil)
  have f39 := f19.keep Kq29 (List.not_mem_nil)
  have f40 := f20.keep Kq29 (List.not_mem_nil)
  have f41 := f21.keep Kq29
  have f42 := f22.keep Kq29 (List.not_mem_nil)
  have f43 := f23.keep Kq29 (List.not_mem_nil)
  have f44 := f24.keep Kq29 (List.not_mem_nil)
  have f45 := f25.keep Kq29 (List.not_mem_nil)
  have g_r30 : n0 ≤ r30 := Nat.le_trans Z29 f34
  have sz_r30 : h0.size ≤ r30 := Nat.le_trans (Nat.le_trans (Nat.le_refl h0.size) E11.1) f34
  have ne46 : a1 ≠ r30 := Nat.ne_of_lt (Nat.lt_of_lt_of_le f16.lt f34)
  have ne47 : y ≠ r30 := Nat.ne_of_lt (Nat.lt_of_lt_of_le f20.lt f34)
  have ne48 : al ≠ r30 := Nat.ne_of_lt (Nat.lt_of_lt_of_le f21.lt f34)
  have ne49 : b11 ≠ r30 := Nat.ne_of_lt (Nat.lt_of_lt_of_le f25.lt f34)
  have pre50 : ∀ tq, Steps p.tables e below (T29.setTop (mkF m 33 #[.val (.ref a1), .val (.ref b11), .val (.int (0 : Int32)), .val (.ref r30), .unset] [(.ref r30)])) tq → Steps p.tables e below (s₁.setTop (entryFrame m #[(.ref a1)] 5)) tq := by
    refine fun tq kq => pre35 tq ?_
    show Steps p.tables e below (T29.setTop (mkF m 31 #[.val (.ref a1), .val (.ref b11), .val (.int (0 : Int32)), .unset, .unset] [(.ref r30)])) _
    refine XS.astoreN X29.here hx rfl (hb hby d9_3_31) rfl rfl (l' := #[.val (.ref a1), .val (.ref b11), .val (.int (0 : Int32)), .val (.ref r30), .unset]) rfl ?_
    show Steps p.tables e below (T29.setTop (mkF m 32 #[.val (.ref a1), .val (.ref b11), .val (.int (0 : Int32)), .val (.ref r30), .unset] [])) _
    refine XS.aloadN X29.here hx rfl (hb hby d9_3_32) rfl rfl ?_
    exact kq
  have Z51 : n0 ≤ T29.heap.size := (Nat.le_trans Z29 Kq29.1)
  obtain ⟨cq51, kq51, q51a, q51b, q51c⟩ := isOf hZ rfl f31
  obtain ⟨_, _, ⟨T51, L51, k51, n51⟩, -, X51, ⟨Lc51, hQ51, l51, y51, z51⟩, st51⟩ := X29.interfaceBack hx (xi := (⟨"java/util/Iterator", "hasNext", "()Z"⟩ : MethodName)) (y := (⟨"java/util/ArrayList$Itr", "hasNext", "()Z"⟩ : MethodName)) hown (mvT hZ (hw _ (List.mem_of_getElem? (i := 98) rfl))) (mvT hZ (hw _ (List.mem_of_getElem? (i := 99) rfl))) (mvT hZ (hw _ (List.mem_of_getElem? (i := 100) rfl))) (mvT hZ (hw _ (List.mem_of_getElem? (i := 101) rfl))) (mvT hZ (hw _ (List.mem_of_getElem? (i := 102) rfl))) (mvT hZ (hw _ (List.mem_of_getElem? (i := 103) rfl))) (mvT hZ (hw _ (List.mem_of_getElem? (i := 104) rfl))) (mvT hZ (hw _ (List.mem_of_getElem? (i := 105) rfl))) (by decide) (backOf (W := 0) (rm13 l Z a0 hw [] r30 al T29.heap n0 Z51 f33 f32 f44) hZ (hw _ (List.mem_of_getElem? (i := 106) rfl)) (hw _ (List.mem_of_getElem? (i := 84) rfl)) (by decide) (by decide)) q51a q51b q51c (g := (mkF m 33 #[.val (.ref a1), .val (.ref b11), .val (.int (0 : Int32)), .val (.ref r30), .unset] [(.ref r30)])) rfl (by rw [hml]; rfl) (Steps.refl _) (argsL := []) (rest := []) (lenOf pd9_3_2 rfl) rfl (by show 2 * 0 + _ ≤ _; exact Nat.le_of_eq rfl) (hb hby d9_3_33) (fun _ _ => ⟨rfl, rfl, (by decide : (((0 + 0) + 1) + 1) + 0 ≤ _), (by decide : (((0 + 0) + 3) + 4) + 0 ≤ _)⟩)
  dsimp only [Pt.U, Pt.locs, Pt.cells, Pt.slots] at X51 l51 y51 z51 st51 hQ51
  subst l51 y51 z51
  obtain ⟨r52, rfl, Nq51, ehq51, hq51⟩ := hQ51
  have N51 := Fr.app N29 Nq51
  have pre53 : ∀ tq, Steps p.tables e below (T51.setTop (mkF m 38 #[.val (.ref a1), .val (.ref b11), .val (.int (0 : Int32)), .val (.ref r30), .unset] [(.int r52)])) tq → Steps p.tables e below (s₁.setTop (entryFrame m #[(.ref a1)] 5)) tq := fun tq kq => pre50 tq (st51.trans kq)
  subst hq51
  have pre54 : ∀ tq, Steps p.tables e below (T51.setTop (mkF m 70 #[.val (.ref a1), .val (.ref b11), .val (.int (0 : Int32)), .val (.ref r30), .unset] [])) tq → Steps p.tables e below (s₁.setTop (entryFrame m #[(.ref a1)] 5)) tq := by
    refine fun tq kq => pre53 tq ?_
    show Steps p.tables e below (T51.setTop (mkF m 38 #[.val (.ref a1), .val (.ref b11), .val (.int (0 : Int32)), .val (.ref r30), .unset] [(.int (0 : Int32))])) _
    refine XS.ifYes X51.here hx rfl (pc0 := 38) (pc' := 70) rfl (hb hby d9_3_38) rfl ((if0 _ _).trans (teq (by decide : (0 : Int32) = (0 : Int32))).1) (by decide) (by decide) ?_
    exact kq
  have pre55 : ∀ tq, Steps p.tables e below (T51.setTop (mkF m 71 #[.val (.ref a1), .val (.ref b11), .val (.int (0 : Int32)), .val (.ref r30), .unset] [(.ref a1)])) tq → Steps p.tables e below (s₁.setTop (entryFrame m #[(.ref a1)] 5)) tq := by
    refine fun tq kq => pre54 tq ?_
    show Steps p.tables e below (T51.setTop (mkF m 70 #[.val (.ref a1), .val (.ref b11), .val (.int (0 : Int32)), .val (.ref r30), .unset] [])) _
    refine XS.aloadN X51.here hx rfl (hb hby d9_3_70) rfl rfl ?_
    exact kq
  obtain ⟨T56, X56, e56, st56⟩ := getF X51 hx hZ hown (host := "") (Or.inl (hw _ (List.mem_of_getElem? (i := 37) rfl))) Via.refl ehq51 f39 (g := (mkF m 71 #[.val (.ref a1), .val (.ref b11), .val (.int (0 : Int32)), .val (.ref r30), .unset] [(.ref a1)])) rfl rfl (hb hby d9_3_71)
  have pre57 : ∀ tq, Steps p.tables e below (T56.setTop (mkF m 74 #[.val (.ref a1), .val (.ref b11), .val (.int (0 : Int32)), .val (.ref r30), .unset] [(.ref y)])) tq → Steps p.tables e below (s₁.setTop (entryFrame m #[(.ref a1)] 5)) tq := fun tq kq => pre55 tq (st56 _ kq)
  have pre58 : ∀ tq, Steps p.tables e below (T56.setTop (mkF m 78 #[.val (.ref a1), .val (.ref b11), .val (.int (0 : Int32)), .val (.ref r30), .unset] [(.ref a1), (.int (0 : Int32)), (.ref b11), (.int (0 : Int32)), (.ref y)])) tq → Steps p.tables e below (s₁.setTop (entryFrame m #[(.ref a1)] 5)) tq := by
    refine fun tq kq => pre57 tq ?_
    show Steps p.tables e below (T56.setTop (mkF m 74 #[.val (.ref a1), .val (.ref b11), .val (.int (0 : Int32)), .val (.ref r30), .unset] [(.ref y)])) _
    refine XS.iconst X56.here hx rfl (hb hby d9_3_74) ?_
    show Steps p.tables e below (T56.setTop (mkF m 75 #[.val (.ref a1), .val (.ref b11), .val (.int (0 : Int32)), .val (.ref r30), .unset] [(.int (0 : Int32)), (.ref y)])) _
    refine XS.aloadN X56.here hx rfl (hb hby d9_3_75) rfl rfl ?_
    show Steps p.tables e below (T56.setTop (mkF m 76 #[.val (.ref a1), .val (.ref b11), .val (.int (0 : Int32)), .val (.ref r30), .unset] [(.ref b11), (.int (0 : Int32)), (.ref y)])) _
    refine XS.iloadN X56.here hx rfl (hb hby d9_3_76) rfl ?_
    show Steps p.tables e below (T56.setTop (mkF m 77 #[.val (.ref a1), .val (.ref b11), .val (.int (0 : Int32)), .val (.ref r30), .unset] [(.int (0 : Int32)), (.ref b11), (.int (0 : Int32)), (.ref y)])) _
    refine XS.aloadN X56.here hx rfl (hb hby d9_3_77) rfl rfl ?_
    exact kq
  obtain ⟨T59, X59, e59, st59⟩ := getF X56 hx hZ hown (host := "") (Or.inl (hw _ (List.mem_of_getElem? (i := 44) rfl))) Via.refl e56 f38 (g := (mkF m 78 #[.val (.ref a1), .val (.ref b11), .val (.int (0 : Int32)), .val (.ref r30), .unset] [(.ref a1), (.int (0 : Int32)), (.ref b11), (.int (0 : Int32)), (.ref y)])) rfl rfl (hb hby d9_3_78)
  have pre60 : ∀ tq, Steps p.tables e below (T59.setTop (mkF m 81 #[.val (.ref a1), .val (.ref b11), .val (.int (0 : Int32)), .val (.ref r30), .unset] [(.int (3 : Int32)), (.int (0 : Int32)), (.ref b11), (.int (0 : Int32)), (.ref y)])) tq → Steps p.tables e below (s₁.setTop (entryFrame m #[(.ref a1)] 5)) tq := fun tq kq => pre58 tq (st59 _ kq)
  obtain ⟨T61, h61, Lc61, X61, e61, N61, Kq61, f62', st61⟩ := cpA X59 hx hZ hown (hw _ (List.mem_of_getElem? (i := 110) rfl)) (hw _ (List.mem_of_getElem? (i := 57) rfl)) (hw _ (List.mem_of_getElem? (i := 55) rfl)) (hw _ (List.mem_of_getElem? (i := 56) rfl)) e59 f40 f45 (us := [(.double u0), (.double u1), (.double u2)]) (Or.inl ⟨rfl, rfl⟩) (by decide) (by decide) (by decide) (by decide) (by decide) rfl (by decide) N51 g_b11 (g := (mkF m 81 #[.val (.ref a1), .val (.ref b11), .val (.int (0 : Int32)), .val (.ref r30), .unset] [(.int (3 : Int32)), (.int (0 : Int32)), (.ref b11), (.int (0 : Int32)), (.ref y)])) rfl (by rw [hml]; rfl) (rest := []) rfl (hb hby d9_3_81) (by decide) (W := 0) (by show 2 * 0 + _ ≤ _; exact Nat.le_of_eq rfl) (by decide)
  have f62 : Arv Z h61 b11 k11 .double (3 : Int32) [(.double u0), (.double u1), (.double u2)] (.double 0) := f62'
  have pre63 : ∀ tq, Steps p.tables e below (T61.setTop (mkF m 84 #[.val (.ref a1), .val (.ref b11), .val (.int (0 : Int32)), .val (.ref r30), .unset] [])) tq → Steps p.tables e below (s₁.setTop (entryFrame m #[(.ref a1)] 5)) tq := fun tq kq => pre60 tq (st61 _ kq)
  have K61 : Keep h0 h61 [a1, al] := Keep.trans K29 Kq61 (allS (Or.inr sz_b11) all0)
  have f64 := f36.keep Kq61
  have f65 := f37.keep Kq61 (by simp only [List.mem_cons, List.not_mem_nil, or_false, not_or]; exact ne12)
  have f66 := f38.keep Kq61 (by simp only [List.mem_cons, List.not_mem_nil, or_false, not_or]; exact ne12)
  have f67 := f39.keep Kq61 (by simp only [List.mem_cons, List.not_mem_nil, or_false, not_or]; exact ne12)
  have f68 := f40.keep Kq61 (by simp only [List.mem_cons, List.not_mem_nil, or_false, not_or]; exact ne13)
  have f69 := f41.keep Kq61
  have f70 := f42.keep Kq61 (by simp only [List.mem_cons, List.not_mem_nil, or_false, not_or]; exact ne14)
  have f71 := f43.keep Kq61 (by simp only [List.mem_cons, List.not_mem_nil, or_false, not_or]; exact ne14)
  have f72 := f44.keep Kq61 (by simp only [List.mem_cons, List.not_mem_nil, or_false, not_or]; exact ne14)
  have f73 := f31.keep Kq61
  have f74 := f32.keep Kq61 (by simp only [List.mem_cons, List.not_mem_nil, or_false, not_or]; exact (Ne.symm ne49))
  have f75 := f33.keep Kq61 (by simp only [List.mem_cons, List.not_mem_nil, or_false, not_or]; exact (Ne.symm ne49))
  have pre76 : ∀ tq, Steps p.tables e below (T61.setTop (mkF m 85 #[.val (.ref a1), .val (.ref b11), .val (.int (0 : Int32)), .val (.ref r30), .unset] [(.ref a1)])) tq → Steps p.tables e below (s₁.setTop (entryFrame m #[(.ref a1)] 5)) tq := by
    refine fun tq kq => pre63 tq ?_
    show Steps p.tables e below (T61.setTop (mkF m 84 #[.val (.ref a1), .val (.ref b11), .val (.int (0 : Int32)), .val (.ref r30), .unset] [])) _
    refine XS.aloadN X61.here hx rfl (hb hby d9_3_84) rfl rfl ?_
    exact kq
  obtain ⟨T77, X77, e77, st77⟩ := getF X61 hx hZ hown (host := "") (Or.inl (hw _ (List.mem_of_getElem? (i := 33) rfl))) Via.refl e61 f65 (g := (mkF m 85 #[.val (.ref a1), .val (.ref b11), .val (.int (0 : Int32)), .val (.ref r30), .unset] [(.ref a1)])) rfl rfl (hb hby d9_3_85)
  have pre78 : ∀ tq, Steps p.tables e below (T77.setTop (mkF m 88 #[.val (.ref a1), .val (.ref b11), .val (.int (0 : Int32)), .val (.ref r30), .unset] [(.ref al)])) tq → Steps p.tables e below (s₁.setTop (entryFrame m #[(.ref a1)] 5)) tq := fun tq kq => pre76 tq (st77 _ kq)
  have Z79 : n0 ≤ h61.size := (Nat.le_trans (Nat.le_trans Z29 Kq29.1) Kq61.1)
  obtain ⟨cq79, kq79, q79a, q79b, q79c⟩ := isOf hZ e77 f69
  obtain ⟨_, _, ⟨T79, L79, k79, n79⟩, -, X79, ⟨Lc79, hQ79, l79, y79, z79⟩, st79⟩ := X77.interfaceBack hx (xi := (⟨"java/util/List", "clear", "()V"⟩ : MethodName)) (y := (⟨"java/util/ArrayList", "clear", "()V"⟩ : MethodName)) hown (mvT hZ (hw _ (List.mem_of_getElem? (i := 111) rfl))) (mvT hZ (hw _ (List.mem_of_getElem? (i := 112) rfl))) (mvT hZ (hw _ (List.mem_of_getElem? (i := 113) rfl))) (mvT hZ (hw _ (List.mem_of_getElem? (i := 114) rfl))) (mvT hZ (hw _ (List.mem_of_getElem? (i := 115) rfl))) (mvT hZ (hw _ (List.mem_of_getElem? (i := 116) rfl))) (mvT hZ (hw _ (List.mem_of_getElem? (i := 117) rfl))) (mvT hZ (hw _ (List.mem_of_getElem? (i := 70) rfl))) (by decide) (backOf (W := 0) (rm14 l Z a0 hw [] al sD (0 : Int32) h61 n0 Z79 f69 f70 f71 f72 g_al) hZ (hw _ (List.mem_of_getElem? (i := 118) rfl)) (hw _ (List.mem_of_getElem? (i := 11) rfl)) (by decide) (by decide)) q79a q79b q79c (g := (mkF m 88 #[.val (.ref a1), .val (.ref b11), .val (.int (0 : Int32)), .val (.ref r30), .unset] [(.ref al)])) rfl (by rw [hml]; rfl) (Steps.refl _) (argsL := []) (rest := []) (lenOf pd9_3_3 rfl) rfl (by show 2 * 0 + _ ≤ _; exact Nat.le_of_eq rfl) (hb hby d9_3_88) (fun _ _ => ⟨rfl, e77, (by decide : ((((0 + 0) + 1) + 1) + 0) + 0 ≤ _), (by decide : ((((0 + 0) + 3) + 4) + 0) + 0 ≤ _)⟩)
  dsimp only [Pt.U, Pt.locs, Pt.cells, Pt.slots] at X79 l79 y79 z79 st79 hQ79
  subst l79 y79 z79
  obtain ⟨rfl, Nq79, Kq79, hq79⟩ := hQ79
  have N79 := Fr.app N61 Nq79
  have pre80 : ∀ tq, Steps p.tables e below (T79.setTop (mkF m 93 #[.val (.ref a1), .val (.ref b11), .val (.int (0 : Int32)), .val (.ref r30), .unset] [])) tq → Steps p.tables e below (s₁.setTop (entryFrame m #[(.ref a1)] 5)) tq := fun tq kq => pre78 tq (st79.trans kq)
  have K79 : Keep h0 T79.heap [a1, al] := Keep.trans K61 Kq79 (allS (Or.inl (List.mem_of_getElem? (i := 1) rfl)) all0)
  have f81 := f64.keep Kq79
  have f82 := f65.keep Kq79 (by simp only [List.mem_cons, List.not_mem_nil, or_false, not_or]; exact ne_a1_al)
  have f83 := f66.keep Kq79 (by simp only [List.mem_cons, List.not_mem_nil, or_false, not_or]; exact ne_a1_al)
  have f84 := f67.keep Kq79 (by simp only [List.mem_cons, List.not_mem_nil, or_false, not_or]; exact ne_a1_al)
  have f85 := f68.keep Kq79 (by simp only [List.mem_cons, List.not_mem_nil, or_false, not_or]; exact (Ne.symm ne_al_y))
  have f86 := f69.keep Kq79
  have f87 := f73.keep Kq79
  have f88 := f74.keep Kq79 (by simp only [List.mem_cons, List.not_mem_nil, or_false, not_or]; exact (Ne.symm ne48))
  have f89 := f75.keep Kq79 (by simp only [List.mem_cons, List.not_mem_nil, or_false, not_or]; exact (Ne.symm ne48))
  have f90 := f62.keep Kq79 (by simp only [List.mem_cons, List.not_mem_nil, or_false, not_or]; exact (Ne.symm ne14))
  have pre91 : ∀ tq, Steps p.tables e below (T79.setTop (mkF m 95 #[.val (.ref a1), .val (.ref b11), .val (.int (0 : Int32)), .val (.ref r30), .unset] [.null, (.ref a1)])) tq → Steps p.tables e below (s₁.setTop (entryFrame m #[(.ref a1)] 5)) tq := by
    refine fun tq kq => pre80 tq ?_
    show Steps p.tables e below (T79.setTop (mkF m 93 #[.val (.ref a1), .val (.ref b11), .val (.int (0 : Int32)), .val (.ref r30), .unset] [])) _
    refine XS.aloadN X79.here hx rfl (hb hby d9_3_93) rfl rfl ?_
    show Steps p.tables e below (T79.setTop (mkF m 94 #[.val (.ref a1), .val (.ref b11), .val (.int (0 : Int32)), .val (.ref r30), .unset] [(.ref a1)])) _
    refine XS.aconstNull X79.here hx rfl (hb hby d9_3_94) ?_
    exact kq
  obtain ⟨T92, h92, X92, e92, W92, st92⟩ := putF X79 hx hZ hown (host := "") (Or.inl (hw _ (List.mem_of_getElem? (i := 37) rfl))) Via.refl rfl f84 f81 (Or.inl (hw _ (List.mem_of_getElem? (i := 38) rfl))) (hw _ (List.mem_of_getElem? (i := 1) rfl)) (ty := (.array .double)) (by decide) rfl rfl (g := (mkF m 95 #[.val (.ref a1), .val (.ref b11), .val (.int (0 : Int32)), .val (.ref r30), .unset] [.null, (.ref a1)])) rfl rfl (hb hby d9_3_95)
  have pre93 : ∀ tq, Steps p.tables e below (T92.setTop (mkF m 98 #[.val (.ref a1), .val (.ref b11), .val (.int (0 : Int32)), .val (.ref r30), .unset] [])) tq → Steps p.tables e below (s₁.setTop (entryFrame m #[(.ref a1)] 5)) tq := fun tq kq => pre91 tq (st92 _ kq)
  have N92 := Fr.snoc X92 N79 g_a1
  have K92 : Keep h0 h92 [a1, al] := Keep.wr K79 W92 (Or.inl (List.mem_of_getElem? (i := 0) rfl))
  have f94 := f81.wr W92
  have f95 := f82.other W92 (Or.inr (slot_ne (Or.inr (hw _ (List.mem_of_getElem? (i := 34) rfl))) (Or.inl (hw _ (List.mem_of_getElem? (i := 38) rfl))) (by decide) (t := (.object "java/util/List")) (t' := (.array .double)) (by decide) (by decide)))
  have f96 := f83.other W92 (Or.inr (slot_ne (Or.inl (hw _ (List.mem_of_getElem? (i := 45) rfl))) (Or.inl (hw _ (List.mem_of_getElem? (i := 38) rfl))) (by decide) (t := .int) (t' := (.array .double)) (by decide) (by decide)))
  have f97 := f85.other W92 (Ne.symm ne_a1_y)
  have f98 := f86.wr W92
  have f99 := f87.wr W92
  have f100 := f88.other W92 (Or.inl (Ne.symm ne46))
  have f101 := f89.other W92 (Or.inl (Ne.symm ne46))
  have f102 := f90.other W92 (Ne.symm ne12)
  have f103 := f84.same W92
  obtain ⟨fs, hr, hrun, hended, hW, hsame⟩ := X92.leave (v := some (.ref b11)) (fun h => by rw [Bd.returns] at h; cases h)
  refine ⟨_, _, pre93 _ ?_, hrun, hended, _, _, rfl, ?_, ⟨_, rfl⟩, hW, hsame.mono (by decide) (by decide)⟩
  · skip
    show Steps p.tables e below (T92.setTop (mkF m 98 #[.val (.ref a1), .val (.ref b11), .val (.int (0 : Int32)), .val (.ref r30), .unset] [])) _
    refine XS.aloadN X92.here hx rfl (hb hby d9_3_98) rfl rfl ?_
    show Steps p.tables e below (T92.setTop (mkF m 99 #[.val (.ref a1), .val (.ref b11), .val (.int (0 : Int32)), .val (.ref r30), .unset] [(.ref b11)])) _
    exact X92.areturnOut hx rfl Bd.returns rfl (hb hby d9_3_99) hr
  · show Q9_3 Z a1 al y k2 sD u0 u1 u2 h0 n0 _ T92.heap _
    rw [e92]
    refine ⟨b11, k11, rfl, N92, K92, f102, sz_b11, ?_⟩
    trivial
/-! body 0 -/
theorem pn_0 : plainName "com/example/crisp_haptics/crisphaptics/SampleBlocksFitToCountPinLaw" = true := by first | (simp [plainName, overriddenIn]; done) | decide +kernel
theorem pd0_0 : parseMethodDescriptor "()V" = some ⟨[], none⟩ := by decide +kernel
theorem pd0_1 : parseMethodDescriptor "()[D" = some ⟨[], some (.array .double)⟩ := by decide +kernel
theorem pd0_2 : parseMethodDescriptor "(D)V" = some ⟨[.double], none⟩ := by decide +kernel
theorem pd0_3 : parseMethodDescriptor "(I)D" = some ⟨[.int], some .double⟩ := by decide +kernel
theorem ef_0 (m : MethodId) (p1 : Int32) (p2 : Int32) (p3 : Int32) (p4 : Int32) : entryFrame m #[(.int p1), (.int p2), (.int p3), (.int p4)] maxLocals = mkF m 0 #[.val (.int p1), .val (.int p2), .val (.int p3), .val (.int p4), .unset, .unset, .unset, .unset, .unset, .unset, .unset, .unset, .unset, .unset] [] := by first | (simp [entryFrame, mkF, argsToLocals, Value.category, maxLocals]; done) | rfl
def Q0 (Z : State) (p1 : Int32) (p2 : Int32) (p3 : Int32) (p4 : Int32) (sD : Addr) (h0 : Heap) (n0 : Nat) (v : Option Value) (h : Heap) (L : List Loc) : Prop := v = some (.int 1) ∧ Fr n0 L
set_option maxRecDepth 65536 in
set_option maxHeartbeats 40000000 in
theorem rm0 (l : Launch) (Z : State) (a0 : Array Value) (hw : ∀ d ∈ tables_1, d.before a0 Z = true) (ws : List Jvm.Cond) (p1 : Int32) (p2 : Int32) (p3 : Int32) (p4 : Int32) (sD : Addr) (h0 : Heap) (n0 : Nat) (Z0 : n0 ≤ h0.size) (S_DEFAULTCAPACITY_EMPTY_ELEMENTDATA : Sta Z h0 "java/util/ArrayList" "DEFAULTCAPACITY_EMPTY_ELEMENTDATA" "[Ljava/lang/Object;" (.ref sD)) :
    MetFree l x (head1 (Jvm.Cond.code x code maxLocals ret :: ws) room_1) (fun a U => a = #[(.int p1), (.int p2), (.int p3), (.int p4)] ∧ Z.Warmed39 U.vm ∧ U.heap = h0) (fun _ _ _ _ _ => True) (fun _ U o U' => ∃ v L, o = .returned v ∧ Q0 Z p1 p2 p3 p4 sD h0 n0 v U'.heap L ∧ FrameEnd U o U' L room_1.cells room_1.slots) := by
  refine MetFree.of_bodySF (plainFor_of_name pn_0) hisR ?_
  intro p e s m args below meth c s₁ Bd hml0 hP hK
  obtain ⟨rfl, hZ, hh⟩ := hP
  have hx := Bd.exec
  have hby := Bd.bytes
  have hml : c.maxLocals = 14 := hml0
  have hown : s.vm.findClass "com/example/crisp_haptics/crisphaptics/SampleBlocksFitToCountPinLaw" = some m.cls := findClass_of_methodNamed Bd.named
  have hnm := (name_of_methodNamed Bd.named Bd.method).1
  have X0 : Stand p l e room_1 s m #[(.int p1), (.int p2), (.int p3), (.int p4)] below meth c s₁ [] 0 0 := Stand.of_body Bd
  have e0 : s₁.heap = h0 := by rw [← hh, Bd.state]; rfl
  have N0 := Fr.nil n0
  have pre0 : ∀ tq, Steps p.tables e below (s₁.setTop (mkF m 0 #[.val (.int p1), .val (.int p2), .val (.int p3), .val (.int p4), .unset, .unset, .unset, .unset, .unset, .unset, .unset, .unset, .unset, .unset] [])) tq → Steps p.tables e below (s₁.setTop (entryFrame m #[(.int p1), (.int p2), (.int p3), (.int p4)] maxLocals)) tq := fun tq kq => castTop (ef_0 m p1 p2 p3 p4) kq
  obtain ⟨v2, hv_v2, pre1⟩ : ∃ v2 : Int32, v2 = (p1 &&& (3 : Int32)) ∧ (∀ tq, Steps p.tables e below (s₁.setTop (mkF m 5 #[.val (.int p1), .val (.int p2), .val (.int p3), .val (.int p4), .val (.int v2), .unset, .unset, .unset, .unset, .unset, .unset, .unset, .unset, .unset] [])) tq → Steps p.tables e below (s₁.setTop (entryFrame m #[(.int p1), (.int p2), (.int p3), (.int p4)] maxLocals)) tq) := by
    refine ⟨_, rfl, fun tq kq => pre0 tq ?_⟩
    show Steps p.tables e below (s₁.setTop (mkF m 0 #[.val (.int p1), .val (.int p2), .val (.int p3), .val (.int p4), .unset, .unset, .unset, .unset, .unset, .unset, .unset, .unset, .unset, .unset] [])) _
    refine XS.iloadN X0.here hx rfl (hb hby at_0) rfl ?_
    show Steps p.tables e below (s₁.setTop (mkF m 1 #[.val (.int p1), .val (.int p2), .val (.int p3), .val (.int p4), .unset, .unset, .unset, .unset, .unset, .unset, .unset, .unset, .unset, .unset] [(.int p1)])) _
    refine XS.iconst X0.here hx rfl (hb hby at_1) ?_
    show Steps p.tables e below (s₁.setTop (mkF m 2 #[.val (.int p1), .val (.int p2), .val (.int p3), .val (.int p4), .unset, .unset, .unset, .unset, .unset, .unset, .unset, .unset, .unset, .unset] [(.int (3 : Int32)), (.int p1)])) _
    refine XS.iand X0.here hx rfl (hb hby at_2) rfl ?_
    show Steps p.tables e below (s₁.setTop (mkF m 3 #[.val (.int p1), .val (.int p2), .val (.int p3), .val (.int p4), .unset, .unset, .unset, .unset, .unset, .unset, .unset, .unset, .unset, .unset] [(.int (p1 &&& (3 : Int32)))])) _
    refine XS.istore X0.here hx rfl (hb hby at_3) rfl (l' := #[.val (.int p1), .val (.int p2), .val (.int p3), .val (.int p4), .val (.int (p1 &&& (3 : Int32))), .unset, .unset, .unset, .unset, .unset, .unset, .unset, .unset, .unset]) rfl ?_
    exact kq
  have hcs5 : v2 = (0 : Int32) ∨ v2 = (1 : Int32) ∨ v2 = (2 : Int32) ∨ v2 = (3 : Int32) := by
    exact own_at hv_v2
  rcases hcs5 with hk | hk | hk | hk
  · skip
    subst hk
    have pre3 : ∀ tq, Steps p.tables e below (s₁.setTop (mkF m 17 #[.val (.int p1), .val (.int p2), .val (.int p3), .val (.int p4), .val (.int (0 : Int32)), .val (.double (FP.i2d p2)), .second, .val (.double (FP.i2d p3)), .second, .val (.double (FP.i2d p4)), .second, .unset, .unset, .unset] [])) tq → Steps p.tables e below (s₁.setTop (entryFrame m #[(.int p1), (.int p2), (.int p3), (.int p4)] maxLocals)) tq := by
      refine fun tq kq => pre1 tq ?_
      show Steps p.tables e below (s₁.setTop (mkF m 5 #[.val (.int p1), .val (.int p2), .val (.int p3), .val (.int p4), .val (.int (0 : Int32)), .unset, .unset, .unset, .unset, .unset, .unset, .unset, .unset, .unset] [])) _
      refine XS.iloadN X0.here hx rfl (hb hby at_5) rfl ?_
      show Steps p.tables e below (s₁.setTop (mkF m 6 #[.val (.int p1), .val (.int p2), .val (.int p3), .val (.int p4), .val (.int (0 : Int32)), .unset, .unset, .unset, .unset, .unset, .unset, .unset, .unset, .unset] [(.int p2)])) _
      refine XS.i2dS X0.here hx rfl (hb hby at_6) rfl rfl ?_
      show Steps p.tables e below (s₁.setTop (mkF m 7 #[.val (.int p1), .val (.int p2), .val (.int p3), .val (.int p4), .val (.int (0 : Int32)), .unset, .unset, .unset, .unset, .unset, .unset, .unset, .unset, .unset] [(.double (FP.i2d p2))])) _
      refine XS.dstore X0.here hx rfl (hb hby at_7) rfl (l' := #[.val (.int p1), .val (.int p2), .val (.int p3), .val (.int p4), .val (.int (0 : Int32)), .val (.double (FP.i2d p2)), .second, .unset, .unset, .unset, .unset, .unset, .unset, .unset]) rfl ?_
      show Steps p.tables e below (s₁.setTop (mkF m 9 #[.val (.int p1), .val (.int p2), .val (.int p3), .val (.int p4), .val (.int (0 : Int32)), .val (.double (FP.i2d p2)), .second, .unset, .unset, .unset, .unset, .unset, .unset, .unset] [])) _
      refine XS.iloadN X0.here hx rfl (hb hby at_9) rfl ?_
      show Steps p.tables e below (s₁.setTop (mkF m 10 #[.val (.int p1), .val (.int p2), .val (.int p3), .val (.int p4), .val (.int (0 : Int32)), .val (.double (FP.i2d p2)), .second, .unset, .unset, .unset, .unset, .unset, .unset, .unset] [(.int p3)])) _
      refine XS.i2dS X0.here hx rfl (hb hby at_10) rfl rfl ?_
      show Steps p.tables e below (s₁.setTop (mkF m 11 #[.val (.int p1), .val (.int p2), .val (.int p3), .val (.int p4), .val (.int (0 : Int32)), .val (.double (FP.i2d p2)), .second, .unset, .unset, .unset, .unset, .unset, .unset, .unset] [(.double (FP.i2d p3))])) _
      refine XS.dstore X0.here hx rfl (hb hby at_11) rfl (l' := #[.val (.int p1), .val (.int p2), .val (.int p3), .val (.int p4), .val (.int (0 : Int32)), .val (.double (FP.i2d p2)), .second, .val (.double (FP.i2d p3)), .second, .unset, .unset, .unset, .unset, .unset]) rfl ?_
      show Steps p.tables e below (s₁.setTop (mkF m 13 #[.val (.int p1), .val (.int p2), .val (.int p3), .val (.int p4), .val (.int (0 : Int32)), .val (.double (FP.i2d p2)), .second, .val (.double (FP.i2d p3)), .second, .unset, .unset, .unset, .unset, .unset] [])) _
      refine XS.iloadN X0.here hx rfl (hb hby at_13) rfl ?_
      show Steps p.tables e below (s₁.setTop (mkF m 14 #[.val (.int p1), .val (.int p2), .val (.int p3), .val (.int p4), .val (.int (0 : Int32)), .val (.double (FP.i2d p2)), .second, .val (.double (FP.i2d p3)), .second, .unset, .unset, .unset, .unset, .unset] [(.int p4)])) _
      refine XS.i2dS X0.here hx rfl (hb hby at_14) rfl rfl ?_
      show Steps p.tables e below (s₁.setTop (mkF m 15 #[.val (.int p1), .val (.int p2), .val (.int p3), .val (.int p4), .val (.int (0 : Int32)), .val (.double (FP.i2d p2)), .second, .val (.double (FP.i2d p3)), .second, .unset, .unset, .unset, .unset, .unset] [(.double (FP.i2d p4))])) _
      refine XS.dstore X0.here hx rfl (hb hby at_15) rfl (l' := #[.val (.int p1), .val (.int p2), .val (.int p3), .val (.int p4), .val (.int (0 : Int32)), .val (.double (FP.i2d p2)), .second, .val (.double (FP.i2d p3)), .second, .val (.double (FP.i2d p4)), .second, .unset, .unset, .unset]) rfl ?_
      exact kq
    obtain ⟨T4, h4, X4, e4, E4, A4, D4, -, st4⟩ := newO X0 hx hZ hown (hw _ (List.mem_of_getElem? (i := 0) rfl)) (hw _ (List.mem_of_getElem? (i := 1) rfl)) (hw _ (List.mem_of_getElem? (i := 2) rfl)) e0 (g := (mkF m 17 #[.val (.int p1), .val (.int p2), .val (.int p3), .val (.int p4), .val (.int (0 : Int32)), .val (.double (FP.i2d p2)), .second, .val (.double (FP.i2d p3)), .second, .val (.double (FP.i2d p4)), .second, .unset, .unset, .unset] [])) rfl (hb hby at_17) (by decide) (by decide)
    obtain ⟨b4, g4⟩ : ∃ z, z = h0.size := ⟨_, rfl⟩
    rw [← g4] at A4 D4 st4
    have g_b4 : n0 ≤ b4 := Nat.le_trans Z0 (Nat.le_of_eq g4.symm)
    have sz_b4 : h0.size ≤ b4 := Nat.le_trans (Nat.le_refl h0.size) (Nat.le_of_eq g4.symm)
    have pre5 : ∀ tq, Steps p.tables e below (T4.setTop (mkF m 20 #[.val (.int p1), .val (.int p2), .val (.int p3), .val (.int p4), .val (.int (0 : Int32)), .val (.double (FP.i2d p2)), .second, .val (.double (FP.i2d p3)), .second, .val (.double (FP.i2d p4)), .second, .unset, .unset, .unset] [(.ref b4)])) tq → Steps p.tables e below (s₁.setTop (entryFrame m #[(.int p1), (.int p2), (.int p3), (.int p4)] maxLocals)) tq := fun tq kq => pre3 tq (st4 _ kq)
    have f6 := S_DEFAULTCAPACITY_EMPTY_ELEMENTDATA.ext E4
    have K4 : Keep h0 h4 [] := Keep.ext (Keep.refl h0 []) E4
    have f7 : Fld Z h4 b4 "com/example/crisp_haptics/crisphaptics/SampleBlocks" "fullBlocks" "Ljava/util/List;" .null := D4 (Or.inr (hw _ (List.mem_of_getElem? (i := 34) rfl))) (ty := (.object "java/util/List")) (by decide)
    have f8 : Fld Z h4 b4 "com/example/crisp_haptics/crisphaptics/SampleBlocks" "block" "[D" .null := D4 (Or.inl (hw _ (List.mem_of_getElem? (i := 38) rfl))) (ty := (.array .double)) (by decide)
    have f9 : Fld Z h4 b4 "com/example/crisp_haptics/crisphaptics/SampleBlocks" "inBlock" "I" (.int (0 : Int32)) := D4 (Or.inl (hw _ (List.mem_of_getElem? (i := 45) rfl))) (ty := .int) (by decide)
    have pre10 : ∀ tq, Steps p.tables e below (T4.setTop (mkF m 21 #[.val (.int p1), .val (.int p2), .val (.int p3), .val (.int p4), .val (.int (0 : Int32)), .val (.double (FP.i2d p2)), .second, .val (.double (FP.i2d p3)), .second, .val (.double (FP.i2d p4)), .second, .unset, .unset, .unset] [(.ref b4), (.ref b4)])) tq → Steps p.tables e below (s₁.setTop (entryFrame m #[(.int p1), (.int p2), (.int p3), (.int p4)] maxLocals)) tq := by
      refine fun tq kq => pre5 tq ?_
      show Steps p.tables e below (T4.setTop (mkF m 20 #[.val (.int p1), .val (.int p2), .val (.int p3), .val (.int p4), .val (.int (0 : Int32)), .val (.double (FP.i2d p2)), .second, .val (.double (FP.i2d p3)), .second, .val (.double (FP.i2d p4)), .second, .unset, .unset, .unset] [(.ref b4)])) _
      refine XS.dup X4.here hx rfl (hb hby at_20) rfl rfl ?_
      exact kq
    have Z11 : n0 ≤ h4.size := (Nat.le_trans Z0 E4.1)
    obtain ⟨_, _, ⟨T11, L11, k11, n11⟩, -, X11, ⟨Lc11, hQ11, l11, y11, z11⟩, st11⟩ := X4.specialBack hx (y := (⟨"com/example/crisp_haptics/crisphaptics/SampleBlocks", "<init>", "()V"⟩ : MethodName)) rfl hown (mvT hZ (hw _ (List.mem_of_getElem? (i := 3) rfl))) (mvT hZ (hw _ (List.mem_of_getElem? (i := 4) rfl))) (mvT hZ (hw _ (List.mem_of_getElem? (i := 5) rfl))) (by decide) (backOf (W := 1) (rm1 l Z a0 hw [] b4 sD h4 n0 Z11 A4 f7 f8 f9 g_b4 f6) hZ (hw _ (List.mem_of_getElem? (i := 5) rfl)) (hw _ (List.mem_of_getElem? (i := 2) rfl)) (by decide) (by decide)) (g := (mkF m 21 #[.val (.int p1), .val (.int p2), .val (.int p3), .val (.int p4), .val (.int (0 : Int32)), .val (.double (FP.i2d p2)), .second, .val (.double (FP.i2d p3)), .second, .val (.double (FP.i2d p4)), .second, .unset, .unset, .unset] [(.ref b4), (.ref b4)])) rfl (by rw [hml]; rfl) (Steps.refl _) (a := b4) (argsL := []) (rest := [(.ref b4)]) (lenOf pd0_0 rfl) rfl (by show 2 * 0 + _ ≤ _; exact Nat.le_of_eq rfl) (hb hby at_21) (fun _ _ => ⟨rfl, e4, (by decide : (0 + 1) + 2 ≤ _), (by decide : (0 + 3) + 32771 ≤ _)⟩)
    dsimp only [Pt.U, Pt.locs, Pt.cells, Pt.slots] at X11 l11 y11 z11 st11 hQ11
    subst l11 y11 z11
    obtain ⟨u23, u24, u25, rfl, Nq11, Kq11, f12, f13, f14, f15, f16, f17, f18, f19, f20, f21, f22, hq11⟩ := hQ11
    have N11 := Fr.app N0 Nq11
    have pre26 : ∀ tq, Steps p.tables e below (T11.setTop (mkF m 24 #[.val (.int p1), .val (.int p2), .val (.int p3), .val (.int p4), .val (.int (0 : Int32)), .val (.double (FP.i2d p2)), .second, .val (.double (FP.i2d p3)), .second, .val (.double (FP.i2d p4)), .second, .unset, .unset, .unset] [(.ref b4)])) tq → Steps p.tables e below (s₁.setTop (entryFrame m #[(.int p1), (.int p2), (.int p3), (.int p4)] maxLocals)) tq := fun tq kq => pre10 tq (st11.trans kq)
    have K11 : Keep h0 T11.heap [] := Keep.trans K4 Kq11 (allS (Or.inr sz_b4) all0)
    have f27 := own_sta_keep f6 Kq11 (allS (own_nostat A4) all0)
    have f28 := A4.keep Kq11
    have g_u23 : n0 ≤ u23 := Nat.le_trans Z11 f20
    have sz_u23 : h0.size ≤ u23 := Nat.le_trans (Nat.le_trans (Nat.le_refl h0.size) E4.1) f20
    have ne29 : b4 ≠ u23 := Nat.ne_of_lt (Nat.lt_of_lt_of_le A4.lt f20)
    have g_u24 : n0 ≤ u24 := Nat.le_trans Z11 f21
    have sz_u24 : h0.size ≤ u24 := Nat.le_trans (Nat.le_trans (Nat.le_refl h0.size) E4.1) f21
    have ne30 : b4 ≠ u24 := Nat.ne_of_lt (Nat.lt_of_lt_of_le A4.lt f21)
    have pre31 : ∀ tq, Steps p.tables e below (T11.setTop (mkF m 38 #[.val (.int p1), .val (.int p2), .val (.int p3), .val (.int p4), .val (.int (0 : Int32)), .val (.double (FP.i2d p2)), .second, .val (.double (FP.i2d p3)), .second, .val (.double (FP.i2d p4)), .second, .val (.ref b4), .unset, .unset] [])) tq → Steps p.tables e below (s₁.setTop (entryFrame m #[(.int p1), (.int p2), (.int p3), (.int p4)] maxLocals)) tq := by
      refine fun tq kq => pre26 tq ?_
      show Steps p.tables e below (T11.setTop (mkF m 24 #[.val (.int p1), .val (.int p2), .val (.int p3), .val (.int p4), .val (.int (0 : Int32)), .val (.double (FP.i2d p2)), .second, .val (.double (FP.i2d p3)), .second, .val (.double (FP.i2d p4)), .second, .unset, .unset, .unset] [(.ref b4)])) _
      refine XS.astore X11.here hx rfl (hb hby at_24) rfl rfl (l' := #[.val (.int p1), .val (.int p2), .val (.int p3), .val (.int p4), .val (.int (0 : Int32)), .val (.double (FP.i2d p2)), .second, .val (.double (FP.i2d p3)), .second, .val (.double (FP.i2d p4)), .second, .val (.ref b4), .unset, .unset]) rfl ?_
      show Steps p.tables e below (T11.setTop (mkF m 26 #[.val (.int p1), .val (.int p2), .val (.int p3), .val (.int p4), .val (.int (0 : Int32)), .val (.double (FP.i2d p2)), .second, .val (.double (FP.i2d p3)), .second, .val (.double (FP.i2d p4)), .second, .val (.ref b4), .unset, .unset] [])) _
      refine XS.iload X11.here hx rfl (hb hby at_26) rfl ?_
      show Steps p.tables e below (T11.setTop (mkF m 28 #[.val (.int p1), .val (.int p2), .val (.int p3), .val (.int p4), .val (.int (0 : Int32)), .val (.double (FP.i2d p2)), .second, .val (.double (FP.i2d p3)), .second, .val (.double (FP.i2d p4)), .second, .val (.ref b4), .unset, .unset] [(.int (0 : Int32))])) _
      refine XS.ifYes X11.here hx rfl (pc0 := 28) (pc' := 38) rfl (hb hby at_28) rfl ((if0 _ _).trans (flt (by decide : ¬ ((0 : Int32) < (0 : Int32)))).2.2.2) (by decide) (by decide) ?_
      exact kq
    have pre32 : ∀ tq, Steps p.tables e below (T11.setTop (mkF m 51 #[.val (.int p1), .val (.int p2), .val (.int p3), .val (.int p4), .val (.int (0 : Int32)), .val (.double (FP.i2d p2)), .second, .val (.double (FP.i2d p3)), .second, .val (.double (FP.i2d p4)), .second, .val (.ref b4), .unset, .unset] [])) tq → Steps p.tables e below (s₁.setTop (entryFrame m #[(.int p1), (.int p2), (.int p3), (.int p4)] maxLocals)) tq := by
      refine fun tq kq => pre31 tq ?_
      show Steps p.tables e below (T11.setTop (mkF m 38 #[.val (.int p1), .val (.int p2), .val (.int p3), .val (.int p4), .val (.int (0 : Int32)), .val (.double (FP.i2d p2)), .second, .val (.double (FP.i2d p3)), .second, .val (.double (FP.i2d p4)), .second, .val (.ref b4), .unset, .unset] [])) _
      refine XS.iload X11.here hx rfl (hb hby at_38) rfl ?_
      show Steps p.tables e below (T11.setTop (mkF m 40 #[.val (.int p1), .val (.int p2), .val (.int p3), .val (.int p4), .val (.int (0 : Int32)), .val (.double (FP.i2d p2)), .second, .val (.double (FP.i2d p3)), .second, .val (.double (FP.i2d p4)), .second, .val (.ref b4), .unset, .unset] [(.int (0 : Int32))])) _
      refine XS.iconst X11.here hx rfl (hb hby at_40) ?_
      show Steps p.tables e below (T11.setTop (mkF m 41 #[.val (.int p1), .val (.int p2), .val (.int p3), .val (.int p4), .val (.int (0 : Int32)), .val (.double (FP.i2d p2)), .second, .val (.double (FP.i2d p3)), .second, .val (.double (FP.i2d p4)), .second, .val (.ref b4), .unset, .unset] [(.int (1 : Int32)), (.int (0 : Int32))])) _
      refine XS.icmpYes X11.here hx rfl (pc0 := 41) (pc' := 51) rfl (hb hby at_41) rfl (flt (by decide : ¬ ((1 : Int32) < (0 : Int32)))).2.2.2 (by decide) (by decide) ?_
      exact kq
    have pre33 : ∀ tq, Steps p.tables e below (T11.setTop (mkF m 64 #[.val (.int p1), .val (.int p2), .val (.int p3), .val (.int p4), .val (.int (0 : Int32)), .val (.double (FP.i2d p2)), .second, .val (.double (FP.i2d p3)), .second, .val (.double (FP.i2d p4)), .second, .val (.ref b4), .unset, .unset] [])) tq → Steps p.tables e below (s₁.setTop (entryFrame m #[(.int p1), (.int p2), (.int p3), (.int p4)] maxLocals)) tq := by
      refine fun tq kq => pre32 tq ?_
      show Steps p.tables e below (T11.setTop (mkF m 51 #[.val (.int p1), .val (.int p2), .val (.int p3), .val (.int p4), .val (.int (0 : Int32)), .val (.double (FP.i2d p2)), .second, .val (.double (FP.i2d p3)), .second, .val (.double (FP.i2d p4)), .second, .val (.ref b4), .unset, .unset] [])) _
      refine XS.iload X11.here hx rfl (hb hby at_51) rfl ?_
      show Steps p.tables e below (T11.setTop (mkF m 53 #[.val (.int p1), .val (.int p2), .val (.int p3), .val (.int p4), .val (.int (0 : Int32)), .val (.double (FP.i2d p2)), .second, .val (.double (FP.i2d p3)), .second, .val (.double (FP.i2d p4)), .second, .val (.ref b4), .unset, .unset] [(.int (0 : Int32))])) _
      refine XS.iconst X11.here hx rfl (hb hby at_53) ?_
      show Steps p.tables e below (T11.setTop (mkF m 54 #[.val (.int p1), .val (.int p2), .val (.int p3), .val (.int p4), .val (.int (0 : Int32)), .val (.double (FP.i2d p2)), .second, .val (.double (FP.i2d p3)), .second, .val (.double (FP.i2d p4)), .second, .val (.ref b4), .unset, .unset] [(.int (2 : Int32)), (.int (0 : Int32))])) _
      refine XS.icmpYes X11.here hx rfl (pc0 := 54) (pc' := 64) rfl (hb hby at_54) rfl (flt (by decide : ¬ ((2 : Int32) < (0 : Int32)))).2.2.2 (by decide) (by decide) ?_
      exact kq
    have pre34 : ∀ tq, Steps p.tables e below (T11.setTop (mkF m 66 #[.val (.int p1), .val (.int p2), .val (.int p3), .val (.int p4), .val (.int (0 : Int32)), .val (.double (FP.i2d p2)), .second, .val (.double (FP.i2d p3)), .second, .val (.double (FP.i2d p4)), .second, .val (.ref b4), .unset, .unset] [(.ref b4)])) tq → Steps p.tables e below (s₁.setTop (entryFrame m #[(.int p1), (.int p2), (.int p3), (.int p4)] maxLocals)) tq := by
      refine fun tq kq => pre33 tq ?_
      show Steps p.tables e below (T11.setTop (mkF m 64 #[.val (.int p1), .val (.int p2), .val (.int p3), .val (.int p4), .val (.int (0 : Int32)), .val (.double (FP.i2d p2)), .second, .val (.double (FP.i2d p3)), .second, .val (.double (FP.i2d p4)), .second, .val (.ref b4), .unset, .unset] [])) _
      refine XS.aload X11.here hx rfl (hb hby at_64) rfl rfl ?_
      exact kq
    have Z35 : n0 ≤ T11.heap.size := (Nat.le_trans Z11 Kq11.1)
    obtain ⟨cq35, kq35, q35a, q35b, q35c⟩ := isOf hZ rfl f28
    obtain ⟨_, _, ⟨T35, L35, k35, n35⟩, -, X35, ⟨Lc35, hQ35, l35, y35, z35⟩, st35⟩ := X11.virtualBack hx (y := (⟨"com/example/crisp_haptics/crisphaptics/SampleBlocks", "fitToCount", "()V"⟩ : MethodName)) (z := (⟨"com/example/crisp_haptics/crisphaptics/SampleBlocks", "fitToCount", "()V"⟩ : MethodName)) hown (mvT hZ (hw _ (List.mem_of_getElem? (i := 39) rfl))) (mvT hZ (hw _ (List.mem_of_getElem? (i := 40) rfl))) (notFace_of_selects (args := #[]) (mvT hZ (hw _ (List.mem_of_getElem? (i := 42) rfl)))) (mvT hZ (hw _ (List.mem_of_getElem? (i := 42) rfl))) (mvT hZ (hw _ (List.mem_of_getElem? (i := 41) rfl))) (by decide) (backOf (W := 0) (rm6_0 l Z a0 hw [] b4 u23 u24 u25 0 0 0 T11.heap n0 Z35 f28 f14 f13 f12 f19 g_b4) hZ (hw _ (List.mem_of_getElem? (i := 43) rfl)) (hw _ (List.mem_of_getElem? (i := 2) rfl)) (by decide) (by decide)) q35a q35c (g := (mkF m 66 #[.val (.int p1), .val (.int p2), .val (.int p3), .val (.int p4), .val (.int (0 : Int32)), .val (.double (FP.i2d p2)), .second, .val (.double (FP.i2d p3)), .second, .val (.double (FP.i2d p4)), .second, .val (.ref b4), .unset, .unset] [(.ref b4)])) rfl (by rw [hml]; rfl) (Steps.refl _) (argsL := []) (rest := []) (lenOf pd0_0 rfl) rfl (by show 2 * 0 + _ ≤ _; exact Nat.le_of_eq rfl) (hb hby at_66) (fun _ _ => ⟨rfl, rfl, (by decide : ((0 + 1) + 2) + 1 ≤ _), (by decide : ((0 + 3) + 32771) + 0 ≤ _)⟩)
    dsimp only [Pt.U, Pt.locs, Pt.cells, Pt.slots] at X35 l35 y35 z35 st35 hQ35
    subst l35 y35 z35
    obtain ⟨u41, u42, rfl, Nq35, Kq35, f36, f37, f38, f39, f40, hq35⟩ := hQ35
    have N35 := Fr.app N11 Nq35
    have pre43 : ∀ tq, Steps p.tables e below (T35.setTop (mkF m 69 #[.val (.int p1), .val (.int p2), .val (.int p3), .val (.int p4), .val (.int (0 : Int32)), .val (.double (FP.i2d p2)), .second, .val (.double (FP.i2d p3)), .second, .val (.double (FP.i2d p4)), .second, .val (.ref b4), .unset, .unset] [])) tq → Steps p.tables e below (s₁.setTop (entryFrame m #[(.int p1), (.int p2), (.int p3), (.int p4)] maxLocals)) tq := fun tq kq => pre34 tq (st35.trans kq)
    have K35 : Keep h0 T35.heap [] := Keep.trans K11 Kq35 (allS (Or.inr sz_b4) all0)
    have f44 := own_sta_keep f27 Kq35 (allS (own_nostat f28) all0)
    have f45 := f28.keep Kq35
    have f46 := f15.keep Kq35
    have f47 := f16.keep Kq35 (by simp only [List.mem_cons, List.not_mem_nil, or_false, not_or]; exact (Ne.symm ne29))
    have f48 := f17.keep Kq35 (by simp only [List.mem_cons, List.not_mem_nil, or_false, not_or]; exact (Ne.symm ne29))
    have f49 := f18.keep Kq35 (by simp only [List.mem_cons, List.not_mem_nil, or_false, not_or]; exact (Ne.symm ne29))
    have f50 := f19.keep Kq35 (by simp only [List.mem_cons, List.not_mem_nil, or_false, not_or]; exact (Ne.symm ne30))
    have g_u41 : n0 ≤ u41 := Nat.le_trans Z35 f40
    have sz_u41 : h0.size ≤ u41 := Nat.le_trans (Nat.le_trans (Nat.le_trans (Nat.le_refl h0.size) E4.1) Kq11.1) f40
    have ne51 : b4 ≠ u41 := Nat.ne_of_lt (Nat.lt_of_lt_of_le f28.lt f40)
    have ne52 : u23 ≠ u41 := Nat.ne_of_lt (Nat.lt_of_lt_of_le f15.lt f40)
    have ne53 : u24 ≠ u41 := Nat.ne_of_lt (Nat.lt_of_lt_of_le f19.lt f40)
    have pre54 : ∀ tq, Steps p.tables e below (T35.setTop (mkF m 101 #[.val (.int p1), .val (.int p2), .val (.int p3), .val (.int p4), .val (.int (0 : Int32)), .val (.double (FP.i2d p2)), .second, .val (.double (FP.i2d p3)), .second, .val (.double (FP.i2d p4)), .second, .val (.ref b4), .val (.int (1 : Int32)), .unset] [])) tq → Steps p.tables e below (s₁.setTop (entryFrame m #[(.int p1), (.int p2), (.int p3), (.int p4)] maxLocals)) tq := by
      refine fun tq kq => pre43 tq ?_
      show Steps p.tables e below (T35.setTop (mkF m 69 #[.val (.int p1), .val (.int p2), .val (.int p3), .val (.int p4), .val (.int (0 : Int32)), .val (.double (FP.i2d p2)), .second, .val (.double (FP.i2d p3)), .second, .val (.double (FP.i2d p4)), .second, .val (.ref b4), .unset, .unset] [])) _
      refine XS.iconst X35.here hx rfl (hb hby at_69) ?_
      show Steps p.tables e below (T35.setTop (mkF m 70 #[.val (.int p1), .val (.int p2), .val (.int p3), .val (.int p4), .val (.int (0 : Int32)), .val (.double (FP.i2d p2)), .second, .val (.double (FP.i2d p3)), .second, .val (.double (FP.i2d p4)), .second, .val (.ref b4), .unset, .unset] [(.int (1 : Int32))])) _
      refine XS.istore X35.here hx rfl (hb hby at_70) rfl (l' := #[.val (.int p1), .val (.int p2), .val (.int p3), .val (.int p4), .val (.int (0 : Int32)), .val (.double (FP.i2d p2)), .second, .val (.double (FP.i2d p3)), .second, .val (.double (FP.i2d p4)), .second, .val (.ref b4), .val (.int (1 : Int32)), .unset]) rfl ?_
      show Steps p.tables e below (T35.setTop (mkF m 72 #[.val (.int p1), .val (.int p2), .val (.int p3), .val (.int p4), .val (.int (0 : Int32)), .val (.double (FP.i2d p2)), .second, .val (.double (FP.i2d p3)), .second, .val (.double (FP.i2d p4)), .second, .val (.ref b4), .val (.int (1 : Int32)), .unset] [])) _
      refine XS.iload X35.here hx rfl (hb hby at_72) rfl ?_
      show Steps p.tables e below (T35.setTop (mkF m 74 #[.val (.int p1), .val (.int p2), .val (.int p3), .val (.int p4), .val (.int (0 : Int32)), .val (.double (FP.i2d p2)), .second, .val (.double (FP.i2d p3)), .second, .val (.double (FP.i2d p4)), .second, .val (.ref b4), .val (.int (1 : Int32)), .unset] [(.int (0 : Int32))])) _
      refine XS.ifYes X35.here hx rfl (pc0 := 74) (pc' := 101) rfl (hb hby at_74) rfl ((if0 _ _).trans (flt (by decide : ¬ ((0 : Int32) < (0 : Int32)))).2.2.2) (by decide) (by decide) ?_
      exact kq
    have pre55 : ∀ tq, Steps p.tables e below (T35.setTop (mkF m 131 #[.val (.int p1), .val (.int p2), .val (.int p3), .val (.int p4), .val (.int (0 : Int32)), .val (.double (FP.i2d p2)), .second, .val (.double (FP.i2d p3)), .second, .val (.double (FP.i2d p4)), .second, .val (.ref b4), .val (.int (1 : Int32)), .unset] [])) tq → Steps p.tables e below (s₁.setTop (entryFrame m #[(.int p1), (.int p2), (.int p3), (.int p4)] maxLocals)) tq := by
      refine fun tq kq => pre54 tq ?_
      show Steps p.tables e below (T35.setTop (mkF m 101 #[.val (.int p1), .val (.int p2), .val (.int p3), .val (.int p4), .val (.int (0 : Int32)), .val (.double (FP.i2d p2)), .second, .val (.double (FP.i2d p3)), .second, .val (.double (FP.i2d p4)), .second, .val (.ref b4), .val (.int (1 : Int32)), .unset] [])) _
      refine XS.iload X35.here hx rfl (hb hby at_101) rfl ?_
      show Steps p.tables e below (T35.setTop (mkF m 103 #[.val (.int p1), .val (.int p2), .val (.int p3), .val (.int p4), .val (.int (0 : Int32)), .val (.double (FP.i2d p2)), .second, .val (.double (FP.i2d p3)), .second, .val (.double (FP.i2d p4)), .second, .val (.ref b4), .val (.int (1 : Int32)), .unset] [(.int (0 : Int32))])) _
      refine XS.iconst X35.here hx rfl (hb hby at_103) ?_
      show Steps p.tables e below (T35.setTop (mkF m 104 #[.val (.int p1), .val (.int p2), .val (.int p3), .val (.int p4), .val (.int (0 : Int32)), .val (.double (FP.i2d p2)), .second, .val (.double (FP.i2d p3)), .second, .val (.double (FP.i2d p4)), .second, .val (.ref b4), .val (.int (1 : Int32)), .unset] [(.int (1 : Int32)), (.int (0 : Int32))])) _
      refine XS.icmpYes X35.here hx rfl (pc0 := 104) (pc' := 131) rfl (hb hby at_104) rfl (flt (by decide : ¬ ((1 : Int32) < (0 : Int32)))).2.2.2 (by decide) (by decide) ?_
      exact kq
    have pre56 : ∀ tq, Steps p.tables e below (T35.setTop (mkF m 161 #[.val (.int p1), .val (.int p2), .val (.int p3), .val (.int p4), .val (.int (0 : Int32)), .val (.double (FP.i2d p2)), .second, .val (.double (FP.i2d p3)), .second, .val (.double (FP.i2d p4)), .second, .val (.ref b4), .val (.int (1 : Int32)), .unset] [])) tq → Steps p.tables e below (s₁.setTop (entryFrame m #[(.int p1), (.int p2), (.int p3), (.int p4)] maxLocals)) tq := by
      refine fun tq kq => pre55 tq ?_
      show Steps p.tables e below (T35.setTop (mkF m 131 #[.val (.int p1), .val (.int p2), .val (.int p3), .val (.int p4), .val (.int (0 : Int32)), .val (.double (FP.i2d p2)), .second, .val (.double (FP.i2d p3)), .second, .val (.double (FP.i2d p4)), .second, .val (.ref b4), .val (.int (1 : Int32)), .unset] [])) _
      refine XS.iload X35.here hx rfl (hb hby at_131) rfl ?_
      show Steps p.tables e below (T35.setTop (mkF m 133 #[.val (.int p1), .val (.int p2), .val (.int p3), .val (.int p4), .val (.int (0 : Int32)), .val (.double (FP.i2d p2)), .second, .val (.double (FP.i2d p3)), .second, .val (.double (FP.i2d p4)), .second, .val (.ref b4), .val (.int (1 : Int32)), .unset] [(.int (0 : Int32))])) _
      refine XS.iconst X35.here hx rfl (hb hby at_133) ?_
      show Steps p.tables e below (T35.setTop (mkF m 134 #[.val (.int p1), .val (.int p2), .val (.int p3), .val (.int p4), .val (.int (0 : Int32)), .val (.double (FP.i2d p2)), .second, .val (.double (FP.i2d p3)), .second, .val (.double (FP.i2d p4)), .second, .val (.ref b4), .val (.int (1 : Int32)), .unset] [(.int (2 : Int32)), (.int (0 : Int32))])) _
      refine XS.icmpYes X35.here hx rfl (pc0 := 134) (pc' := 161) rfl (hb hby at_134) rfl (flt (by decide : ¬ ((2 : Int32) < (0 : Int32)))).2.2.2 (by decide) (by decide) ?_
      exact kq
    have pre57 : ∀ tq, Steps p.tables e below (T35.setTop (mkF m 163 #[.val (.int p1), .val (.int p2), .val (.int p3), .val (.int p4), .val (.int (0 : Int32)), .val (.double (FP.i2d p2)), .second, .val (.double (FP.i2d p3)), .second, .val (.double (FP.i2d p4)), .second, .val (.ref b4), .val (.int (1 : Int32)), .unset] [(.ref b4)])) tq → Steps p.tables e below (s₁.setTop (entryFrame m #[(.int p1), (.int p2), (.int p3), (.int p4)] maxLocals)) tq := by
      refine fun tq kq => pre56 tq ?_
      show Steps p.tables e below (T35.setTop (mkF m 161 #[.val (.int p1), .val (.int p2), .val (.int p3), .val (.int p4), .val (.int (0 : Int32)), .val (.double (FP.i2d p2)), .second, .val (.double (FP.i2d p3)), .second, .val (.double (FP.i2d p4)), .second, .val (.ref b4), .val (.int (1 : Int32)), .unset] [])) _
      refine XS.aload X35.here hx rfl (hb hby at_161) rfl rfl ?_
      exact kq
    have Z58 : n0 ≤ T35.heap.size := (Nat.le_trans Z35 Kq35.1)
    obtain ⟨cq58, kq58, q58a, q58b, q58c⟩ := isOf hZ rfl f45
    obtain ⟨_, _, ⟨T58, L58, k58, n58⟩, -, X58, ⟨Lc58, hQ58, l58, y58, z58⟩, st58⟩ := X35.virtualBack hx (y := (⟨"com/example/crisp_haptics/crisphaptics/SampleBlocks", "moveToArray", "()[D"⟩ : MethodName)) (z := (⟨"com/example/crisp_haptics/crisphaptics/SampleBlocks", "moveToArray", "()[D"⟩ : MethodName)) hown (mvT hZ (hw _ (List.mem_of_getElem? (i := 58) rfl))) (mvT hZ (hw _ (List.mem_of_getElem? (i := 59) rfl))) (notFace_of_selects (args := #[]) (mvT hZ (hw _ (List.mem_of_getElem? (i := 61) rfl)))) (mvT hZ (hw _ (List.mem_of_getElem? (i := 61) rfl))) (mvT hZ (hw _ (List.mem_of_getElem? (i := 60) rfl))) (by decide) (backOf (W := 0) (rm9_0 l Z a0 hw [] b4 u23 u41 u42 sD T35.heap n0 Z58 f45 f38 f37 f36 f39 f46 f47 f48 f49 g_b4 g_u23 ne29 ne51 ne52) hZ (hw _ (List.mem_of_getElem? (i := 62) rfl)) (hw _ (List.mem_of_getElem? (i := 2) rfl)) (by decide) (by decide)) q58a q58c (g := (mkF m 163 #[.val (.int p1), .val (.int p2), .val (.int p3), .val (.int p4), .val (.int (0 : Int32)), .val (.double (FP.i2d p2)), .second, .val (.double (FP.i2d p3)), .second, .val (.double (FP.i2d p4)), .second, .val (.ref b4), .val (.int (1 : Int32)), .unset] [(.ref b4)])) rfl (by rw [hml]; rfl) (Steps.refl _) (argsL := []) (rest := []) (lenOf pd0_1 rfl) rfl (by show 2 * 0 + _ ≤ _; exact Nat.le_of_eq rfl) (hb hby at_163) (fun _ _ => ⟨rfl, rfl, (by decide : (((0 + 1) + 2) + 1) + 2 ≤ _), (by decide : (((0 + 3) + 32771) + 0) + 4 ≤ _)⟩)
    dsimp only [Pt.U, Pt.locs, Pt.cells, Pt.slots] at X58 l58 y58 z58 st58 hQ58
    subst l58 y58 z58
    obtain ⟨r59, u62, rfl, Nq58, Kq58, f60, f61, hq58⟩ := hQ58
    have N58 := Fr.app N35 Nq58
    have pre63 : ∀ tq, Steps p.tables e below (T58.setTop (mkF m 166 #[.val (.int p1), .val (.int p2), .val (.int p3), .val (.int p4), .val (.int (0 : Int32)), .val (.double (FP.i2d p2)), .second, .val (.double (FP.i2d p3)), .second, .val (.double (FP.i2d p4)), .second, .val (.ref b4), .val (.int (1 : Int32)), .unset] [(.ref r59)])) tq → Steps p.tables e below (s₁.setTop (entryFrame m #[(.int p1), (.int p2), (.int p3), (.int p4)] maxLocals)) tq := fun tq kq => pre57 tq (st58.trans kq)
    have K58 : Keep h0 T58.heap [] := Keep.trans K35 Kq58 (allS (Or.inr sz_b4) (allS (Or.inr sz_u23) all0))
    have f64 := own_sta_keep f44 Kq58 (allS (own_nostat f45) (allS (own_nostat f46) all0))
    have f65 := f45.keep Kq58
    have f66 := f46.keep Kq58
    have f67 := f50.keep Kq58 (by simp only [List.mem_cons, List.not_mem_nil, or_false, not_or]; exact ⟨(Ne.symm ne30), (Ne.symm f22)⟩)
    have f68 := f39.keep Kq58 (by simp only [List.mem_cons, List.not_mem_nil, or_false, not_or]; exact ⟨(Ne.symm ne51), (Ne.symm ne52)⟩)
    have g_r59 : n0 ≤ r59 := Nat.le_trans Z58 f61
    have sz_r59 : h0.size ≤ r59 := Nat.le_trans (Nat.le_trans (Nat.le_trans (Nat.le_trans (Nat.le_refl h0.size) E4.1) Kq11.1) Kq35.1) f61
    have ne69 : b4 ≠ r59 := Nat.ne_of_lt (Nat.lt_of_lt_of_le f45.lt f61)
    have ne70 : u23 ≠ r59 := Nat.ne_of_lt (Nat.lt_of_lt_of_le f46.lt f61)
    have ne71 : u24 ≠ r59 := Nat.ne_of_lt (Nat.lt_of_lt_of_le f50.lt f61)
    have ne72 : u41 ≠ r59 := Nat.ne_of_lt (Nat.lt_of_lt_of_le f39.lt f61)
    have pre73 : ∀ tq, Steps p.tables e below (T58.setTop (mkF m 170 #[.val (.int p1), .val (.int p2), .val (.int p3), .val (.int p4), .val (.int (0 : Int32)), .val (.double (FP.i2d p2)), .second, .val (.double (FP.i2d p3)), .second, .val (.double (FP.i2d p4)), .second, .val (.ref b4), .val (.int (1 : Int32)), .val (.ref r59)] [(.ref r59)])) tq → Steps p.tables e below (s₁.setTop (entryFrame m #[(.int p1), (.int p2), (.int p3), (.int p4)] maxLocals)) tq := by
      refine fun tq kq => pre63 tq ?_
      show Steps p.tables e below (T58.setTop (mkF m 166 #[.val (.int p1), .val (.int p2), .val (.int p3), .val (.int p4), .val (.int (0 : Int32)), .val (.double (FP.i2d p2)), .second, .val (.double (FP.i2d p3)), .second, .val (.double (FP.i2d p4)), .second, .val (.ref b4), .val (.int (1 : Int32)), .unset] [(.ref r59)])) _
      refine XS.astore X58.here hx rfl (hb hby at_166) rfl rfl (l' := #[.val (.int p1), .val (.int p2), .val (.int p3), .val (.int p4), .val (.int (0 : Int32)), .val (.double (FP.i2d p2)), .second, .val (.double (FP.i2d p3)), .second, .val (.double (FP.i2d p4)), .second, .val (.ref b4), .val (.int (1 : Int32)), .val (.ref r59)]) rfl ?_
      show Steps p.tables e below (T58.setTop (mkF m 168 #[.val (.int p1), .val (.int p2), .val (.int p3), .val (.int p4), .val (.int (0 : Int32)), .val (.double (FP.i2d p2)), .second, .val (.double (FP.i2d p3)), .second, .val (.double (FP.i2d p4)), .second, .val (.ref b4), .val (.int (1 : Int32)), .val (.ref r59)] [])) _
      refine XS.aload X58.here hx rfl (hb hby at_168) rfl rfl ?_
      exact kq
    have Vc74 := f60
    obtain ⟨cl74, Ar74, Aq74, As74, An74, Ah74, Ag74⟩ := Vc74
    have pre75 : ∀ tq, Steps p.tables e below (T58.setTop (mkF m 171 #[.val (.int p1), .val (.int p2), .val (.int p3), .val (.int p4), .val (.int (0 : Int32)), .val (.double (FP.i2d p2)), .second, .val (.double (FP.i2d p3)), .second, .val (.double (FP.i2d p4)), .second, .val (.ref b4), .val (.int (1 : Int32)), .val (.ref r59)] [(.int (0 : Int32))])) tq → Steps p.tables e below (s₁.setTop (entryFrame m #[(.int p1), (.int p2), (.int p3), (.int p4)] maxLocals)) tq := fun tq kq => pre73 tq (X58.arraylength hx Ar74.1 (State.isArrayOf_alike hZ.alike Ar74.2.1) (g := (mkF m 170 #[.val (.int p1), .val (.int p2), .val (.int p3), .val (.int p4), .val (.int (0 : Int32)), .val (.double (FP.i2d p2)), .second, .val (.double (FP.i2d p3)), .second, .val (.double (FP.i2d p4)), .second, .val (.ref b4), .val (.int (1 : Int32)), .val (.ref r59)] [(.ref r59)])) rfl rfl (hb hby at_170) _ (by rw [len_of As74 An74]; exact kq))
    have pre76 : ∀ tq, Steps p.tables e below (T58.setTop (mkF m 178 #[.val (.int p1), .val (.int p2), .val (.int p3), .val (.int p4), .val (.int (0 : Int32)), .val (.double (FP.i2d p2)), .second, .val (.double (FP.i2d p3)), .second, .val (.double (FP.i2d p4)), .second, .val (.ref b4), .val (.int (1 : Int32)), .val (.ref r59)] [])) tq → Steps p.tables e below (s₁.setTop (entryFrame m #[(.int p1), (.int p2), (.int p3), (.int p4)] maxLocals)) tq := by
      refine fun tq kq => pre75 tq ?_
      show Steps p.tables e below (T58.setTop (mkF m 171 #[.val (.int p1), .val (.int p2), .val (.int p3), .val (.int p4), .val (.int (0 : Int32)), .val (.double (FP.i2d p2)), .second, .val (.double (FP.i2d p3)), .second, .val (.double (FP.i2d p4)), .second, .val (.ref b4), .val (.int (1 : Int32)), .val (.ref r59)] [(.int (0 : Int32))])) _
      refine XS.iload X58.here hx rfl (hb hby at_171) rfl ?_
      show Steps p.tables e below (T58.setTop (mkF m 173 #[.val (.int p1), .val (.int p2), .val (.int p3), .val (.int p4), .val (.int (0 : Int32)), .val (.double (FP.i2d p2)), .second, .val (.double (FP.i2d p3)), .second, .val (.double (FP.i2d p4)), .second, .val (.ref b4), .val (.int (1 : Int32)), .val (.ref r59)] [(.int (0 : Int32)), (.int (0 : Int32))])) _
      refine XS.icmpYes X58.here hx rfl (pc0 := 173) (pc' := 178) rfl (hb hby at_173) rfl (teq (by decide : (0 : Int32) = (0 : Int32))).1 (by decide) (by decide) ?_
      exact kq
    have pre77 : ∀ tq, Steps p.tables e below (T58.setTop (mkF m 205 #[.val (.int p1), .val (.int p2), .val (.int p3), .val (.int p4), .val (.int (0 : Int32)), .val (.double (FP.i2d p2)), .second, .val (.double (FP.i2d p3)), .second, .val (.double (FP.i2d p4)), .second, .val (.ref b4), .val (.int (1 : Int32)), .val (.ref r59)] [])) tq → Steps p.tables e below (s₁.setTop (entryFrame m #[(.int p1), (.int p2), (.int p3), (.int p4)] maxLocals)) tq := by
      refine fun tq kq => pre76 tq ?_
      show Steps p.tables e below (T58.setTop (mkF m 178 #[.val (.int p1), .val (.int p2), .val (.int p3), .val (.int p4), .val (.int (0 : Int32)), .val (.double (FP.i2d p2)), .second, .val (.double (FP.i2d p3)), .second, .val (.double (FP.i2d p4)), .second, .val (.ref b4), .val (.int (1 : Int32)), .val (.ref r59)] [])) _
      refine XS.iload X58.here hx rfl (hb hby at_178) rfl ?_
      show Steps p.tables e below (T58.setTop (mkF m 180 #[.val (.int p1), .val (.int p2), .val (.int p3), .val (.int p4), .val (.int (0 : Int32)), .val (.double (FP.i2d p2)), .second, .val (.double (FP.i2d p3)), .second, .val (.double (FP.i2d p4)), .second, .val (.ref b4), .val (.int (1 : Int32)), .val (.ref r59)] [(.int (0 : Int32))])) _
      refine XS.ifYes X58.here hx rfl (pc0 := 180) (pc' := 205) rfl (hb hby at_180) rfl ((if0 _ _).trans (flt (by decide : ¬ ((0 : Int32) < (0 : Int32)))).2.2.2) (by decide) (by decide) ?_
      exact kq
    have pre78 : ∀ tq, Steps p.tables e below (T58.setTop (mkF m 233 #[.val (.int p1), .val (.int p2), .val (.int p3), .val (.int p4), .val (.int (0 : Int32)), .val (.double (FP.i2d p2)), .second, .val (.double (FP.i2d p3)), .second, .val (.double (FP.i2d p4)), .second, .val (.ref b4), .val (.int (1 : Int32)), .val (.ref r59)] [])) tq → Steps p.tables e below (s₁.setTop (entryFrame m #[(.int p1), (.int p2), (.int p3), (.int p4)] maxLocals)) tq := by
      refine fun tq kq => pre77 tq ?_
      show Steps p.tables e below (T58.setTop (mkF m 205 #[.val (.int p1), .val (.int p2), .val (.int p3), .val (.int p4), .val (.int (0 : Int32)), .val (.double (FP.i2d p2)), .second, .val (.double (FP.i2d p3)), .second, .val (.double (FP.i2d p4)), .second, .val (.ref b4), .val (.int (1 : Int32)), .val (.ref r59)] [])) _
      refine XS.iload X58.here hx rfl (hb hby at_205) rfl ?_
      show Steps p.tables e below (T58.setTop (mkF m 207 #[.val (.int p1), .val (.int p2), .val (.int p3), .val (.int p4), .val (.int (0 : Int32)), .val (.double (FP.i2d p2)), .second, .val (.double (FP.i2d p3)), .second, .val (.double (FP.i2d p4)), .second, .val (.ref b4), .val (.int (1 : Int32)), .val (.ref r59)] [(.int (0 : Int32))])) _
      refine XS.iconst X58.here hx rfl (hb hby at_207) ?_
      show Steps p.tables e below (T58.setTop (mkF m 208 #[.val (.int p1), .val (.int p2), .val (.int p3), .val (.int p4), .val (.int (0 : Int32)), .val (.double (FP.i2d p2)), .second, .val (.double (FP.i2d p3)), .second, .val (.double (FP.i2d p4)), .second, .val (.ref b4), .val (.int (1 : Int32)), .val (.ref r59)] [(.int (1 : Int32)), (.int (0 : Int32))])) _
      refine XS.icmpYes X58.here hx rfl (pc0 := 208) (pc' := 233) rfl (hb hby at_208) rfl (flt (by decide : ¬ ((1 : Int32) < (0 : Int32)))).2.2.2 (by decide) (by decide) ?_
      exact kq
    have pre79 : ∀ tq, Steps p.tables e below (T58.setTop (mkF m 261 #[.val (.int p1), .val (.int p2), .val (.int p3), .val (.int p4), .val (.int (0 : Int32)), .val (.double (FP.i2d p2)), .second, .val (.double (FP.i2d p3)), .second, .val (.double (FP.i2d p4)), .second, .val (.ref b4), .val (.int (1 : Int32)), .val (.ref r59)] [])) tq → Steps p.tables e below (s₁.setTop (entryFrame m #[(.int p1), (.int p2), (.int p3), (.int p4)] maxLocals)) tq := by
      refine fun tq kq => pre78 tq ?_
      show Steps p.tables e below (T58.setTop (mkF m 233 #[.val (.int p1), .val (.int p2), .val (.int p3), .val (.int p4), .val (.int (0 : Int32)), .val (.double (FP.i2d p2)), .second, .val (.double (FP.i2d p3)), .second, .val (.double (FP.i2d p4)), .second, .val (.ref b4), .val (.int (1 : Int32)), .val (.ref r59)] [])) _
      refine XS.iload X58.here hx rfl (hb hby at_233) rfl ?_
      show Steps p.tables e below (T58.setTop (mkF m 235 #[.val (.int p1), .val (.int p2), .val (.int p3), .val (.int p4), .val (.int (0 : Int32)), .val (.double (FP.i2d p2)), .second, .val (.double (FP.i2d p3)), .second, .val (.double (FP.i2d p4)), .second, .val (.ref b4), .val (.int (1 : Int32)), .val (.ref r59)] [(.int (0 : Int32))])) _
      refine XS.iconst X58.here hx rfl (hb hby at_235) ?_
      show Steps p.tables e below (T58.setTop (mkF m 236 #[.val (.int p1), .val (.int p2), .val (.int p3), .val (.int p4), .val (.int (0 : Int32)), .val (.double (FP.i2d p2)), .second, .val (.double (FP.i2d p3)), .second, .val (.double (FP.i2d p4)), .second, .val (.ref b4), .val (.int (1 : Int32)), .val (.ref r59)] [(.int (2 : Int32)), (.int (0 : Int32))])) _
      refine XS.icmpYes X58.here hx rfl (pc0 := 236) (pc' := 261) rfl (hb hby at_236) rfl (flt (by decide : ¬ ((2 : Int32) < (0 : Int32)))).2.2.2 (by decide) (by decide) ?_
      exact kq
    obtain ⟨fs, hr, hrun, hended, hW, hsame⟩ := X58.leave (v := some (.int (1 : Int32))) (fun h => by rw [Bd.returns] at h; cases h)
    refine ⟨_, _, pre79 _ ?_, hrun, hended, _, _, rfl, ?_, ⟨_, rfl⟩, hW, hsame.mono (by decide) (by decide)⟩
    · skip
      show Steps p.tables e below (T58.setTop (mkF m 261 #[.val (.int p1), .val (.int p2), .val (.int p3), .val (.int p4), .val (.int (0 : Int32)), .val (.double (FP.i2d p2)), .second, .val (.double (FP.i2d p3)), .second, .val (.double (FP.i2d p4)), .second, .val (.ref b4), .val (.int (1 : Int32)), .val (.ref r59)] [])) _
      refine XS.iload X58.here hx rfl (hb hby at_261) rfl ?_
      show Steps p.tables e below (T58.setTop (mkF m 263 #[.val (.int p1), .val (.int p2), .val (.int p3), .val (.int p4), .val (.int (0 : Int32)), .val (.double (FP.i2d p2)), .second, .val (.double (FP.i2d p3)), .second, .val (.double (FP.i2d p4)), .second, .val (.ref b4), .val (.int (1 : Int32)), .val (.ref r59)] [(.int (1 : Int32))])) _
      exact retN X58 hx (t := .boolean) Bd.returns (by simp) (hb hby at_263) hr
    · show Q0 Z p1 p2 p3 p4 sD h0 n0 _ T58.heap _
      exact ⟨rfl, N58⟩
  · skip
    subst hk
    have pre80 : ∀ tq, Steps p.tables e below (s₁.setTop (mkF m 17 #[.val (.int p1), .val (.int p2), .val (.int p3), .val (.int p4), .val (.int (1 : Int32)), .val (.double (FP.i2d p2)), .second, .val (.double (FP.i2d p3)), .second, .val (.double (FP.i2d p4)), .second, .unset, .unset, .unset] [])) tq → Steps p.tables e below (s₁.setTop (entryFrame m #[(.int p1), (.int p2), (.int p3), (.int p4)] maxLocals)) tq := by
      refine fun tq kq => pre1 tq ?_
      show Steps p.tables e below (s₁.setTop (mkF m 5 #[.val (.int p1), .val (.int p2), .val (.int p3), .val (.int p4), .val (.int (1 : Int32)), .unset, .unset, .unset, .unset, .unset, .unset, .unset, .unset, .unset] [])) _
      refine XS.iloadN X0.here hx rfl (hb hby at_5) rfl ?_
      show Steps p.tables e below (s₁.setTop (mkF m 6 #[.val (.int p1), .val (.int p2), .val (.int p3), .val (.int p4), .val (.int (1 : Int32)), .unset, .unset, .unset, .unset, .unset, .unset, .unset, .unset, .unset] [(.int p2)])) _
      refine XS.i2dS X0.here hx rfl (hb hby at_6) rfl rfl ?_
      show Steps p.tables e below (s₁.setTop (mkF m 7 #[.val (.int p1), .val (.int p2), .val (.int p3), .val (.int p4), .val (.int (1 : Int32)), .unset, .unset, .unset, .unset, .unset, .unset, .unset, .unset, .unset] [(.double (FP.i2d p2))])) _
      refine XS.dstore X0.here hx rfl (hb hby at_7) rfl (l' := #[.val (.int p1), .val (.int p2), .val (.int p3), .val (.int p4), .val (.int (1 : Int32)), .val (.double (FP.i2d p2)), .second, .unset, .unset, .unset, .unset, .unset, .unset, .unset]) rfl ?_
      show Steps p.tables e below (s₁.setTop (mkF m 9 #[.val (.int p1), .val (.int p2), .val (.int p3), .val (.int p4), .val (.int (1 : Int32)), .val (.double (FP.i2d p2)), .second, .unset, .unset, .unset, .unset, .unset, .unset, .unset] [])) _
      refine XS.iloadN X0.here hx rfl (hb hby at_9) rfl ?_
      show Steps p.tables e below (s₁.setTop (mkF m 10 #[.val (.int p1), .val (.int p2), .val (.int p3), .val (.int p4), .val (.int (1 : Int32)), .val (.double (FP.i2d p2)), .second, .unset, .unset, .unset, .unset, .unset, .unset, .unset] [(.int p3)])) _
      refine XS.i2dS X0.here hx rfl (hb hby at_10) rfl rfl ?_
      show Steps p.tables e below (s₁.setTop (mkF m 11 #[.val (.int p1), .val (.int p2), .val (.int p3), .val (.int p4), .val (.int (1 : Int32)), .val (.double (FP.i2d p2)), .second, .unset, .unset, .unset, .unset, .unset, .unset, .unset] [(.double (FP.i2d p3))])) _
      refine XS.dstore X0.here hx rfl (hb hby at_11) rfl (l' := #[.val (.int p1), .val (.int p2), .val (.int p3), .val (.int p4), .val (.int (1 : Int32)), .val (.double (FP.i2d p2)), .second, .val (.double (FP.i2d p3)), .second, .unset, .unset, .unset, .unset, .unset]) rfl ?_
      show Steps p.tables e below (s₁.setTop (mkF m 13 #[.val (.int p1), .val (.int p2), .val (.int p3), .val (.int p4), .val (.int (1 : Int32)), .val (.double (FP.i2d p2)), .second, .val (.double (FP.i2d p3)), .second, .unset, .unset, .unset, .unset, .unset] [])) _
      refine XS.iloadN X0.here hx rfl (hb hby at_13) rfl ?_
      show Steps p.tables e below (s₁.setTop (mkF m 14 #[.val (.int p1), .val (.int p2), .val (.int p3), .val (.int p4), .val (.int (1 : Int32)), .val (.double (FP.i2d p2)), .second, .val (.double (FP.i2d p3)), .second, .unset, .unset, .unset, .unset, .unset] [(.int p4)])) _
      refine XS.i2dS X0.here hx rfl (hb hby at_14) rfl rfl ?_
      show Steps p.tables e below (s₁.setTop (mkF m 15 #[.val (.int p1), .val (.int p2), .val (.int p3), .val (.int p4), .val (.int (1 : Int32)), .val (.double (FP.i2d p2)), .second, .val (.double (FP.i2d p3)), .second, .unset, .unset, .unset, .unset, .unset] [(.double (FP.i2d p4))])) _
      refine XS.dstore X0.here hx rfl (hb hby at_15) rfl (l' := #[.val (.int p1), .val (.int p2), .val (.int p3), .val (.int p4), .val (.int (1 : Int32)), .val (.double (FP.i2d p2)), .second, .val (.double (FP.i2d p3)), .second, .val (.double (FP.i2d p4)), .second, .unset, .unset, .unset]) rfl ?_
      exact kq
    obtain ⟨T81, h81, X81, e81, E81, A81, D81, -, st81⟩ := newO X0 hx hZ hown (hw _ (List.mem_of_getElem? (i := 0) rfl)) (hw _ (List.mem_of_getElem? (i := 1) rfl)) (hw _ (List.mem_of_getElem? (i := 2) rfl)) e0 (g := (mkF m 17 #[.val (.int p1), .val (.int p2), .val (.int p3), .val (.int p4), .val (.int (1 : Int32)), .val (.double (FP.i2d p2)), .second, .val (.double (FP.i2d p3)), .second, .val (.double (FP.i2d p4)), .second, .unset, .unset, .unset] [])) rfl (hb hby at_17) (by decide) (by decide)
    obtain ⟨b81, g81⟩ : ∃ z, z = h0.size := ⟨_, rfl⟩
    rw [← g81] at A81 D81 st81
    have g_b81 : n0 ≤ b81 := Nat.le_trans Z0 (Nat.le_of_eq g81.symm)
    have sz_b81 : h0.size ≤ b81 := Nat.le_trans (Nat.le_refl h0.size) (Nat.le_of_eq g81.symm)
    have pre82 : ∀ tq, Steps p.tables e below (T81.setTop (mkF m 20 #[.val (.int p1), .val (.int p2), .val (.int p3), .val (.int p4), .val (.int (1 : Int32)), .val (.double (FP.i2d p2)), .second, .val (.double (FP.i2d p3)), .second, .val (.double (FP.i2d p4)), .second, .unset, .unset, .unset] [(.ref b81)])) tq → Steps p.tables e below (s₁.setTop (entryFrame m #[(.int p1), (.int p2), (.int p3), (.int p4)] maxLocals)) tq := fun tq kq => pre80 tq (st81 _ kq)
    have f83 := S_DEFAULTCAPACITY_EMPTY_ELEMENTDATA.ext E81
    have K81 : Keep h0 h81 [] := Keep.ext (Keep.refl h0 []) E81
    have f84 : Fld Z h81 b81 "com/example/crisp_haptics/crisphaptics/SampleBlocks" "fullBlocks" "Ljava/util/List;" .null := D81 (Or.inr (hw _ (List.mem_of_getElem? (i := 34) rfl))) (ty := (.object "java/util/List")) (by decide)
    have f85 : Fld Z h81 b81 "com/example/crisp_haptics/crisphaptics/SampleBlocks" "block" "[D" .null := D81 (Or.inl (hw _ (List.mem_of_getElem? (i := 38) rfl))) (ty := (.array .double)) (by decide)
    have f86 : Fld Z h81 b81 "com/example/crisp_haptics/crisphaptics/SampleBlocks" "inBlock" "I" (.int (0 : Int32)) := D81 (Or.inl (hw _ (List.mem_of_getElem? (i := 45) rfl))) (ty := .int) (by decide)
    have pre87 : ∀ tq, Steps p.tables e below (T81.setTop (mkF m 21 #[.val (.int p1), .val (.int p2), .val (.int p3), .val (.int p4), .val (.int (1 : Int32)), .val (.double (FP.i2d p2)), .second, .val (.double (FP.i2d p3)), .second, .val (.double (FP.i2d p4)), .second, .unset, .unset, .unset] [(.ref b81), (.ref b81)])) tq → Steps p.tables e below (s₁.setTop (entryFrame m #[(.int p1), (.int p2), (.int p3), (.int p4)] maxLocals)) tq := by
      refine fun tq kq => pre82 tq ?_
      show Steps p.tables e below (T81.setTop (mkF m 20 #[.val (.int p1), .val (.int p2), .val (.int p3), .val (.int p4), .val (.int (1 : Int32)), .val (.double (FP.i2d p2)), .second, .val (.double (FP.i2d p3)), .second, .val (.double (FP.i2d p4)), .second, .unset, .unset, .unset] [(.ref b81)])) _
      refine XS.dup X81.here hx rfl (hb hby at_20) rfl rfl ?_
      exact kq
    have Z88 : n0 ≤ h81.size := (Nat.le_trans Z0 E81.1)
    obtain ⟨_, _, ⟨T88, L88, k88, n88⟩, -, X88, ⟨Lc88, hQ88, l88, y88, z88⟩, st88⟩ := X81.specialBack hx (y := (⟨"com/example/crisp_haptics/crisphaptics/SampleBlocks", "<init>", "()V"⟩ : MethodName)) rfl hown (mvT hZ (hw _ (List.mem_of_getElem? (i := 3) rfl))) (mvT hZ (hw _ (List.mem_of_getElem? (i := 4) rfl))) (mvT hZ (hw _ (List.mem_of_getElem? (i := 5) rfl))) (by decide) (backOf (W := 1) (rm1 l Z a0 hw [] b81 sD h81 n0 Z88 A81 f84 f85 f86 g_b81 f83) hZ (hw _ (List.mem_of_getElem? (i := 5) rfl)) (hw _ (List.mem_of_getElem? (i := 2) rfl)) (by decide) (by decide)) (g := (mkF m 21 #[.val (.int p1), .val (.int p2), .val (.int p3), .val (.int p4), .val (.int (1 : Int32)), .val (.double (FP.i2d p2)), .second, .val (.double (FP.i2d p3)), .second, .val (.double (FP.i2d p4)), .second, .unset, .unset, .unset] [(.ref b81), (.ref b81)])) rfl (by rw [hml]; rfl) (Steps.refl _) (a := b81) (argsL := []) (rest := [(.ref b81)]) (lenOf pd0_0 rfl) rfl (by show 2 * 0 + _ ≤ _; exact Nat.le_of_eq rfl) (hb hby at_21) (fun _ _ => ⟨rfl, e81, (by decide : (0 + 1) + 2 ≤ _), (by decide : (0 + 3) + 32771 ≤ _)⟩)
    dsimp only [Pt.U, Pt.locs, Pt.cells, Pt.slots] at X88 l88 y88 z88 st88 hQ88
    subst l88 y88 z88
    obtain ⟨u100, u101, u102, rfl, Nq88, Kq88, f89, f90, f91, f92, f93, f94, f95, f96, f97, f98, f99, hq88⟩ := hQ88
    have N88 := Fr.app N0 Nq88
    have pre103 : ∀ tq, Steps p.tables e below (T88.setTop (mkF m 24 #[.val (.int p1), .val (.int p2), .val (.int p3), .val (.int p4), .val (.int (1 : Int32)), .val (.double (FP.i2d p2)), .second, .val (.double (FP.i2d p3)), .second, .val (.double (FP.i2d p4)), .second, .unset, .unset, .unset] [(.ref b81)])) tq → Steps p.tables e below (s₁.setTop (entryFrame m #[(.int p1), (.int p2), (.int p3), (.int p4)] maxLocals)) tq := fun tq kq => pre87 tq (st88.trans kq)
    have K88 : Keep h0 T88.heap [] := Keep.trans K81 Kq88 (allS (Or.inr sz_b81) all0)
    have f104 := own_sta_keep f83 Kq88 (allS (own_nostat A81) all0)
    have f105 := A81.keep Kq88
    have g_u100 : n0 ≤ u100 := Nat.le_trans Z88 f97
    have sz_u100 : h0.size ≤ u100 := Nat.le_trans (Nat.le_trans (Nat.le_refl h0.size) E81.1) f97
    have ne106 : b81 ≠ u100 := Nat.ne_of_lt (Nat.lt_of_lt_of_le A81.lt f97)
    have g_u101 : n0 ≤ u101 := Nat.le_trans Z88 f98
    have sz_u101 : h0.size ≤ u101 := Nat.le_trans (Nat.le_trans (Nat.le_refl h0.size) E81.1) f98
    have ne107 : b81 ≠ u101 := Nat.ne_of_lt (Nat.lt_of_lt_of_le A81.lt f98)
    have pre108 : ∀ tq, Steps p.tables e below (T88.setTop (mkF m 31 #[.val (.int p1), .val (.int p2), .val (.int p3), .val (.int p4), .val (.int (1 : Int32)), .val (.double (FP.i2d p2)), .second, .val (.double (FP.i2d p3)), .second, .val (.double (FP.i2d p4)), .second, .val (.ref b81), .unset, .unset] [])) tq → Steps p.tables e below (s₁.setTop (entryFrame m #[(.int p1), (.int p2), (.int p3), (.int p4)] maxLocals)) tq := by
      refine fun tq kq => pre103 tq ?_
      show Steps p.tables e below (T88.setTop (mkF m 24 #[.val (.int p1), .val (.int p2), .val (.int p3), .val (.int p4), .val (.int (1 : Int32)), .val (.double (FP.i2d p2)), .second, .val (.double (FP.i2d p3)), .second, .val (.double (FP.i2d p4)), .second, .unset, .unset, .unset] [(.ref b81)])) _
      refine XS.astore X88.here hx rfl (hb hby at_24) rfl rfl (l' := #[.val (.int p1), .val (.int p2), .val (.int p3), .val (.int p4), .val (.int (1 : Int32)), .val (.double (FP.i2d p2)), .second, .val (.double (FP.i2d p3)), .second, .val (.double (FP.i2d p4)), .second, .val (.ref b81), .unset, .unset]) rfl ?_
      show Steps p.tables e below (T88.setTop (mkF m 26 #[.val (.int p1), .val (.int p2), .val (.int p3), .val (.int p4), .val (.int (1 : Int32)), .val (.double (FP.i2d p2)), .second, .val (.double (FP.i2d p3)), .second, .val (.double (FP.i2d p4)), .second, .val (.ref b81), .unset, .unset] [])) _
      refine XS.iload X88.here hx rfl (hb hby at_26) rfl ?_
      show Steps p.tables e below (T88.setTop (mkF m 28 #[.val (.int p1), .val (.int p2), .val (.int p3), .val (.int p4), .val (.int (1 : Int32)), .val (.double (FP.i2d p2)), .second, .val (.double (FP.i2d p3)), .second, .val (.double (FP.i2d p4)), .second, .val (.ref b81), .unset, .unset] [(.int (1 : Int32))])) _
      refine XS.ifNo X88.here hx rfl (hb hby at_28) rfl ((if0 _ _).trans (tlt (by decide : (0 : Int32) < (1 : Int32))).2.2.2) ?_
      exact kq
    have pre109 : ∀ tq, Steps p.tables e below (T88.setTop (mkF m 35 #[.val (.int p1), .val (.int p2), .val (.int p3), .val (.int p4), .val (.int (1 : Int32)), .val (.double (FP.i2d p2)), .second, .val (.double (FP.i2d p3)), .second, .val (.double (FP.i2d p4)), .second, .val (.ref b81), .unset, .unset] [(.double (FP.i2d p2)), (.ref b81)])) tq → Steps p.tables e below (s₁.setTop (entryFrame m #[(.int p1), (.int p2), (.int p3), (.int p4)] maxLocals)) tq := by
      refine fun tq kq => pre108 tq ?_
      show Steps p.tables e below (T88.setTop (mkF m 31 #[.val (.int p1), .val (.int p2), .val (.int p3), .val (.int p4), .val (.int (1 : Int32)), .val (.double (FP.i2d p2)), .second, .val (.double (FP.i2d p3)), .second, .val (.double (FP.i2d p4)), .second, .val (.ref b81), .unset, .unset] [])) _
      refine XS.aload X88.here hx rfl (hb hby at_31) rfl rfl ?_
      show Steps p.tables e below (T88.setTop (mkF m 33 #[.val (.int p1), .val (.int p2), .val (.int p3), .val (.int p4), .val (.int (1 : Int32)), .val (.double (FP.i2d p2)), .second, .val (.double (FP.i2d p3)), .second, .val (.double (FP.i2d p4)), .second, .val (.ref b81), .unset, .unset] [(.ref b81)])) _
      refine XS.dload X88.here hx rfl (hb hby at_33) rfl ?_
      exact kq
    have Z110 : n0 ≤ T88.heap.size := (Nat.le_trans Z88 Kq88.1)
    obtain ⟨cq110, kq110, q110a, q110b, q110c⟩ := isOf hZ rfl f105
    obtain ⟨_, _, ⟨T110, L110, k110, n110⟩, -, X110, ⟨Lc110, hQ110, l110, y110, z110⟩, st110⟩ := X88.virtualBack hx (y := (⟨"com/example/crisp_haptics/crisphaptics/SampleBlocks", "add", "(D)V"⟩ : MethodName)) (z := (⟨"com/example/crisp_haptics/crisphaptics/SampleBlocks", "add", "(D)V"⟩ : MethodName)) hown (mvT hZ (hw _ (List.mem_of_getElem? (i := 120) rfl))) (mvT hZ (hw _ (List.mem_of_getElem? (i := 121) rfl))) (notFace_of_selects (args := #[]) (mvT hZ (hw _ (List.mem_of_getElem? (i := 123) rfl)))) (mvT hZ (hw _ (List.mem_of_getElem? (i := 123) rfl))) (mvT hZ (hw _ (List.mem_of_getElem? (i := 122) rfl))) (by decide) (backOf (W := 0) (rm15_0 l Z a0 hw [] b81 (FP.i2d p2) u100 u101 u102 0 0 0 T88.heap n0 Z110 f105 f91 f90 f89 f96 g_b81 g_u101 ne107) hZ (hw _ (List.mem_of_getElem? (i := 124) rfl)) (hw _ (List.mem_of_getElem? (i := 2) rfl)) (by decide) (by decide)) q110a q110c (g := (mkF m 35 #[.val (.int p1), .val (.int p2), .val (.int p3), .val (.int p4), .val (.int (1 : Int32)), .val (.double (FP.i2d p2)), .second, .val (.double (FP.i2d p3)), .second, .val (.double (FP.i2d p4)), .second, .val (.ref b81), .unset, .unset] [(.double (FP.i2d p2)), (.ref b81)])) rfl (by rw [hml]; rfl) (Steps.refl _) (argsL := [(.double (FP.i2d p2))]) (rest := []) (lenOf pd0_2 rfl) rfl (by show 2 * 0 + _ ≤ _; exact Nat.le_of_eq rfl) (hb hby at_35) (fun _ _ => ⟨rfl, rfl, (by decide : ((0 + 1) + 2) + 0 ≤ _), (by decide : ((0 + 3) + 32771) + 0 ≤ _)⟩)
    dsimp only [Pt.U, Pt.locs, Pt.cells, Pt.slots] at X110 l110 y110 z110 st110 hQ110
    subst l110 y110 z110
    obtain ⟨rfl, Nq110, Kq110, f111, f112, f113, f114, hq110⟩ := hQ110
    have N110 := Fr.app N88 Nq110
    have pre115 : ∀ tq, Steps p.tables e below (T110.setTop (mkF m 38 #[.val (.int p1), .val (.int p2), .val (.int p3), .val (.int p4), .val (.int (1 : Int32)), .val (.double (FP.i2d p2)), .second, .val (.double (FP.i2d p3)), .second, .val (.double (FP.i2d p4)), .second, .val (.ref b81), .unset, .unset] [])) tq → Steps p.tables e below (s₁.setTop (entryFrame m #[(.int p1), (.int p2), (.int p3), (.int p4)] maxLocals)) tq := fun tq kq => pre109 tq (st110.trans kq)
    have K110 : Keep h0 T110.heap [] := Keep.trans K88 Kq110 (allS (Or.inr sz_b81) (allS (Or.inr sz_u101) all0))
    have f116 := f105.keep Kq110
    have f117 := f92.keep Kq110
    have f118 := f93.keep Kq110 (by simp only [List.mem_cons, List.not_mem_nil, or_false, not_or]; exact ⟨(Ne.symm ne106), f99⟩)
    have f119 := f94.keep Kq110 (by simp only [List.mem_cons, List.not_mem_nil, or_false, not_or]; exact ⟨(Ne.symm ne106), f99⟩)
    have f120 := f95.keep Kq110 (by simp only [List.mem_cons, List.not_mem_nil, or_false, not_or]; exact ⟨(Ne.symm ne106), f99⟩)
    have pre121 : ∀ tq, Steps p.tables e below (T110.setTop (mkF m 51 #[.val (.int p1), .val (.int p2), .val (.int p3), .val (.int p4), .val (.int (1 : Int32)), .val (.double (FP.i2d p2)), .second, .val (.double (FP.i2d p3)), .second, .val (.double (FP.i2d p4)), .second, .val (.ref b81), .unset, .unset] [])) tq → Steps p.tables e below (s₁.setTop (entryFrame m #[(.int p1), (.int p2), (.int p3), (.int p4)] maxLocals)) tq := by
      refine fun tq kq => pre115 tq ?_
      show Steps p.tables e below (T110.setTop (mkF m 38 #[.val (.int p1), .val (.int p2), .val (.int p3), .val (.int p4), .val (.int (1 : Int32)), .val (.double (FP.i2d p2)), .second, .val (.double (FP.i2d p3)), .second, .val (.double (FP.i2d p4)), .second, .val (.ref b81), .unset, .unset] [])) _
      refine XS.iload X110.here hx rfl (hb hby at_38) rfl ?_
      show Steps p.tables e below (T110.setTop (mkF m 40 #[.val (.int p1), .val (.int p2), .val (.int p3), .val (.int p4), .val (.int (1 : Int32)), .val (.double (FP.i2d p2)), .second, .val (.double (FP.i2d p3)), .second, .val (.double (FP.i2d p4)), .second, .val (.ref b81), .unset, .unset] [(.int (1 : Int32))])) _
      refine XS.iconst X110.here hx rfl (hb hby at_40) ?_
      show Steps p.tables e below (T110.setTop (mkF m 41 #[.val (.int p1), .val (.int p2), .val (.int p3), .val (.int p4), .val (.int (1 : Int32)), .val (.double (FP.i2d p2)), .second, .val (.double (FP.i2d p3)), .second, .val (.double (FP.i2d p4)), .second, .val (.ref b81), .unset, .unset] [(.int (1 : Int32)), (.int (1 : Int32))])) _
      refine XS.icmpYes X110.here hx rfl (pc0 := 41) (pc' := 51) rfl (hb hby at_41) rfl (flt (by decide : ¬ ((1 : Int32) < (1 : Int32)))).2.2.2 (by decide) (by decide) ?_
      exact kq
    have pre122 : ∀ tq, Steps p.tables e below (T110.setTop (mkF m 64 #[.val (.int p1), .val (.int p2), .val (.int p3), .val (.int p4), .val (.int (1 : Int32)), .val (.double (FP.i2d p2)), .second, .val (.double (FP.i2d p3)), .second, .val (.double (FP.i2d p4)), .second, .val (.ref b81), .unset, .unset] [])) tq → Steps p.tables e below (s₁.setTop (entryFrame m #[(.int p1), (.int p2), (.int p3), (.int p4)] maxLocals)) tq := by
      refine fun tq kq => pre121 tq ?_
      show Steps p.tables e below (T110.setTop (mkF m 51 #[.val (.int p1), .val (.int p2), .val (.int p3), .val (.int p4), .val (.int (1 : Int32)), .val (.double (FP.i2d p2)), .second, .val (.double (FP.i2d p3)), .second, .val (.double (FP.i2d p4)), .second, .val (.ref b81), .unset, .unset] [])) _
      refine XS.iload X110.here hx rfl (hb hby at_51) rfl ?_
      show Steps p.tables e below (T110.setTop (mkF m 53 #[.val (.int p1), .val (.int p2), .val (.int p3), .val (.int p4), .val (.int (1 : Int32)), .val (.double (FP.i2d p2)), .second, .val (.double (FP.i2d p3)), .second, .val (.double (FP.i2d p4)), .second, .val (.ref b81), .unset, .unset] [(.int (1 : Int32))])) _
      refine XS.iconst X110.here hx rfl (hb hby at_53) ?_
      show Steps p.tables e below (T110.setTop (mkF m 54 #[.val (.int p1), .val (.int p2), .val (.int p3), .val (.int p4), .val (.int (1 : Int32)), .val (.double (FP.i2d p2)), .second, .val (.double (FP.i2d p3)), .second, .val (.double (FP.i2d p4)), .second, .val (.ref b81), .unset, .unset] [(.int (2 : Int32)), (.int (1 : Int32))])) _
      refine XS.icmpYes X110.here hx rfl (pc0 := 54) (pc' := 64) rfl (hb hby at_54) rfl (flt (by decide : ¬ ((2 : Int32) < (1 : Int32)))).2.2.2 (by decide) (by decide) ?_
      exact kq
    have pre123 : ∀ tq, Steps p.tables e below (T110.setTop (mkF m 66 #[.val (.int p1), .val (.int p2), .val (.int p3), .val (.int p4), .val (.int (1 : Int32)), .val (.double (FP.i2d p2)), .second, .val (.double (FP.i2d p3)), .second, .val (.double (FP.i2d p4)), .second, .val (.ref b81), .unset, .unset] [(.ref b81)])) tq → Steps p.tables e below (s₁.setTop (entryFrame m #[(.int p1), (.int p2), (.int p3), (.int p4)] maxLocals)) tq := by
      refine fun tq kq => pre122 tq ?_
      show Steps p.tables e below (T110.setTop (mkF m 64 #[.val (.int p1), .val (.int p2), .val (.int p3), .val (.int p4), .val (.int (1 : Int32)), .val (.double (FP.i2d p2)), .second, .val (.double (FP.i2d p3)), .second, .val (.double (FP.i2d p4)), .second, .val (.ref b81), .unset, .unset] [])) _
      refine XS.aload X110.here hx rfl (hb hby at_64) rfl rfl ?_
      exact kq
    have Z124 : n0 ≤ T110.heap.size := (Nat.le_trans Z110 Kq110.1)
    obtain ⟨cq124, kq124, q124a, q124b, q124c⟩ := isOf hZ rfl f116
    obtain ⟨_, _, ⟨T124, L124, k124, n124⟩, -, X124, ⟨Lc124, hQ124, l124, y124, z124⟩, st124⟩ := X110.virtualBack hx (y := (⟨"com/example/crisp_haptics/crisphaptics/SampleBlocks", "fitToCount", "()V"⟩ : MethodName)) (z := (⟨"com/example/crisp_haptics/crisphaptics/SampleBlocks", "fitToCount", "()V"⟩ : MethodName)) hown (mvT hZ (hw _ (List.mem_of_getElem? (i := 39) rfl))) (mvT hZ (hw _ (List.mem_of_getElem? (i := 40) rfl))) (notFace_of_selects (args := #[]) (mvT hZ (hw _ (List.mem_of_getElem? (i := 42) rfl)))) (mvT hZ (hw _ (List.mem_of_getElem? (i := 42) rfl))) (mvT hZ (hw _ (List.mem_of_getElem? (i := 41) rfl))) (by decide) (backOf (W := 0) (rm6_1 l Z a0 hw [] b81 u100 u101 u102 (FP.i2d p2) 0 0 T110.heap n0 Z124 f116 f111 f112 f113 f114 g_b81) hZ (hw _ (List.mem_of_getElem? (i := 43) rfl)) (hw _ (List.mem_of_getElem? (i := 2) rfl)) (by decide) (by decide)) q124a q124c (g := (mkF m 66 #[.val (.int p1), .val (.int p2), .val (.int p3), .val (.int p4), .val (.int (1 : Int32)), .val (.double (FP.i2d p2)), .second, .val (.double (FP.i2d p3)), .second, .val (.double (FP.i2d p4)), .second, .val (.ref b81), .unset, .unset] [(.ref b81)])) rfl (by rw [hml]; rfl) (Steps.refl _) (argsL := []) (rest := []) (lenOf pd0_0 rfl) rfl (by show 2 * 0 + _ ≤ _; exact Nat.le_of_eq rfl) (hb hby at_66) (fun _ _ => ⟨rfl, rfl, (by decide : (((0 + 1) + 2) + 0) + 1 ≤ _), (by decide : (((0 + 3) + 32771) + 0) + 1 ≤ _)⟩)
    dsimp only [Pt.U, Pt.locs, Pt.cells, Pt.slots] at X124 l124 y124 z124 st124 hQ124
    subst l124 y124 z124
    obtain ⟨u130, u131, rfl, Nq124, Kq124, f125, f126, f127, f128, f129, hq124⟩ := hQ124
    have N124 := Fr.app N110 Nq124
    have pre132 : ∀ tq, Steps p.tables e below (T124.setTop (mkF m 69 #[.val (.int p1), .val (.int p2), .val (.int p3), .val (.int p4), .val (.int (1 : Int32)), .val (.double (FP.i2d p2)), .second, .val (.double (FP.i2d p3)), .second, .val (.double (FP.i2d p4)), .second, .val (.ref b81), .unset, .unset] [])) tq → Steps p.tables e below (s₁.setTop (entryFrame m #[(.int p1), (.int p2), (.int p3), (.int p4)] maxLocals)) tq := fun tq kq => pre123 tq (st124.trans kq)
    have K124 : Keep h0 T124.heap [] := Keep.trans K110 Kq124 (allS (Or.inr sz_b81) all0)
    have f133 := f116.keep Kq124
    have f134 := f117.keep Kq124
    have f135 := f118.keep Kq124 (by simp only [List.mem_cons, List.not_mem_nil, or_false, not_or]; exact (Ne.symm ne106))
    have f136 := f119.keep Kq124 (by simp only [List.mem_cons, List.not_mem_nil, or_false, not_or]; exact (Ne.symm ne106))
    have f137 := f120.keep Kq124 (by simp only [List.mem_cons, List.not_mem_nil, or_false, not_or]; exact (Ne.symm ne106))
    have f138 := f114.keep Kq124 (by simp only [List.mem_cons, List.not_mem_nil, or_false, not_or]; exact (Ne.symm ne107))
    have g_u130 : n0 ≤ u130 := Nat.le_trans Z124 f129
    have sz_u130 : h0.size ≤ u130 := Nat.le_trans (Nat.le_trans (Nat.le_trans (Nat.le_trans (Nat.le_refl h0.size) E81.1) Kq88.1) Kq110.1) f129
    have ne139 : b81 ≠ u130 := Nat.ne_of_lt (Nat.lt_of_lt_of_le f116.lt f129)
    have ne140 : u100 ≠ u130 := Nat.ne_of_lt (Nat.lt_of_lt_of_le f117.lt f129)
    have ne141 : u101 ≠ u130 := Nat.ne_of_lt (Nat.lt_of_lt_of_le f114.lt f129)
    have pre142 : ∀ tq, Steps p.tables e below (T124.setTop (mkF m 77 #[.val (.int p1), .val (.int p2), .val (.int p3), .val (.int p4), .val (.int (1 : Int32)), .val (.double (FP.i2d p2)), .second, .val (.double (FP.i2d p3)), .second, .val (.double (FP.i2d p4)), .second, .val (.ref b81), .val (.int (1 : Int32)), .unset] [])) tq → Steps p.tables e below (s₁.setTop (entryFrame m #[(.int p1), (.int p2), (.int p3), (.int p4)] maxLocals)) tq := by
      refine fun tq kq => pre132 tq ?_
      show Steps p.tables e below (T124.setTop (mkF m 69 #[.val (.int p1), .val (.int p2), .val (.int p3), .val (.int p4), .val (.int (1 : Int32)), .val (.double (FP.i2d p2)), .second, .val (.double (FP.i2d p3)), .second, .val (.double (FP.i2d p4)), .second, .val (.ref b81), .unset, .unset] [])) _
      refine XS.iconst X124.here hx rfl (hb hby at_69) ?_
      show Steps p.tables e below (T124.setTop (mkF m 70 #[.val (.int p1), .val (.int p2), .val (.int p3), .val (.int p4), .val (.int (1 : Int32)), .val (.double (FP.i2d p2)), .second, .val (.double (FP.i2d p3)), .second, .val (.double (FP.i2d p4)), .second, .val (.ref b81), .unset, .unset] [(.int (1 : Int32))])) _
      refine XS.istore X124.here hx rfl (hb hby at_70) rfl (l' := #[.val (.int p1), .val (.int p2), .val (.int p3), .val (.int p4), .val (.int (1 : Int32)), .val (.double (FP.i2d p2)), .second, .val (.double (FP.i2d p3)), .second, .val (.double (FP.i2d p4)), .second, .val (.ref b81), .val (.int (1 : Int32)), .unset]) rfl ?_
      show Steps p.tables e below (T124.setTop (mkF m 72 #[.val (.int p1), .val (.int p2), .val (.int p3), .val (.int p4), .val (.int (1 : Int32)), .val (.double (FP.i2d p2)), .second, .val (.double (FP.i2d p3)), .second, .val (.double (FP.i2d p4)), .second, .val (.ref b81), .val (.int (1 : Int32)), .unset] [])) _
      refine XS.iload X124.here hx rfl (hb hby at_72) rfl ?_
      show Steps p.tables e below (T124.setTop (mkF m 74 #[.val (.int p1), .val (.int p2), .val (.int p3), .val (.int p4), .val (.int (1 : Int32)), .val (.double (FP.i2d p2)), .second, .val (.double (FP.i2d p3)), .second, .val (.double (FP.i2d p4)), .second, .val (.ref b81), .val (.int (1 : Int32)), .unset] [(.int (1 : Int32))])) _
      refine XS.ifNo X124.here hx rfl (hb hby at_74) rfl ((if0 _ _).trans (tlt (by decide : (0 : Int32) < (1 : Int32))).2.2.2) ?_
      exact kq
    have pre143 : ∀ tq, Steps p.tables e below (T124.setTop (mkF m 82 #[.val (.int p1), .val (.int p2), .val (.int p3), .val (.int p4), .val (.int (1 : Int32)), .val (.double (FP.i2d p2)), .second, .val (.double (FP.i2d p3)), .second, .val (.double (FP.i2d p4)), .second, .val (.ref b81), .val (.int (1 : Int32)), .unset] [])) tq → Steps p.tables e below (s₁.setTop (entryFrame m #[(.int p1), (.int p2), (.int p3), (.int p4)] maxLocals)) tq := by
      refine fun tq kq => pre142 tq ?_
      show Steps p.tables e below (T124.setTop (mkF m 77 #[.val (.int p1), .val (.int p2), .val (.int p3), .val (.int p4), .val (.int (1 : Int32)), .val (.double (FP.i2d p2)), .second, .val (.double (FP.i2d p3)), .second, .val (.double (FP.i2d p4)), .second, .val (.ref b81), .val (.int (1 : Int32)), .unset] [])) _
      refine XS.iload X124.here hx rfl (hb hby at_77) rfl ?_
      show Steps p.tables e below (T124.setTop (mkF m 79 #[.val (.int p1), .val (.int p2), .val (.int p3), .val (.int p4), .val (.int (1 : Int32)), .val (.double (FP.i2d p2)), .second, .val (.double (FP.i2d p3)), .second, .val (.double (FP.i2d p4)), .second, .val (.ref b81), .val (.int (1 : Int32)), .unset] [(.int (1 : Int32))])) _
      refine XS.ifNo X124.here hx rfl (hb hby at_79) rfl ((if0 _ _).trans (feq (by decide : ¬ ((1 : Int32) = (0 : Int32)))).1) ?_
      exact kq
    have pre144 : ∀ tq, Steps p.tables e below (T124.setTop (mkF m 85 #[.val (.int p1), .val (.int p2), .val (.int p3), .val (.int p4), .val (.int (1 : Int32)), .val (.double (FP.i2d p2)), .second, .val (.double (FP.i2d p3)), .second, .val (.double (FP.i2d p4)), .second, .val (.ref b81), .val (.int (1 : Int32)), .unset] [(.int (0 : Int32)), (.ref b81)])) tq → Steps p.tables e below (s₁.setTop (entryFrame m #[(.int p1), (.int p2), (.int p3), (.int p4)] maxLocals)) tq := by
      refine fun tq kq => pre143 tq ?_
      show Steps p.tables e below (T124.setTop (mkF m 82 #[.val (.int p1), .val (.int p2), .val (.int p3), .val (.int p4), .val (.int (1 : Int32)), .val (.double (FP.i2d p2)), .second, .val (.double (FP.i2d p3)), .second, .val (.double (FP.i2d p4)), .second, .val (.ref b81), .val (.int (1 : Int32)), .unset] [])) _
      refine XS.aload X124.here hx rfl (hb hby at_82) rfl rfl ?_
      show Steps p.tables e below (T124.setTop (mkF m 84 #[.val (.int p1), .val (.int p2), .val (.int p3), .val (.int p4), .val (.int (1 : Int32)), .val (.double (FP.i2d p2)), .second, .val (.double (FP.i2d p3)), .second, .val (.double (FP.i2d p4)), .second, .val (.ref b81), .val (.int (1 : Int32)), .unset] [(.ref b81)])) _
      refine XS.iconst X124.here hx rfl (hb hby at_84) ?_
      exact kq
    have Z145 : n0 ≤ T124.heap.size := (Nat.le_trans Z124 Kq124.1)
    obtain ⟨cq145, kq145, q145a, q145b, q145c⟩ := isOf hZ rfl f133
    obtain ⟨_, _, ⟨T145, L145, k145, n145⟩, -, X145, ⟨Lc145, hQ145, l145, y145, z145⟩, st145⟩ := X124.virtualBack hx (y := (⟨"com/example/crisp_haptics/crisphaptics/SampleBlocks", "get", "(I)D"⟩ : MethodName)) (z := (⟨"com/example/crisp_haptics/crisphaptics/SampleBlocks", "get", "(I)D"⟩ : MethodName)) hown (mvT hZ (hw _ (List.mem_of_getElem? (i := 125) rfl))) (mvT hZ (hw _ (List.mem_of_getElem? (i := 126) rfl))) (notFace_of_selects (args := #[]) (mvT hZ (hw _ (List.mem_of_getElem? (i := 128) rfl)))) (mvT hZ (hw _ (List.mem_of_getElem? (i := 128) rfl))) (mvT hZ (hw _ (List.mem_of_getElem? (i := 127) rfl))) (by decide) (backOf (W := 0) (rm16_0_1 l Z a0 hw [] b81 u100 u130 u131 (FP.i2d p2) T124.heap n0 Z145 f127 f134 f137 f125 f128) hZ (hw _ (List.mem_of_getElem? (i := 129) rfl)) (hw _ (List.mem_of_getElem? (i := 2) rfl)) (by decide) (by decide)) q145a q145c (g := (mkF m 85 #[.val (.int p1), .val (.int p2), .val (.int p3), .val (.int p4), .val (.int (1 : Int32)), .val (.double (FP.i2d p2)), .second, .val (.double (FP.i2d p3)), .second, .val (.double (FP.i2d p4)), .second, .val (.ref b81), .val (.int (1 : Int32)), .unset] [(.int (0 : Int32)), (.ref b81)])) rfl (by rw [hml]; rfl) (Steps.refl _) (argsL := [(.int (0 : Int32))]) (rest := []) (lenOf pd0_3 rfl) rfl (by show 2 * 0 + _ ≤ _; exact Nat.le_of_eq rfl) (hb hby at_85) (fun _ _ => ⟨rfl, rfl, (by decide : ((((0 + 1) + 2) + 0) + 1) + 0 ≤ _), (by decide : ((((0 + 3) + 32771) + 0) + 1) + 0 ≤ _)⟩)
    dsimp only [Pt.U, Pt.locs, Pt.cells, Pt.slots] at X145 l145 y145 z145 st145 hQ145
    subst l145 y145 z145
    obtain ⟨r146, rfl, Nq145, ehq145, hq145⟩ := hQ145
    have N145 := Fr.app N124 Nq145
    have pre147 : ∀ tq, Steps p.tables e below (T145.setTop (mkF m 88 #[.val (.int p1), .val (.int p2), .val (.int p3), .val (.int p4), .val (.int (1 : Int32)), .val (.double (FP.i2d p2)), .second, .val (.double (FP.i2d p3)), .second, .val (.double (FP.i2d p4)), .second, .val (.ref b81), .val (.int (1 : Int32)), .unset] [(.double r146)])) tq → Steps p.tables e below (s₁.setTop (entryFrame m #[(.int p1), (.int p2), (.int p3), (.int p4)] maxLocals)) tq := fun tq kq => pre144 tq (st145.trans kq)
    subst hq145
    have pre148 : ∀ tq, Steps p.tables e below (T145.setTop (mkF m 94 #[.val (.int p1), .val (.int p2), .val (.int p3), .val (.int p4), .val (.int (1 : Int32)), .val (.double (FP.i2d p2)), .second, .val (.double (FP.i2d p3)), .second, .val (.double (FP.i2d p4)), .second, .val (.ref b81), .val (.int (1 : Int32)), .unset] [])) tq → Steps p.tables e below (s₁.setTop (entryFrame m #[(.int p1), (.int p2), (.int p3), (.int p4)] maxLocals)) tq := by
      refine fun tq kq => pre147 tq ?_
      show Steps p.tables e below (T145.setTop (mkF m 88 #[.val (.int p1), .val (.int p2), .val (.int p3), .val (.int p4), .val (.int (1 : Int32)), .val (.double (FP.i2d p2)), .second, .val (.double (FP.i2d p3)), .second, .val (.double (FP.i2d p4)), .second, .val (.ref b81), .val (.int (1 : Int32)), .unset] [(.double (FP.i2d p2))])) _
      refine XS.dload X145.here hx rfl (hb hby at_88) rfl ?_
      show Steps p.tables e below (T145.setTop (mkF m 90 #[.val (.int p1), .val (.int p2), .val (.int p3), .val (.int p4), .val (.int (1 : Int32)), .val (.double (FP.i2d p2)), .second, .val (.double (FP.i2d p3)), .second, .val (.double (FP.i2d p4)), .second, .val (.ref b81), .val (.int (1 : Int32)), .unset] [(.double (FP.i2d p2)), (.double (FP.i2d p2))])) _
      refine XS.dcmpS X145.here hx rfl (hb hby at_90) rfl (dcmpV_self (nn_w (i2d_w _)) _) ?_
      show Steps p.tables e below (T145.setTop (mkF m 91 #[.val (.int p1), .val (.int p2), .val (.int p3), .val (.int p4), .val (.int (1 : Int32)), .val (.double (FP.i2d p2)), .second, .val (.double (FP.i2d p3)), .second, .val (.double (FP.i2d p4)), .second, .val (.ref b81), .val (.int (1 : Int32)), .unset] [(.int (0 : Int32))])) _
      refine XS.ifNo X145.here hx rfl (hb hby at_91) rfl ((if0 _ _).trans (teq (by decide : (0 : Int32) = (0 : Int32))).2) ?_
      exact kq
    have pre149 : ∀ tq, Steps p.tables e below (T145.setTop (mkF m 131 #[.val (.int p1), .val (.int p2), .val (.int p3), .val (.int p4), .val (.int (1 : Int32)), .val (.double (FP.i2d p2)), .second, .val (.double (FP.i2d p3)), .second, .val (.double (FP.i2d p4)), .second, .val (.ref b81), .val (.int (1 : Int32)), .unset] [])) tq → Steps p.tables e below (s₁.setTop (entryFrame m #[(.int p1), (.int p2), (.int p3), (.int p4)] maxLocals)) tq := by
      refine fun tq kq => pre148 tq ?_
      show Steps p.tables e below (T145.setTop (mkF m 94 #[.val (.int p1), .val (.int p2), .val (.int p3), .val (.int p4), .val (.int (1 : Int32)), .val (.double (FP.i2d p2)), .second, .val (.double (FP.i2d p3)), .second, .val (.double (FP.i2d p4)), .second, .val (.ref b81), .val (.int (1 : Int32)), .unset] [])) _
      refine XS.iconst X145.here hx rfl (hb hby at_94) ?_
      show Steps p.tables e below (T145.setTop (mkF m 95 #[.val (.int p1), .val (.int p2), .val (.int p3), .val (.int p4), .val (.int (1 : Int32)), .val (.double (FP.i2d p2)), .second, .val (.double (FP.i2d p3)), .second, .val (.double (FP.i2d p4)), .second, .val (.ref b81), .val (.int (1 : Int32)), .unset] [(.int (1 : Int32))])) _
      refine XS.goto X145.here hx rfl (pc0 := 95) (pc' := 99) rfl (hb hby at_95) (by decide) (by decide) ?_
      show Steps p.tables e below (T145.setTop (mkF m 99 #[.val (.int p1), .val (.int p2), .val (.int p3), .val (.int p4), .val (.int (1 : Int32)), .val (.double (FP.i2d p2)), .second, .val (.double (FP.i2d p3)), .second, .val (.double (FP.i2d p4)), .second, .val (.ref b81), .val (.int (1 : Int32)), .unset] [(.int (1 : Int32))])) _
      refine XS.istore X145.here hx rfl (hb hby at_99) rfl (l' := #[.val (.int p1), .val (.int p2), .val (.int p3), .val (.int p4), .val (.int (1 : Int32)), .val (.double (FP.i2d p2)), .second, .val (.double (FP.i2d p3)), .second, .val (.double (FP.i2d p4)), .second, .val (.ref b81), .val (.int (1 : Int32)), .unset]) rfl ?_
      show Steps p.tables e below (T145.setTop (mkF m 101 #[.val (.int p1), .val (.int p2), .val (.int p3), .val (.int p4), .val (.int (1 : Int32)), .val (.double (FP.i2d p2)), .second, .val (.double (FP.i2d p3)), .second, .val (.double (FP.i2d p4)), .second, .val (.ref b81), .val (.int (1 : Int32)), .unset] [])) _
      refine XS.iload X145.here hx rfl (hb hby at_101) rfl ?_
      show Steps p.tables e below (T145.setTop (mkF m 103 #[.val (.int p1), .val (.int p2), .val (.int p3), .val (.int p4), .val (.int (1 : Int32)), .val (.double (FP.i2d p2)), .second, .val (.double (FP.i2d p3)), .second, .val (.double (FP.i2d p4)), .second, .val (.ref b81), .val (.int (1 : Int32)), .unset] [(.int (1 : Int32))])) _
      refine XS.iconst X145.here hx rfl (hb hby at_103) ?_
      show Steps p.tables e below (T145.setTop (mkF m 104 #[.val (.int p1), .val (.int p2), .val (.int p3), .val (.int p4), .val (.int (1 : Int32)), .val (.double (FP.i2d p2)), .second, .val (.double (FP.i2d p3)), .second, .val (.double (FP.i2d p4)), .second, .val (.ref b81), .val (.int (1 : Int32)), .unset] [(.int (1 : Int32)), (.int (1 : Int32))])) _
      refine XS.icmpYes X145.here hx rfl (pc0 := 104) (pc' := 131) rfl (hb hby at_104) rfl (flt (by decide : ¬ ((1 : Int32) < (1 : Int32)))).2.2.2 (by decide) (by decide) ?_
      exact kq
    have pre150 : ∀ tq, Steps p.tables e below (T145.setTop (mkF m 161 #[.val (.int p1), .val (.int p2), .val (.int p3), .val (.int p4), .val (.int (1 : Int32)), .val (.double (FP.i2d p2)), .second, .val (.double (FP.i2d p3)), .second, .val (.double (FP.i2d p4)), .second, .val (.ref b81), .val (.int (1 : Int32)), .unset] [])) tq → Steps p.tables e below (s₁.setTop (entryFrame m #[(.int p1), (.int p2), (.int p3), (.int p4)] maxLocals)) tq := by
      refine fun tq kq => pre149 tq ?_
      show Steps p.tables e below (T145.setTop (mkF m 131 #[.val (.int p1), .val (.int p2), .val (.int p3), .val (.int p4), .val (.int (1 : Int32)), .val (.double (FP.i2d p2)), .second, .val (.double (FP.i2d p3)), .second, .val (.double (FP.i2d p4)), .second, .val (.ref b81), .val (.int (1 : Int32)), .unset] [])) _
      refine XS.iload X145.here hx rfl (hb hby at_131) rfl ?_
      show Steps p.tables e below (T145.setTop (mkF m 133 #[.val (.int p1), .val (.int p2), .val (.int p3), .val (.int p4), .val (.int (1 : Int32)), .val (.double (FP.i2d p2)), .second, .val (.double (FP.i2d p3)), .second, .val (.double (FP.i2d p4)), .second, .val (.ref b81), .val (.int (1 : Int32)), .unset] [(.int (1 : Int32))])) _
      refine XS.iconst X145.here hx rfl (hb hby at_133) ?_
      show Steps p.tables e below (T145.setTop (mkF m 134 #[.val (.int p1), .val (.int p2), .val (.int p3), .val (.int p4), .val (.int (1 : Int32)), .val (.double (FP.i2d p2)), .second, .val (.double (FP.i2d p3)), .second, .val (.double (FP.i2d p4)), .second, .val (.ref b81), .val (.int (1 : Int32)), .unset] [(.int (2 : Int32)), (.int (1 : Int32))])) _
      refine XS.icmpYes X145.here hx rfl (pc0 := 134) (pc' := 161) rfl (hb hby at_134) rfl (flt (by decide : ¬ ((2 : Int32) < (1 : Int32)))).2.2.2 (by decide) (by decide) ?_
      exact kq
    have pre151 : ∀ tq, Steps p.tables e below (T145.setTop (mkF m 163 #[.val (.int p1), .val (.int p2), .val (.int p3), .val (.int p4), .val (.int (1 : Int32)), .val (.double (FP.i2d p2)), .second, .val (.double (FP.i2d p3)), .second, .val (.double (FP.i2d p4)), .second, .val (.ref b81), .val (.int (1 : Int32)), .unset] [(.ref b81)])) tq → Steps p.tables e below (s₁.setTop (entryFrame m #[(.int p1), (.int p2), (.int p3), (.int p4)] maxLocals)) tq := by
      refine fun tq kq => pre150 tq ?_
      show Steps p.tables e below (T145.setTop (mkF m 161 #[.val (.int p1), .val (.int p2), .val (.int p3), .val (.int p4), .val (.int (1 : Int32)), .val (.double (FP.i2d p2)), .second, .val (.double (FP.i2d p3)), .second, .val (.double (FP.i2d p4)), .second, .val (.ref b81), .val (.int (1 : Int32)), .unset] [])) _
      refine XS.aload X145.here hx rfl (hb hby at_161) rfl rfl ?_
      exact kq
    have Z152 : n0 ≤ T124.heap.size := (Nat.le_trans Z124 Kq124.1)
    obtain ⟨cq152, kq152, q152a, q152b, q152c⟩ := isOf hZ ehq145 f133
    obtain ⟨_, _, ⟨T152, L152, k152, n152⟩, -, X152, ⟨Lc152, hQ152, l152, y152, z152⟩, st152⟩ := X145.virtualBack hx (y := (⟨"com/example/crisp_haptics/crisphaptics/SampleBlocks", "moveToArray", "()[D"⟩ : MethodName)) (z := (⟨"com/example/crisp_haptics/crisphaptics/SampleBlocks", "moveToArray", "()[D"⟩ : MethodName)) hown (mvT hZ (hw _ (List.mem_of_getElem? (i := 58) rfl))) (mvT hZ (hw _ (List.mem_of_getElem? (i := 59) rfl))) (notFace_of_selects (args := #[]) (mvT hZ (hw _ (List.mem_of_getElem? (i := 61) rfl)))) (mvT hZ (hw _ (List.mem_of_getElem? (i := 61) rfl))) (mvT hZ (hw _ (List.mem_of_getElem? (i := 60) rfl))) (by decide) (backOf (W := 0) (rm9_1 l Z a0 hw [] b81 u100 u130 u131 sD (FP.i2d p2) T124.heap n0 Z152 f133 f127 f126 f125 f128 f134 f135 f136 f137 g_b81 g_u100 ne106 ne139 ne140) hZ (hw _ (List.mem_of_getElem? (i := 62) rfl)) (hw _ (List.mem_of_getElem? (i := 2) rfl)) (by decide) (by decide)) q152a q152c (g := (mkF m 163 #[.val (.int p1), .val (.int p2), .val (.int p3), .val (.int p4), .val (.int (1 : Int32)), .val (.double (FP.i2d p2)), .second, .val (.double (FP.i2d p3)), .second, .val (.double (FP.i2d p4)), .second, .val (.ref b81), .val (.int (1 : Int32)), .unset] [(.ref b81)])) rfl (by rw [hml]; rfl) (Steps.refl _) (argsL := []) (rest := []) (lenOf pd0_1 rfl) rfl (by show 2 * 0 + _ ≤ _; exact Nat.le_of_eq rfl) (hb hby at_163) (fun _ _ => ⟨rfl, ehq145, (by decide : (((((0 + 1) + 2) + 0) + 1) + 0) + 2 ≤ _), (by decide : (((((0 + 3) + 32771) + 0) + 1) + 0) + 5 ≤ _)⟩)
    dsimp only [Pt.U, Pt.locs, Pt.cells, Pt.slots] at X152 l152 y152 z152 st152 hQ152
    subst l152 y152 z152
    obtain ⟨r153, u156, rfl, Nq152, Kq152, f154, f155, hq152⟩ := hQ152
    have N152 := Fr.app N145 Nq152
    have pre157 : ∀ tq, Steps p.tables e below (T152.setTop (mkF m 166 #[.val (.int p1), .val (.int p2), .val (.int p3), .val (.int p4), .val (.int (1 : Int32)), .val (.double (FP.i2d p2)), .second, .val (.double (FP.i2d p3)), .second, .val (.double (FP.i2d p4)), .second, .val (.ref b81), .val (.int (1 : Int32)), .unset] [(.ref r153)])) tq → Steps p.tables e below (s₁.setTop (entryFrame m #[(.int p1), (.int p2), (.int p3), (.int p4)] maxLocals)) tq := fun tq kq => pre151 tq (st152.trans kq)
    have K152 : Keep h0 T152.heap [] := Keep.trans K124 Kq152 (allS (Or.inr sz_b81) (allS (Or.inr sz_u100) all0))
    have f158 := f133.keep Kq152
    have f159 := f134.keep Kq152
    have f160 := f138.keep Kq152 (by simp only [List.mem_cons, List.not_mem_nil, or_false, not_or]; exact ⟨(Ne.symm ne107), (Ne.symm f99)⟩)
    have f161 := f128.keep Kq152 (by simp only [List.mem_cons, List.not_mem_nil, or_false, not_or]; exact ⟨(Ne.symm ne139), (Ne.symm ne140)⟩)
    have g_r153 : n0 ≤ r153 := Nat.le_trans Z152 f155
    have sz_r153 : h0.size ≤ r153 := Nat.le_trans (Nat.le_trans (Nat.le_trans (Nat.le_trans (Nat.le_trans (Nat.le_refl h0.size) E81.1) Kq88.1) Kq110.1) Kq124.1) f155
    have ne162 : b81 ≠ r153 := Nat.ne_of_lt (Nat.lt_of_lt_of_le f133.lt f155)
    have ne163 : u100 ≠ r153 := Nat.ne_of_lt (Nat.lt_of_lt_of_le f134.lt f155)
    have ne164 : u101 ≠ r153 := Nat.ne_of_lt (Nat.lt_of_lt_of_le f138.lt f155)
    have ne165 : u130 ≠ r153 := Nat.ne_of_lt (Nat.lt_of_lt_of_le f128.lt f155)
    have pre166 : ∀ tq, Steps p.tables e below (T152.setTop (mkF m 170 #[.val (.int p1), .val (.int p2), .val (.int p3), .val (.int p4), .val (.int (1 : Int32)), .val (.double (FP.i2d p2)), .second, .val (.double (FP.i2d p3)), .second, .val (.double (FP.i2d p4)), .second, .val (.ref b81), .val (.int (1 : Int32)), .val (.ref r153)] [(.ref r153)])) tq → Steps p.tables e below (s₁.setTop (entryFrame m #[(.int p1), (.int p2), (.int p3), (.int p4)] maxLocals)) tq := by
      refine fun tq kq => pre157 tq ?_
      show Steps p.tables e below (T152.setTop (mkF m 166 #[.val (.int p1), .val (.int p2), .val (.int p3), .val (.int p4), .val (.int (1 : Int32)), .val (.double (FP.i2d p2)), .second, .val (.double (FP.i2d p3)), .second, .val (.double (FP.i2d p4)), .second, .val (.ref b81), .val (.int (1 : Int32)), .unset] [(.ref r153)])) _
      refine XS.astore X152.here hx rfl (hb hby at_166) rfl rfl (l' := #[.val (.int p1), .val (.int p2), .val (.int p3), .val (.int p4), .val (.int (1 : Int32)), .val (.double (FP.i2d p2)), .second, .val (.double (FP.i2d p3)), .second, .val (.double (FP.i2d p4)), .second, .val (.ref b81), .val (.int (1 : Int32)), .val (.ref r153)]) rfl ?_
      show Steps p.tables e below (T152.setTop (mkF m 168 #[.val (.int p1), .val (.int p2), .val (.int p3), .val (.int p4), .val (.int (1 : Int32)), .val (.double (FP.i2d p2)), .second, .val (.double (FP.i2d p3)), .second, .val (.double (FP.i2d p4)), .second, .val (.ref b81), .val (.int (1 : Int32)), .val (.ref r153)] [])) _
      refine XS.aload X152.here hx rfl (hb hby at_168) rfl rfl ?_
      exact kq
    have Vc167 := f154
    obtain ⟨cl167, Ar167, Aq167, As167, An167, Ah167, Ag167⟩ := Vc167
    have pre168 : ∀ tq, Steps p.tables e below (T152.setTop (mkF m 171 #[.val (.int p1), .val (.int p2), .val (.int p3), .val (.int p4), .val (.int (1 : Int32)), .val (.double (FP.i2d p2)), .second, .val (.double (FP.i2d p3)), .second, .val (.double (FP.i2d p4)), .second, .val (.ref b81), .val (.int (1 : Int32)), .val (.ref r153)] [(.int (1 : Int32))])) tq → Steps p.tables e below (s₁.setTop (entryFrame m #[(.int p1), (.int p2), (.int p3), (.int p4)] maxLocals)) tq := fun tq kq => pre166 tq (X152.arraylength hx Ar167.1 (State.isArrayOf_alike hZ.alike Ar167.2.1) (g := (mkF m 170 #[.val (.int p1), .val (.int p2), .val (.int p3), .val (.int p4), .val (.int (1 : Int32)), .val (.double (FP.i2d p2)), .second, .val (.double (FP.i2d p3)), .second, .val (.double (FP.i2d p4)), .second, .val (.ref b81), .val (.int (1 : Int32)), .val (.ref r153)] [(.ref r153)])) rfl rfl (hb hby at_170) _ (by rw [len_of As167 An167]; exact kq))
    have pre169 : ∀ tq, Steps p.tables e below (T152.setTop (mkF m 178 #[.val (.int p1), .val (.int p2), .val (.int p3), .val (.int p4), .val (.int (1 : Int32)), .val (.double (FP.i2d p2)), .second, .val (.double (FP.i2d p3)), .second, .val (.double (FP.i2d p4)), .second, .val (.ref b81), .val (.int (1 : Int32)), .val (.ref r153)] [])) tq → Steps p.tables e below (s₁.setTop (entryFrame m #[(.int p1), (.int p2), (.int p3), (.int p4)] maxLocals)) tq := by
      refine fun tq kq => pre168 tq ?_
      show Steps p.tables e below (T152.setTop (mkF m 171 #[.val (.int p1), .val (.int p2), .val (.int p3), .val (.int p4), .val (.int (1 : Int32)), .val (.double (FP.i2d p2)), .second, .val (.double (FP.i2d p3)), .second, .val (.double (FP.i2d p4)), .second, .val (.ref b81), .val (.int (1 : Int32)), .val (.ref r153)] [(.int (1 : Int32))])) _
      refine XS.iload X152.here hx rfl (hb hby at_171) rfl ?_
      show Steps p.tables e below (T152.setTop (mkF m 173 #[.val (.int p1), .val (.int p2), .val (.int p3), .val (.int p4), .val (.int (1 : Int32)), .val (.double (FP.i2d p2)), .second, .val (.double (FP.i2d p3)), .second, .val (.double (FP.i2d p4)), .second, .val (.ref b81), .val (.int (1 : Int32)), .val (.ref r153)] [(.int (1 : Int32)), (.int (1 : Int32))])) _
      refine XS.icmpYes X152.here hx rfl (pc0 := 173) (pc' := 178) rfl (hb hby at_173) rfl (teq (by decide : (1 : Int32) = (1 : Int32))).1 (by decide) (by decide) ?_
      exact kq
    have pre170 : ∀ tq, Steps p.tables e below (T152.setTop (mkF m 183 #[.val (.int p1), .val (.int p2), .val (.int p3), .val (.int p4), .val (.int (1 : Int32)), .val (.double (FP.i2d p2)), .second, .val (.double (FP.i2d p3)), .second, .val (.double (FP.i2d p4)), .second, .val (.ref b81), .val (.int (1 : Int32)), .val (.ref r153)] [])) tq → Steps p.tables e below (s₁.setTop (entryFrame m #[(.int p1), (.int p2), (.int p3), (.int p4)] maxLocals)) tq := by
      refine fun tq kq => pre169 tq ?_
      show Steps p.tables e below (T152.setTop (mkF m 178 #[.val (.int p1), .val (.int p2), .val (.int p3), .val (.int p4), .val (.int (1 : Int32)), .val (.double (FP.i2d p2)), .second, .val (.double (FP.i2d p3)), .second, .val (.double (FP.i2d p4)), .second, .val (.ref b81), .val (.int (1 : Int32)), .val (.ref r153)] [])) _
      refine XS.iload X152.here hx rfl (hb hby at_178) rfl ?_
      show Steps p.tables e below (T152.setTop (mkF m 180 #[.val (.int p1), .val (.int p2), .val (.int p3), .val (.int p4), .val (.int (1 : Int32)), .val (.double (FP.i2d p2)), .second, .val (.double (FP.i2d p3)), .second, .val (.double (FP.i2d p4)), .second, .val (.ref b81), .val (.int (1 : Int32)), .val (.ref r153)] [(.int (1 : Int32))])) _
      refine XS.ifNo X152.here hx rfl (hb hby at_180) rfl ((if0 _ _).trans (tlt (by decide : (0 : Int32) < (1 : Int32))).2.2.2) ?_
      exact kq
    have pre171 : ∀ tq, Steps p.tables e below (T152.setTop (mkF m 188 #[.val (.int p1), .val (.int p2), .val (.int p3), .val (.int p4), .val (.int (1 : Int32)), .val (.double (FP.i2d p2)), .second, .val (.double (FP.i2d p3)), .second, .val (.double (FP.i2d p4)), .second, .val (.ref b81), .val (.int (1 : Int32)), .val (.ref r153)] [])) tq → Steps p.tables e below (s₁.setTop (entryFrame m #[(.int p1), (.int p2), (.int p3), (.int p4)] maxLocals)) tq := by
      refine fun tq kq => pre170 tq ?_
      show Steps p.tables e below (T152.setTop (mkF m 183 #[.val (.int p1), .val (.int p2), .val (.int p3), .val (.int p4), .val (.int (1 : Int32)), .val (.double (FP.i2d p2)), .second, .val (.double (FP.i2d p3)), .second, .val (.double (FP.i2d p4)), .second, .val (.ref b81), .val (.int (1 : Int32)), .val (.ref r153)] [])) _
      refine XS.iload X152.here hx rfl (hb hby at_183) rfl ?_
      show Steps p.tables e below (T152.setTop (mkF m 185 #[.val (.int p1), .val (.int p2), .val (.int p3), .val (.int p4), .val (.int (1 : Int32)), .val (.double (FP.i2d p2)), .second, .val (.double (FP.i2d p3)), .second, .val (.double (FP.i2d p4)), .second, .val (.ref b81), .val (.int (1 : Int32)), .val (.ref r153)] [(.int (1 : Int32))])) _
      refine XS.ifNo X152.here hx rfl (hb hby at_185) rfl ((if0 _ _).trans (feq (by decide : ¬ ((1 : Int32) = (0 : Int32)))).1) ?_
      exact kq
    have pre172 : ∀ tq, Steps p.tables e below (T152.setTop (mkF m 191 #[.val (.int p1), .val (.int p2), .val (.int p3), .val (.int p4), .val (.int (1 : Int32)), .val (.double (FP.i2d p2)), .second, .val (.double (FP.i2d p3)), .second, .val (.double (FP.i2d p4)), .second, .val (.ref b81), .val (.int (1 : Int32)), .val (.ref r153)] [(.int (0 : Int32)), (.ref r153)])) tq → Steps p.tables e below (s₁.setTop (entryFrame m #[(.int p1), (.int p2), (.int p3), (.int p4)] maxLocals)) tq := by
      refine fun tq kq => pre171 tq ?_
      show Steps p.tables e below (T152.setTop (mkF m 188 #[.val (.int p1), .val (.int p2), .val (.int p3), .val (.int p4), .val (.int (1 : Int32)), .val (.double (FP.i2d p2)), .second, .val (.double (FP.i2d p3)), .second, .val (.double (FP.i2d p4)), .second, .val (.ref b81), .val (.int (1 : Int32)), .val (.ref r153)] [])) _
      refine XS.aload X152.here hx rfl (hb hby at_188) rfl rfl ?_
      show Steps p.tables e below (T152.setTop (mkF m 190 #[.val (.int p1), .val (.int p2), .val (.int p3), .val (.int p4), .val (.int (1 : Int32)), .val (.double (FP.i2d p2)), .second, .val (.double (FP.i2d p3)), .second, .val (.double (FP.i2d p4)), .second, .val (.ref b81), .val (.int (1 : Int32)), .val (.ref r153)] [(.ref r153)])) _
      refine XS.iconst X152.here hx rfl (hb hby at_190) ?_
      exact kq
    have Vc173 := f154
    obtain ⟨cl173, Ar173, Aq173, As173, An173, Ah173, Ag173⟩ := Vc173
    have hin173 : ¬ ((0 : Int32) < 0 ∨ cl173.slots.size ≤ ((0 : Int32)).toNatClampNeg) := inb_of As173 ⟨by decide, by decide⟩
    have pre174 : ∀ tq, Steps p.tables e below (T152.setTop (mkF m 192 #[.val (.int p1), .val (.int p2), .val (.int p3), .val (.int p4), .val (.int (1 : Int32)), .val (.double (FP.i2d p2)), .second, .val (.double (FP.i2d p3)), .second, .val (.double (FP.i2d p4)), .second, .val (.ref b81), .val (.int (1 : Int32)), .val (.ref r153)] [(.double (FP.i2d p2))])) tq → Steps p.tables e below (s₁.setTop (entryFrame m #[(.int p1), (.int p2), (.int p3), (.int p4)] maxLocals)) tq := fun tq kq => pre172 tq (X152.daload hx (j := (0 : Int32)) (v := (.double (FP.i2d p2))) Ar173.1 (State.isArrayOf_alike hZ.alike Ar173.2.1) Ar173.2.2 hin173 (Has.at Ah173 hin173 rfl) (g := (mkF m 191 #[.val (.int p1), .val (.int p2), .val (.int p3), .val (.int p4), .val (.int (1 : Int32)), .val (.double (FP.i2d p2)), .second, .val (.double (FP.i2d p3)), .second, .val (.double (FP.i2d p4)), .second, .val (.ref b81), .val (.int (1 : Int32)), .val (.ref r153)] [(.int (0 : Int32)), (.ref r153)])) rfl rfl (hb hby at_191) _ kq)
    have pre175 : ∀ tq, Steps p.tables e below (T152.setTop (mkF m 198 #[.val (.int p1), .val (.int p2), .val (.int p3), .val (.int p4), .val (.int (1 : Int32)), .val (.double (FP.i2d p2)), .second, .val (.double (FP.i2d p3)), .second, .val (.double (FP.i2d p4)), .second, .val (.ref b81), .val (.int (1 : Int32)), .val (.ref r153)] [])) tq → Steps p.tables e below (s₁.setTop (entryFrame m #[(.int p1), (.int p2), (.int p3), (.int p4)] maxLocals)) tq := by
      refine fun tq kq => pre174 tq ?_
      show Steps p.tables e below (T152.setTop (mkF m 192 #[.val (.int p1), .val (.int p2), .val (.int p3), .val (.int p4), .val (.int (1 : Int32)), .val (.double (FP.i2d p2)), .second, .val (.double (FP.i2d p3)), .second, .val (.double (FP.i2d p4)), .second, .val (.ref b81), .val (.int (1 : Int32)), .val (.ref r153)] [(.double (FP.i2d p2))])) _
      refine XS.dload X152.here hx rfl (hb hby at_192) rfl ?_
      show Steps p.tables e below (T152.setTop (mkF m 194 #[.val (.int p1), .val (.int p2), .val (.int p3), .val (.int p4), .val (.int (1 : Int32)), .val (.double (FP.i2d p2)), .second, .val (.double (FP.i2d p3)), .second, .val (.double (FP.i2d p4)), .second, .val (.ref b81), .val (.int (1 : Int32)), .val (.ref r153)] [(.double (FP.i2d p2)), (.double (FP.i2d p2))])) _
      refine XS.dcmpS X152.here hx rfl (hb hby at_194) rfl (dcmpV_self (nn_w (i2d_w _)) _) ?_
      show Steps p.tables e below (T152.setTop (mkF m 195 #[.val (.int p1), .val (.int p2), .val (.int p3), .val (.int p4), .val (.int (1 : Int32)), .val (.double (FP.i2d p2)), .second, .val (.double (FP.i2d p3)), .second, .val (.double (FP.i2d p4)), .second, .val (.ref b81), .val (.int (1 : Int32)), .val (.ref r153)] [(.int (0 : Int32))])) _
      refine XS.ifNo X152.here hx rfl (hb hby at_195) rfl ((if0 _ _).trans (teq (by decide : (0 : Int32) = (0 : Int32))).2) ?_
      exact kq
    have pre176 : ∀ tq, Steps p.tables e below (T152.setTop (mkF m 233 #[.val (.int p1), .val (.int p2), .val (.int p3), .val (.int p4), .val (.int (1 : Int32)), .val (.double (FP.i2d p2)), .second, .val (.double (FP.i2d p3)), .second, .val (.double (FP.i2d p4)), .second, .val (.ref b81), .val (.int (1 : Int32)), .val (.ref r153)] [])) tq → Steps p.tables e below (s₁.setTop (entryFrame m #[(.int p1), (.int p2), (.int p3), (.int p4)] maxLocals)) tq := by
      refine fun tq kq => pre175 tq ?_
      show Steps p.tables e below (T152.setTop (mkF m 198 #[.val (.int p1), .val (.int p2), .val (.int p3), .val (.int p4), .val (.int (1 : Int32)), .val (.double (FP.i2d p2)), .second, .val (.double (FP.i2d p3)), .second, .val (.double (FP.i2d p4)), .second, .val (.ref b81), .val (.int (1 : Int32)), .val (.ref r153)] [])) _
      refine XS.iconst X152.here hx rfl (hb hby at_198) ?_
      show Steps p.tables e below (T152.setTop (mkF m 199 #[.val (.int p1), .val (.int p2), .val (.int p3), .val (.int p4), .val (.int (1 : Int32)), .val (.double (FP.i2d p2)), .second, .val (.double (FP.i2d p3)), .second, .val (.double (FP.i2d p4)), .second, .val (.ref b81), .val (.int (1 : Int32)), .val (.ref r153)] [(.int (1 : Int32))])) _
      refine XS.goto X152.here hx rfl (pc0 := 199) (pc' := 203) rfl (hb hby at_199) (by decide) (by decide) ?_
      show Steps p.tables e below (T152.setTop (mkF m 203 #[.val (.int p1), .val (.int p2), .val (.int p3), .val (.int p4), .val (.int (1 : Int32)), .val (.double (FP.i2d p2)), .second, .val (.double (FP.i2d p3)), .second, .val (.double (FP.i2d p4)), .second, .val (.ref b81), .val (.int (1 : Int32)), .val (.ref r153)] [(.int (1 : Int32))])) _
      refine XS.istore X152.here hx rfl (hb hby at_203) rfl (l' := #[.val (.int p1), .val (.int p2), .val (.int p3), .val (.int p4), .val (.int (1 : Int32)), .val (.double (FP.i2d p2)), .second, .val (.double (FP.i2d p3)), .second, .val (.double (FP.i2d p4)), .second, .val (.ref b81), .val (.int (1 : Int32)), .val (.ref r153)]) rfl ?_
      show Steps p.tables e below (T152.setTop (mkF m 205 #[.val (.int p1), .val (.int p2), .val (.int p3), .val (.int p4), .val (.int (1 : Int32)), .val (.double (FP.i2d p2)), .second, .val (.double (FP.i2d p3)), .second, .val (.double (FP.i2d p4)), .second, .val (.ref b81), .val (.int (1 : Int32)), .val (.ref r153)] [])) _
      refine XS.iload X152.here hx rfl (hb hby at_205) rfl ?_
      show Steps p.tables e below (T152.setTop (mkF m 207 #[.val (.int p1), .val (.int p2), .val (.int p3), .val (.int p4), .val (.int (1 : Int32)), .val (.double (FP.i2d p2)), .second, .val (.double (FP.i2d p3)), .second, .val (.double (FP.i2d p4)), .second, .val (.ref b81), .val (.int (1 : Int32)), .val (.ref r153)] [(.int (1 : Int32))])) _
      refine XS.iconst X152.here hx rfl (hb hby at_207) ?_
      show Steps p.tables e below (T152.setTop (mkF m 208 #[.val (.int p1), .val (.int p2), .val (.int p3), .val (.int p4), .val (.int (1 : Int32)), .val (.double (FP.i2d p2)), .second, .val (.double (FP.i2d p3)), .second, .val (.double (FP.i2d p4)), .second, .val (.ref b81), .val (.int (1 : Int32)), .val (.ref r153)] [(.int (1 : Int32)), (.int (1 : Int32))])) _
      refine XS.icmpYes X152.here hx rfl (pc0 := 208) (pc' := 233) rfl (hb hby at_208) rfl (flt (by decide : ¬ ((1 : Int32) < (1 : Int32)))).2.2.2 (by decide) (by decide) ?_
      exact kq
    have pre177 : ∀ tq, Steps p.tables e below (T152.setTop (mkF m 261 #[.val (.int p1), .val (.int p2), .val (.int p3), .val (.int p4), .val (.int (1 : Int32)), .val (.double (FP.i2d p2)), .second, .val (.double (FP.i2d p3)), .second, .val (.double (FP.i2d p4)), .second, .val (.ref b81), .val (.int (1 : Int32)), .val (.ref r153)] [])) tq → Steps p.tables e below (s₁.setTop (entryFrame m #[(.int p1), (.int p2), (.int p3), (.int p4)] maxLocals)) tq := by
      refine fun tq kq => pre176 tq ?_
      show Steps p.tables e below (T152.setTop (mkF m 233 #[.val (.int p1), .val (.int p2), .val (.int p3), .val (.int p4), .val (.int (1 : Int32)), .val (.double (FP.i2d p2)), .second, .val (.double (FP.i2d p3)), .second, .val (.double (FP.i2d p4)), .second, .val (.ref b81), .val (.int (1 : Int32)), .val (.ref r153)] [])) _
      refine XS.iload X152.here hx rfl (hb hby at_233) rfl ?_
      show Steps p.tables e below (T152.setTop (mkF m 235 #[.val (.int p1), .val (.int p2), .val (.int p3), .val (.int p4), .val (.int (1 : Int32)), .val (.double (FP.i2d p2)), .second, .val (.double (FP.i2d p3)), .second, .val (.double (FP.i2d p4)), .second, .val (.ref b81), .val (.int (1 : Int32)), .val (.ref r153)] [(.int (1 : Int32))])) _
      refine XS.iconst X152.here hx rfl (hb hby at_235) ?_
      show Steps p.tables e below (T152.setTop (mkF m 236 #[.val (.int p1), .val (.int p2), .val (.int p3), .val (.int p4), .val (.int (1 : Int32)), .val (.double (FP.i2d p2)), .second, .val (.double (FP.i2d p3)), .second, .val (.double (FP.i2d p4)), .second, .val (.ref b81), .val (.int (1 : Int32)), .val (.ref r153)] [(.int (2 : Int32)), (.int (1 : Int32))])) _
      refine XS.icmpYes X152.here hx rfl (pc0 := 236) (pc' := 261) rfl (hb hby at_236) rfl (flt (by decide : ¬ ((2 : Int32) < (1 : Int32)))).2.2.2 (by decide) (by decide) ?_
      exact kq
    obtain ⟨fs, hr, hrun, hended, hW, hsame⟩ := X152.leave (v := some (.int (1 : Int32))) (fun h => by rw [Bd.returns] at h; cases h)
    refine ⟨_, _, pre177 _ ?_, hrun, hended, _, _, rfl, ?_, ⟨_, rfl⟩, hW, hsame.mono (by decide) (by decide)⟩
    · skip
      show Steps p.tables e below (T152.setTop (mkF m 261 #[.val (.int p1), .val (.int p2), .val (.int p3), .val (.int p4), .val (.int (1 : Int32)), .val (.double (FP.i2d p2)), .second, .val (.double (FP.i2d p3)), .second, .val (.double (FP.i2d p4)), .second, .val (.ref b81), .val (.int (1 : Int32)), .val (.ref r153)] [])) _
      refine XS.iload X152.here hx rfl (hb hby at_261) rfl ?_
      show Steps p.tables e below (T152.setTop (mkF m 263 #[.val (.int p1), .val (.int p2), .val (.int p3), .val (.int p4), .val (.int (1 : Int32)), .val (.double (FP.i2d p2)), .second, .val (.double (FP.i2d p3)), .second, .val (.double (FP.i2d p4)), .second, .val (.ref b81), .val (.int (1 : Int32)), .val (.ref r153)] [(.int (1 : Int32))])) _
      exact retN X152 hx (t := .boolean) Bd.returns (by simp) (hb hby at_263) hr
    · show Q0 Z p1 p2 p3 p4 sD h0 n0 _ T152.heap _
      exact ⟨rfl, N152⟩
  · skip
    subst hk
    have pre178 : ∀ tq, Steps p.tables e below (s₁.setTop (mkF m 17 #[.val (.int p1), .val (.int p2), .val (.int p3), .val (.int p4), .val (.int (2 : Int32)), .val (.double (FP.i2d p2)), .second, .val (.double (FP.i2d p3)), .second, .val (.double (FP.i2d p4)), .second, .unset, .unset, .unset] [])) tq → Steps p.tables e below (s₁.setTop (entryFrame m #[(.int p1), (.int p2), (.int p3), (.int p4)] maxLocals)) tq := by
      refine fun tq kq => pre1 tq ?_
      show Steps p.tables e below (s₁.setTop (mkF m 5 #[.val (.int p1), .val (.int p2), .val (.int p3), .val (.int p4), .val (.int (2 : Int32)), .unset, .unset, .unset, .unset, .unset, .unset, .unset, .unset, .unset] [])) _
      refine XS.iloadN X0.here hx rfl (hb hby at_5) rfl ?_
      show Steps p.tables e below (s₁.setTop (mkF m 6 #[.val (.int p1), .val (.int p2), .val (.int p3), .val (.int p4), .val (.int (2 : Int32)), .unset, .unset, .unset, .unset, .unset, .unset, .unset, .unset, .unset] [(.int p2)])) _
      refine XS.i2dS X0.here hx rfl (hb hby at_6) rfl rfl ?_
      show Steps p.tables e below (s₁.setTop (mkF m 7 #[.val (.int p1), .val (.int p2), .val (.int p3), .val (.int p4), .val (.int (2 : Int32)), .unset, .unset, .unset, .unset, .unset, .unset, .unset, .unset, .unset] [(.double (FP.i2d p2))])) _
      refine XS.dstore X0.here hx rfl (hb hby at_7) rfl (l' := #[.val (.int p1), .val (.int p2), .val (.int p3), .val (.int p4), .val (.int (2 : Int32)), .val (.double (FP.i2d p2)), .second, .unset, .unset, .unset, .unset, .unset, .unset, .unset]) rfl ?_
      show Steps p.tables e below (s₁.setTop (mkF m 9 #[.val (.int p1), .val (.int p2), .val (.int p3), .val (.int p4), .val (.int (2 : Int32)), .val (.double (FP.i2d p2)), .second, .unset, .unset, .unset, .unset, .unset, .unset, .unset] [])) _
      refine XS.iloadN X0.here hx rfl (hb hby at_9) rfl ?_
      show Steps p.tables e below (s₁.setTop (mkF m 10 #[.val (.int p1), .val (.int p2), .val (.int p3), .val (.int p4), .val (.int (2 : Int32)), .val (.double (FP.i2d p2)), .second, .unset, .unset, .unset, .unset, .unset, .unset, .unset] [(.int p3)])) _
      refine XS.i2dS X0.here hx rfl (hb hby at_10) rfl rfl ?_
      show Steps p.tables e below (s₁.setTop (mkF m 11 #[.val (.int p1), .val (.int p2), .val (.int p3), .val (.int p4), .val (.int (2 : Int32)), .val (.double (FP.i2d p2)), .second, .unset, .unset, .unset, .unset, .unset, .unset, .unset] [(.double (FP.i2d p3))])) _
      refine XS.dstore X0.here hx rfl (hb hby at_11) rfl (l' := #[.val (.int p1), .val (.int p2), .val (.int p3), .val (.int p4), .val (.int (2 : Int32)), .val (.double (FP.i2d p2)), .second, .val (.double (FP.i2d p3)), .second, .unset, .unset, .unset, .unset, .unset]) rfl ?_
      show Steps p.tables e below (s₁.setTop (mkF m 13 #[.val (.int p1), .val (.int p2), .val (.int p3), .val (.int p4), .val (.int (2 : Int32)), .val (.double (FP.i2d p2)), .second, .val (.double (FP.i2d p3)), .second, .unset, .unset, .unset, .unset, .unset] [])) _
      refine XS.iloadN X0.here hx rfl (hb hby at_13) rfl ?_
      show Steps p.tables e below (s₁.setTop (mkF m 14 #[.val (.int p1), .val (.int p2), .val (.int p3), .val (.int p4), .val (.int (2 : Int32)), .val (.double (FP.i2d p2)), .second, .val (.double (FP.i2d p3)), .second, .unset, .unset, .unset, .unset, .unset] [(.int p4)])) _
      refine XS.i2dS X0.here hx rfl (hb hby at_14) rfl rfl ?_
      show Steps p.tables e below (s₁.setTop (mkF m 15 #[.val (.int p1), .val (.int p2), .val (.int p3), .val (.int p4), .val (.int (2 : Int32)), .val (.double (FP.i2d p2)), .second, .val (.double (FP.i2d p3)), .second, .unset, .unset, .unset, .unset, .unset] [(.double (FP.i2d p4))])) _
      refine XS.dstore X0.here hx rfl (hb hby at_15) rfl (l' := #[.val (.int p1), .val (.int p2), .val (.int p3), .val (.int p4), .val (.int (2 : Int32)), .val (.double (FP.i2d p2)), .second, .val (.double (FP.i2d p3)), .second, .val (.double (FP.i2d p4)), .second, .unset, .unset, .unset]) rfl ?_
      exact kq
    obtain ⟨T179, h179, X179, e179, E179, A179, D179, -, st179⟩ := newO X0 hx hZ hown (hw _ (List.mem_of_getElem? (i := 0) rfl)) (hw _ (List.mem_of_getElem? (i := 1) rfl)) (hw _ (List.mem_of_getElem? (i := 2) rfl)) e0 (g := (mkF m 17 #[.val (.int p1), .val (.int p2), .val (.int p3), .val (.int p4), .val (.int (2 : Int32)), .val (.double (FP.i2d p2)), .second, .val (.double (FP.i2d p3)), .second, .val (.double (FP.i2d p4)), .second, .unset, .unset, .unset] [])) rfl (hb hby at_17) (by decide) (by decide)
    obtain ⟨b179, g179⟩ : ∃ z, z = h0.size := ⟨_, rfl⟩
    rw [← g179] at A179 D179 st179
    have g_b179 : n0 ≤ b179 := Nat.le_trans Z0 (Nat.le_of_eq g179.symm)
    have sz_b179 : h0.size ≤ b179 := Nat.le_trans (Nat.le_refl h0.size) (Nat.le_of_eq g179.symm)
    have pre180 : ∀ tq, Steps p.tables e below (T179.setTop (mkF m 20 #[.val (.int p1), .val (.int p2), .val (.int p3), .val (.int p4), .val (.int (2 : Int32)), .val (.double (FP.i2d p2)), .second, .val (.double (FP.i2d p3)), .second, .val (.double (FP.i2d p4)), .second, .unset, .unset, .unset] [(.ref b179)])) tq → Steps p.tables e below (s₁.setTop (entryFrame m #[(.int p1), (.int p2), (.int p3), (.int p4)] maxLocals)) tq := fun tq kq => pre178 tq (st179 _ kq)
    have f181 := S_DEFAULTCAPACITY_EMPTY_ELEMENTDATA.ext E179
    have K179 : Keep h0 h179 [] := Keep.ext (Keep.refl h0 []) E179
    have f182 : Fld Z h179 b179 "com/example/crisp_haptics/crisphaptics/SampleBlocks" "fullBlocks" "Ljava/util/List;" .null := D179 (Or.inr (hw _ (List.mem_of_getElem? (i := 34) rfl))) (ty := (.object "java/util/List")) (by decide)
    have f183 : Fld Z h179 b179 "com/example/crisp_haptics/crisphaptics/SampleBlocks" "block" "[D" .null := D179 (Or.inl (hw _ (List.mem_of_getElem? (i := 38) rfl))) (ty := (.array .double)) (by decide)
    have f184 : Fld Z h179 b179 "com/example/crisp_haptics/crisphaptics/SampleBlocks" "inBlock" "I" (.int (0 : Int32)) := D179 (Or.inl (hw _ (List.mem_of_getElem? (i := 45) rfl))) (ty := .int) (by decide)
    have pre185 : ∀ tq, Steps p.tables e below (T179.setTop (mkF m 21 #[.val (.int p1), .val (.int p2), .val (.int p3), .val (.int p4), .val (.int (2 : Int32)), .val (.double (FP.i2d p2)), .second, .val (.double (FP.i2d p3)), .second, .val (.double (FP.i2d p4)), .second, .unset, .unset, .unset] [(.ref b179), (.ref b179)])) tq → Steps p.tables e below (s₁.setTop (entryFrame m #[(.int p1), (.int p2), (.int p3), (.int p4)] maxLocals)) tq := by
      refine fun tq kq => pre180 tq ?_
      show Steps p.tables e below (T179.setTop (mkF m 20 #[.val (.int p1), .val (.int p2), .val (.int p3), .val (.int p4), .val (.int (2 : Int32)), .val (.double (FP.i2d p2)), .second, .val (.double (FP.i2d p3)), .second, .val (.double (FP.i2d p4)), .second, .unset, .unset, .unset] [(.ref b179)])) _
      refine XS.dup X179.here hx rfl (hb hby at_20) rfl rfl ?_
      exact kq
    have Z186 : n0 ≤ h179.size := (Nat.le_trans Z0 E179.1)
    obtain ⟨_, _, ⟨T186, L186, k186, n186⟩, -, X186, ⟨Lc186, hQ186, l186, y186, z186⟩, st186⟩ := X179.specialBack hx (y := (⟨"com/example/crisp_haptics/crisphaptics/SampleBlocks", "<init>", "()V"⟩ : MethodName)) rfl hown (mvT hZ (hw _ (List.mem_of_getElem? (i := 3) rfl))) (mvT hZ (hw _ (List.mem_of_getElem? (i := 4) rfl))) (mvT hZ (hw _ (List.mem_of_getElem? (i := 5) rfl))) (by decide) (backOf (W := 1) (rm1 l Z a0 hw [] b179 sD h179 n0 Z186 A179 f182 f183 f184 g_b179 f181) hZ (hw _ (List.mem_of_getElem? (i := 5) rfl)) (hw _ (List.mem_of_getElem? (i := 2) rfl)) (by decide) (by decide)) (g := (mkF m 21 #[.val (.int p1), .val (.int p2), .val (.int p3), .val (.int p4), .val (.int (2 : Int32)), .val (.double (FP.i2d p2)), .second, .val (.double (FP.i2d p3)), .second, .val (.double (FP.i2d p4)), .second, .unset, .unset, .unset] [(.ref b179), (.ref b179)])) rfl (by rw [hml]; rfl) (Steps.refl _) (a := b179) (argsL := []) (rest := [(.ref b179)]) (lenOf pd0_0 rfl) rfl (by show 2 * 0 + _ ≤ _; exact Nat.le_of_eq rfl) (hb hby at_21) (fun _ _ => ⟨rfl, e179, (by decide : (0 + 1) + 2 ≤ _), (by decide : (0 + 3) + 32771 ≤ _)⟩)
    dsimp only [Pt.U, Pt.locs, Pt.cells, Pt.slots] at X186 l186 y186 z186 st186 hQ186
    subst l186 y186 z186
    obtain ⟨u198, u199, u200, rfl, Nq186, Kq186, f187, f188, f189, f190, f191, f192, f193, f194, f195, f196, f197, hq186⟩ := hQ186
    have N186 := Fr.app N0 Nq186
    have pre201 : ∀ tq, Steps p.tables e below (T186.setTop (mkF m 24 #[.val (.int p1), .val (.int p2), .val (.int p3), .val (.int p4), .val (.int (2 : Int32)), .val (.double (FP.i2d p2)), .second, .val (.double (FP.i2d p3)), .second, .val (.double (FP.i2d p4)), .second, .unset, .unset, .unset] [(.ref b179)])) tq → Steps p.tables e below (s₁.setTop (entryFrame m #[(.int p1), (.int p2), (.int p3), (.int p4)] maxLocals)) tq := fun tq kq => pre185 tq (st186.trans kq)
    have K186 : Keep h0 T186.heap [] := Keep.trans K179 Kq186 (allS (Or.inr sz_b179) all0)
    have f202 := own_sta_keep f181 Kq186 (allS (own_nostat A179) all0)
    have f203 := A179.keep Kq186
    have g_u198 : n0 ≤ u198 := Nat.le_trans Z186 f195
    have sz_u198 : h0.size ≤ u198 := Nat.le_trans (Nat.le_trans (Nat.le_refl h0.size) E179.1) f195
    have ne204 : b179 ≠ u198 := Nat.ne_of_lt (Nat.lt_of_lt_of_le A179.lt f195)
    have g_u199 : n0 ≤ u199 := Nat.le_trans Z186 f196
    have sz_u199 : h0.size ≤ u199 := Nat.le_trans (Nat.le_trans (Nat.le_refl h0.size) E179.1) f196
    have ne205 : b179 ≠ u199 := Nat.ne_of_lt (Nat.lt_of_lt_of_le A179.lt f196)
    have pre206 : ∀ tq, Steps p.tables e below (T186.setTop (mkF m 31 #[.val (.int p1), .val (.int p2), .val (.int p3), .val (.int p4), .val (.int (2 : Int32)), .val (.double (FP.i2d p2)), .second, .val (.double (FP.i2d p3)), .second, .val (.double (FP.i2d p4)), .second, .val (.ref b179), .unset, .unset] [])) tq → Steps p.tables e below (s₁.setTop (entryFrame m #[(.int p1), (.int p2), (.int p3), (.int p4)] maxLocals)) tq := by
      refine fun tq kq => pre201 tq ?_
      show Steps p.tables e below (T186.setTop (mkF m 24 #[.val (.int p1), .val (.int p2), .val (.int p3), .val (.int p4), .val (.int (2 : Int32)), .val (.double (FP.i2d p2)), .second, .val (.double (FP.i2d p3)), .second, .val (.double (FP.i2d p4)), .second, .unset, .unset, .unset] [(.ref b179)])) _
      refine XS.astore X186.here hx rfl (hb hby at_24) rfl rfl (l' := #[.val (.int p1), .val (.int p2), .val (.int p3), .val (.int p4), .val (.int (2 : Int32)), .val (.double (FP.i2d p2)), .second, .val (.double (FP.i2d p3)), .second, .val (.double (FP.i2d p4)), .second, .val (.ref b179), .unset, .unset]) rfl ?_
      show Steps p.tables e below (T186.setTop (mkF m 26 #[.val (.int p1), .val (.int p2), .val (.int p3), .val (.int p4), .val (.int (2 : Int32)), .val (.double (FP.i2d p2)), .second, .val (.double (FP.i2d p3)), .second, .val (.double (FP.i2d p4)), .second, .val (.ref b179), .unset, .unset] [])) _
      refine XS.iload X186.here hx rfl (hb hby at_26) rfl ?_
      show Steps p.tables e below (T186.setTop (mkF m 28 #[.val (.int p1), .val (.int p2), .val (.int p3), .val (.int p4), .val (.int (2 : Int32)), .val (.double (FP.i2d p2)), .second, .val (.double (FP.i2d p3)), .second, .val (.double (FP.i2d p4)), .second, .val (.ref b179), .unset, .unset] [(.int (2 : Int32))])) _
      refine XS.ifNo X186.here hx rfl (hb hby at_28) rfl ((if0 _ _).trans (tlt (by decide : (0 : Int32) < (2 : Int32))).2.2.2) ?_
      exact kq
    have pre207 : ∀ tq, Steps p.tables e below (T186.setTop (mkF m 35 #[.val (.int p1), .val (.int p2), .val (.int p3), .val (.int p4), .val (.int (2 : Int32)), .val (.double (FP.i2d p2)), .second, .val (.double (FP.i2d p3)), .second, .val (.double (FP.i2d p4)), .second, .val (.ref b179), .unset, .unset] [(.double (FP.i2d p2)), (.ref b179)])) tq → Steps p.tables e below (s₁.setTop (entryFrame m #[(.int p1), (.int p2), (.int p3), (.int p4)] maxLocals)) tq := by
      refine fun tq kq => pre206 tq ?_
      show Steps p.tables e below (T186.setTop (mkF m 31 #[.val (.int p1), .val (.int p2), .val (.int p3), .val (.int p4), .val (.int (2 : Int32)), .val (.double (FP.i2d p2)), .second, .val (.double (FP.i2d p3)), .second, .val (.double (FP.i2d p4)), .second, .val (.ref b179), .unset, .unset] [])) _
      refine XS.aload X186.here hx rfl (hb hby at_31) rfl rfl ?_
      show Steps p.tables e below (T186.setTop (mkF m 33 #[.val (.int p1), .val (.int p2), .val (.int p3), .val (.int p4), .val (.int (2 : Int32)), .val (.double (FP.i2d p2)), .second, .val (.double (FP.i2d p3)), .second, .val (.double (FP.i2d p4)), .second, .val (.ref b179), .unset, .unset] [(.ref b179)])) _
      refine XS.dload X186.here hx rfl (hb hby at_33) rfl ?_
      exact kq
    have Z208 : n0 ≤ T186.heap.size := (Nat.le_trans Z186 Kq186.1)
    obtain ⟨cq208, kq208, q208a, q208b, q208c⟩ := isOf hZ rfl f203
    obtain ⟨_, _, ⟨T208, L208, k208, n208⟩, -, X208, ⟨Lc208, hQ208, l208, y208, z208⟩, st208⟩ := X186.virtualBack hx (y := (⟨"com/example/crisp_haptics/crisphaptics/SampleBlocks", "add", "(D)V"⟩ : MethodName)) (z := (⟨"com/example/crisp_haptics/crisphaptics/SampleBlocks", "add", "(D)V"⟩ : MethodName)) hown (mvT hZ (hw _ (List.mem_of_getElem? (i := 120) rfl))) (mvT hZ (hw _ (List.mem_of_getElem? (i := 121) rfl))) (notFace_of_selects (args := #[]) (mvT hZ (hw _ (List.mem_of_getElem? (i := 123) rfl)))) (mvT hZ (hw _ (List.mem_of_getElem? (i := 123) rfl))) (mvT hZ (hw _ (List.mem_of_getElem? (i := 122) rfl))) (by decide) (backOf (W := 0) (rm15_0 l Z a0 hw [] b179 (FP.i2d p2) u198 u199 u200 0 0 0 T186.heap n0 Z208 f203 f189 f188 f187 f194 g_b179 g_u199 ne205) hZ (hw _ (List.mem_of_getElem? (i := 124) rfl)) (hw _ (List.mem_of_getElem? (i := 2) rfl)) (by decide) (by decide)) q208a q208c (g := (mkF m 35 #[.val (.int p1), .val (.int p2), .val (.int p3), .val (.int p4), .val (.int (2 : Int32)), .val (.double (FP.i2d p2)), .second, .val (.double (FP.i2d p3)), .second, .val (.double (FP.i2d p4)), .second, .val (.ref b179), .unset, .unset] [(.double (FP.i2d p2)), (.ref b179)])) rfl (by rw [hml]; rfl) (Steps.refl _) (argsL := [(.double (FP.i2d p2))]) (rest := []) (lenOf pd0_2 rfl) rfl (by show 2 * 0 + _ ≤ _; exact Nat.le_of_eq rfl) (hb hby at_35) (fun _ _ => ⟨rfl, rfl, (by decide : ((0 + 1) + 2) + 0 ≤ _), (by decide : ((0 + 3) + 32771) + 0 ≤ _)⟩)
    dsimp only [Pt.U, Pt.locs, Pt.cells, Pt.slots] at X208 l208 y208 z208 st208 hQ208
    subst l208 y208 z208
    obtain ⟨rfl, Nq208, Kq208, f209, f210, f211, f212, hq208⟩ := hQ208
    have N208 := Fr.app N186 Nq208
    have pre213 : ∀ tq, Steps p.tables e below (T208.setTop (mkF m 38 #[.val (.int p1), .val (.int p2), .val (.int p3), .val (.int p4), .val (.int (2 : Int32)), .val (.double (FP.i2d p2)), .second, .val (.double (FP.i2d p3)), .second, .val (.double (FP.i2d p4)), .second, .val (.ref b179), .unset, .unset] [])) tq → Steps p.tables e below (s₁.setTop (entryFrame m #[(.int p1), (.int p2), (.int p3), (.int p4)] maxLocals)) tq := fun tq kq => pre207 tq (st208.trans kq)
    have K208 : Keep h0 T208.heap [] := Keep.trans K186 Kq208 (allS (Or.inr sz_b179) (allS (Or.inr sz_u199) all0))
    have f214 := f203.keep Kq208
    have f215 := f190.keep Kq208
    have f216 := f191.keep Kq208 (by simp only [List.mem_cons, List.not_mem_nil, or_false, not_or]; exact ⟨(Ne.symm ne204), f197⟩)
    have f217 := f192.keep Kq208 (by simp only [List.mem_cons, List.not_mem_nil, or_false, not_or]; exact ⟨(Ne.symm ne204), f197⟩)
    have f218 := f193.keep Kq208 (by simp only [List.mem_cons, List.not_mem_nil, or_false, not_or]; exact ⟨(Ne.symm ne204), f197⟩)
    have pre219 : ∀ tq, Steps p.tables e below (T208.setTop (mkF m 44 #[.val (.int p1), .val (.int p2), .val (.int p3), .val (.int p4), .val (.int (2 : Int32)), .val (.double (FP.i2d p2)), .second, .val (.double (FP.i2d p3)), .second, .val (.double (FP.i2d p4)), .second, .val (.ref b179), .unset, .unset] [])) tq → Steps p.tables e below (s₁.setTop (entryFrame m #[(.int p1), (.int p2), (.int p3), (.int p4)] maxLocals)) tq := by
      refine fun tq kq => pre213 tq ?_
      show Steps p.tables e below (T208.setTop (mkF m 38 #[.val (.int p1), .val (.int p2), .val (.int p3), .val (.int p4), .val (.int (2 : Int32)), .val (.double (FP.i2d p2)), .second, .val (.double (FP.i2d p3)), .second, .val (.double (FP.i2d p4)), .second, .val (.ref b179), .unset, .unset] [])) _
      refine XS.iload X208.here hx rfl (hb hby at_38) rfl ?_
      show Steps p.tables e below (T208.setTop (mkF m 40 #[.val (.int p1), .val (.int p2), .val (.int p3), .val (.int p4), .val (.int (2 : Int32)), .val (.double (FP.i2d p2)), .second, .val (.double (FP.i2d p3)), .second, .val (.double (FP.i2d p4)), .second, .val (.ref b179), .unset, .unset] [(.int (2 : Int32))])) _
      refine XS.iconst X208.here hx rfl (hb hby at_40) ?_
      show Steps p.tables e below (T208.setTop (mkF m 41 #[.val (.int p1), .val (.int p2), .val (.int p3), .val (.int p4), .val (.int (2 : Int32)), .val (.double (FP.i2d p2)), .second, .val (.double (FP.i2d p3)), .second, .val (.double (FP.i2d p4)), .second, .val (.ref b179), .unset, .unset] [(.int (1 : Int32)), (.int (2 : Int32))])) _
      refine XS.icmpNo X208.here hx rfl (hb hby at_41) rfl (tlt (by decide : (1 : Int32) < (2 : Int32))).2.2.2 ?_
      exact kq
    have pre220 : ∀ tq, Steps p.tables e below (T208.setTop (mkF m 48 #[.val (.int p1), .val (.int p2), .val (.int p3), .val (.int p4), .val (.int (2 : Int32)), .val (.double (FP.i2d p2)), .second, .val (.double (FP.i2d p3)), .second, .val (.double (FP.i2d p4)), .second, .val (.ref b179), .unset, .unset] [(.double (FP.i2d p3)), (.ref b179)])) tq → Steps p.tables e below (s₁.setTop (entryFrame m #[(.int p1), (.int p2), (.int p3), (.int p4)] maxLocals)) tq := by
      refine fun tq kq => pre219 tq ?_
      show Steps p.tables e below (T208.setTop (mkF m 44 #[.val (.int p1), .val (.int p2), .val (.int p3), .val (.int p4), .val (.int (2 : Int32)), .val (.double (FP.i2d p2)), .second, .val (.double (FP.i2d p3)), .second, .val (.double (FP.i2d p4)), .second, .val (.ref b179), .unset, .unset] [])) _
      refine XS.aload X208.here hx rfl (hb hby at_44) rfl rfl ?_
      show Steps p.tables e below (T208.setTop (mkF m 46 #[.val (.int p1), .val (.int p2), .val (.int p3), .val (.int p4), .val (.int (2 : Int32)), .val (.double (FP.i2d p2)), .second, .val (.double (FP.i2d p3)), .second, .val (.double (FP.i2d p4)), .second, .val (.ref b179), .unset, .unset] [(.ref b179)])) _
      refine XS.dload X208.here hx rfl (hb hby at_46) rfl ?_
      exact kq
    have Z221 : n0 ≤ T208.heap.size := (Nat.le_trans Z208 Kq208.1)
    obtain ⟨cq221, kq221, q221a, q221b, q221c⟩ := isOf hZ rfl f214
    obtain ⟨_, _, ⟨T221, L221, k221, n221⟩, -, X221, ⟨Lc221, hQ221, l221, y221, z221⟩, st221⟩ := X208.virtualBack hx (y := (⟨"com/example/crisp_haptics/crisphaptics/SampleBlocks", "add", "(D)V"⟩ : MethodName)) (z := (⟨"com/example/crisp_haptics/crisphaptics/SampleBlocks", "add", "(D)V"⟩ : MethodName)) hown (mvT hZ (hw _ (List.mem_of_getElem? (i := 120) rfl))) (mvT hZ (hw _ (List.mem_of_getElem? (i := 121) rfl))) (notFace_of_selects (args := #[]) (mvT hZ (hw _ (List.mem_of_getElem? (i := 123) rfl)))) (mvT hZ (hw _ (List.mem_of_getElem? (i := 123) rfl))) (mvT hZ (hw _ (List.mem_of_getElem? (i := 122) rfl))) (by decide) (backOf (W := 0) (rm15_1 l Z a0 hw [] b179 (FP.i2d p3) u198 u199 u200 (FP.i2d p2) 0 0 T208.heap n0 Z221 f214 f209 f210 f211 f212 g_b179 g_u199 ne205) hZ (hw _ (List.mem_of_getElem? (i := 124) rfl)) (hw _ (List.mem_of_getElem? (i := 2) rfl)) (by decide) (by decide)) q221a q221c (g := (mkF m 48 #[.val (.int p1), .val (.int p2), .val (.int p3), .val (.int p4), .val (.int (2 : Int32)), .val (.double (FP.i2d p2)), .second, .val (.double (FP.i2d p3)), .second, .val (.double (FP.i2d p4)), .second, .val (.ref b179), .unset, .unset] [(.double (FP.i2d p3)), (.ref b179)])) rfl (by rw [hml]; rfl) (Steps.refl _) (argsL := [(.double (FP.i2d p3))]) (rest := []) (lenOf pd0_2 rfl) rfl (by show 2 * 0 + _ ≤ _; exact Nat.le_of_eq rfl) (hb hby at_48) (fun _ _ => ⟨rfl, rfl, (by decide : (((0 + 1) + 2) + 0) + 0 ≤ _), (by decide : (((0 + 3) + 32771) + 0) + 0 ≤ _)⟩)
    dsimp only [Pt.U, Pt.locs, Pt.cells, Pt.slots] at X221 l221 y221 z221 st221 hQ221
    subst l221 y221 z221
    obtain ⟨rfl, Nq221, Kq221, f222, f223, f224, f225, hq221⟩ := hQ221
    have N221 := Fr.app N208 Nq221
    have pre226 : ∀ tq, Steps p.tables e below (T221.setTop (mkF m 51 #[.val (.int p1), .val (.int p2), .val (.int p3), .val (.int p4), .val (.int (2 : Int32)), .val (.double (FP.i2d p2)), .second, .val (.double (FP.i2d p3)), .second, .val (.double (FP.i2d p4)), .second, .val (.ref b179), .unset, .unset] [])) tq → Steps p.tables e below (s₁.setTop (entryFrame m #[(.int p1), (.int p2), (.int p3), (.int p4)] maxLocals)) tq := fun tq kq => pre220 tq (st221.trans kq)
    have K221 : Keep h0 T221.heap [] := Keep.trans K208 Kq221 (allS (Or.inr sz_b179) (allS (Or.inr sz_u199) all0))
    have f227 := f214.keep Kq221
    have f228 := f215.keep Kq221
    have f229 := f216.keep Kq221 (by simp only [List.mem_cons, List.not_mem_nil, or_false, not_or]; exact ⟨(Ne.symm ne204), f197⟩)
    have f230 := f217.keep Kq221 (by simp only [List.mem_cons, List.not_mem_nil, or_false, not_or]; exact ⟨(Ne.symm ne204), f197⟩)
    have f231 := f218.keep Kq221 (by simp only [List.mem_cons, List.not_mem_nil, or_false, not_or]; exact ⟨(Ne.symm ne204), f197⟩)
    have pre232 : ∀ tq, Steps p.tables e below (T221.setTop (mkF m 64 #[.val (.int p1), .val (.int p2), .val (.int p3), .val (.int p4), .val (.int (2 : Int32)), .val (.double (FP.i2d p2)), .second, .val (.double (FP.i2d p3)), .second, .val (.double (FP.i2d p4)), .second, .val (.ref b179), .unset, .unset] [])) tq → Steps p.tables e below (s₁.setTop (entryFrame m #[(.int p1), (.int p2), (.int p3), (.int p4)] maxLocals)) tq := by
      refine fun tq kq => pre226 tq ?_
      show Steps p.tables e below (T221.setTop (mkF m 51 #[.val (.int p1), .val (.int p2), .val (.int p3), .val (.int p4), .val (.int (2 : Int32)), .val (.double (FP.i2d p2)), .second, .val (.double (FP.i2d p3)), .second, .val (.double (FP.i2d p4)), .second, .val (.ref b179), .unset, .unset] [])) _
      refine XS.iload X221.here hx rfl (hb hby at_51) rfl ?_
      show Steps p.tables e below (T221.setTop (mkF m 53 #[.val (.int p1), .val (.int p2), .val (.int p3), .val (.int p4), .val (.int (2 : Int32)), .val (.double (FP.i2d p2)), .second, .val (.double (FP.i2d p3)), .second, .val (.double (FP.i2d p4)), .second, .val (.ref b179), .unset, .unset] [(.int (2 : Int32))])) _
      refine XS.iconst X221.here hx rfl (hb hby at_53) ?_
      show Steps p.tables e below (T221.setTop (mkF m 54 #[.val (.int p1), .val (.int p2), .val (.int p3), .val (.int p4), .val (.int (2 : Int32)), .val (.double (FP.i2d p2)), .second, .val (.double (FP.i2d p3)), .second, .val (.double (FP.i2d p4)), .second, .val (.ref b179), .unset, .unset] [(.int (2 : Int32)), (.int (2 : Int32))])) _
      refine XS.icmpYes X221.here hx rfl (pc0 := 54) (pc' := 64) rfl (hb hby at_54) rfl (flt (by decide : ¬ ((2 : Int32) < (2 : Int32)))).2.2.2 (by decide) (by decide) ?_
      exact kq
    have pre233 : ∀ tq, Steps p.tables e below (T221.setTop (mkF m 66 #[.val (.int p1), .val (.int p2), .val (.int p3), .val (.int p4), .val (.int (2 : Int32)), .val (.double (FP.i2d p2)), .second, .val (.double (FP.i2d p3)), .second, .val (.double (FP.i2d p4)), .second, .val (.ref b179), .unset, .unset] [(.ref b179)])) tq → Steps p.tables e below (s₁.setTop (entryFrame m #[(.int p1), (.int p2), (.int p3), (.int p4)] maxLocals)) tq := by
      refine fun tq kq => pre232 tq ?_
      show Steps p.tables e below (T221.setTop (mkF m 64 #[.val (.int p1), .val (.int p2), .val (.int p3), .val (.int p4), .val (.int (2 : Int32)), .val (.double (FP.i2d p2)), .second, .val (.double (FP.i2d p3)), .second, .val (.double (FP.i2d p4)), .second, .val (.ref b179), .unset, .unset] [])) _
      refine XS.aload X221.here hx rfl (hb hby at_64) rfl rfl ?_
      exact kq
    have Z234 : n0 ≤ T221.heap.size := (Nat.le_trans Z221 Kq221.1)
    obtain ⟨cq234, kq234, q234a, q234b, q234c⟩ := isOf hZ rfl f227
    obtain ⟨_, _, ⟨T234, L234, k234, n234⟩, -, X234, ⟨Lc234, hQ234, l234, y234, z234⟩, st234⟩ := X221.virtualBack hx (y := (⟨"com/example/crisp_haptics/crisphaptics/SampleBlocks", "fitToCount", "()V"⟩ : MethodName)) (z := (⟨"com/example/crisp_haptics/crisphaptics/SampleBlocks", "fitToCount", "()V"⟩ : MethodName)) hown (mvT hZ (hw _ (List.mem_of_getElem? (i := 39) rfl))) (mvT hZ (hw _ (List.mem_of_getElem? (i := 40) rfl))) (notFace_of_selects (args := #[]) (mvT hZ (hw _ (List.mem_of_getElem? (i := 42) rfl)))) (mvT hZ (hw _ (List.mem_of_getElem? (i := 42) rfl))) (mvT hZ (hw _ (List.mem_of_getElem? (i := 41) rfl))) (by decide) (backOf (W := 0) (rm6_2 l Z a0 hw [] b179 u198 u199 u200 (FP.i2d p2) (FP.i2d p3) 0 T221.heap n0 Z234 f227 f222 f223 f224 f225 g_b179) hZ (hw _ (List.mem_of_getElem? (i := 43) rfl)) (hw _ (List.mem_of_getElem? (i := 2) rfl)) (by decide) (by decide)) q234a q234c (g := (mkF m 66 #[.val (.int p1), .val (.int p2), .val (.int p3), .val (.int p4), .val (.int (2 : Int32)), .val (.double (FP.i2d p2)), .second, .val (.double (FP.i2d p3)), .second, .val (.double (FP.i2d p4)), .second, .val (.ref b179), .unset, .unset] [(.ref b179)])) rfl (by rw [hml]; rfl) (Steps.refl _) (argsL := []) (rest := []) (lenOf pd0_0 rfl) rfl (by show 2 * 0 + _ ≤ _; exact Nat.le_of_eq rfl) (hb hby at_66) (fun _ _ => ⟨rfl, rfl, (by decide : ((((0 + 1) + 2) + 0) + 0) + 1 ≤ _), (by decide : ((((0 + 3) + 32771) + 0) + 0) + 2 ≤ _)⟩)
    dsimp only [Pt.U, Pt.locs, Pt.cells, Pt.slots] at X234 l234 y234 z234 st234 hQ234
    subst l234 y234 z234
    obtain ⟨u240, u241, rfl, Nq234, Kq234, f235, f236, f237, f238, f239, hq234⟩ := hQ234
    have N234 := Fr.app N221 Nq234
    have pre242 : ∀ tq, Steps p.tables e below (T234.setTop (mkF m 69 #[.val (.int p1), .val (.int p2), .val (.int p3), .val (.int p4), .val (.int (2 : Int32)), .val (.double (FP.i2d p2)), .second, .val (.double (FP.i2d p3)), .second, .val (.double (FP.i2d p4)), .second, .val (.ref b179), .unset, .unset] [])) tq → Steps p.tables e below (s₁.setTop (entryFrame m #[(.int p1), (.int p2), (.int p3), (.int p4)] maxLocals)) tq := fun tq kq => pre233 tq (st234.trans kq)
    have K234 : Keep h0 T234.heap [] := Keep.trans K221 Kq234 (allS (Or.inr sz_b179) all0)
    have f243 := f227.keep Kq234
    have f244 := f228.keep Kq234
    have f245 := f229.keep Kq234 (by simp only [List.mem_cons, List.not_mem_nil, or_false, not_or]; exact (Ne.symm ne204))
    have f246 := f230.keep Kq234 (by simp only [List.mem_cons, List.not_mem_nil, or_false, not_or]; exact (Ne.symm ne204))
    have f247 := f231.keep Kq234 (by simp only [List.mem_cons, List.not_mem_nil, or_false, not_or]; exact (Ne.symm ne204))
    have f248 := f225.keep Kq234 (by simp only [List.mem_cons, List.not_mem_nil, or_false, not_or]; exact (Ne.symm ne205))
    have g_u240 : n0 ≤ u240 := Nat.le_trans Z234 f239
    have sz_u240 : h0.size ≤ u240 := Nat.le_trans (Nat.le_trans (Nat.le_trans (Nat.le_trans (Nat.le_trans (Nat.le_refl h0.size) E179.1) Kq186.1) Kq208.1) Kq221.1) f239
    have ne249 : b179 ≠ u240 := Nat.ne_of_lt (Nat.lt_of_lt_of_le f227.lt f239)
    have ne250 : u198 ≠ u240 := Nat.ne_of_lt (Nat.lt_of_lt_of_le f228.lt f239)
    have ne251 : u199 ≠ u240 := Nat.ne_of_lt (Nat.lt_of_lt_of_le f225.lt f239)
    have pre252 : ∀ tq, Steps p.tables e below (T234.setTop (mkF m 77 #[.val (.int p1), .val (.int p2), .val (.int p3), .val (.int p4), .val (.int (2 : Int32)), .val (.double (FP.i2d p2)), .second, .val (.double (FP.i2d p3)), .second, .val (.double (FP.i2d p4)), .second, .val (.ref b179), .val (.int (1 : Int32)), .unset] [])) tq → Steps p.tables e below (s₁.setTop (entryFrame m #[(.int p1), (.int p2), (.int p3), (.int p4)] maxLocals)) tq := by
      refine fun tq kq => pre242 tq ?_
      show Steps p.tables e below (T234.setTop (mkF m 69 #[.val (.int p1), .val (.int p2), .val (.int p3), .val (.int p4), .val (.int (2 : Int32)), .val (.double (FP.i2d p2)), .second, .val (.double (FP.i2d p3)), .second, .val (.double (FP.i2d p4)), .second, .val (.ref b179), .unset, .unset] [])) _
      refine XS.iconst X234.here hx rfl (hb hby at_69) ?_
      show Steps p.tables e below (T234.setTop (mkF m 70 #[.val (.int p1), .val (.int p2), .val (.int p3), .val (.int p4), .val (.int (2 : Int32)), .val (.double (FP.i2d p2)), .second, .val (.double (FP.i2d p3)), .second, .val (.double (FP.i2d p4)), .second, .val (.ref b179), .unset, .unset] [(.int (1 : Int32))])) _
      refine XS.istore X234.here hx rfl (hb hby at_70) rfl (l' := #[.val (.int p1), .val (.int p2), .val (.int p3), .val (.int p4), .val (.int (2 : Int32)), .val (.double (FP.i2d p2)), .second, .val (.double (FP.i2d p3)), .second, .val (.double (FP.i2d p4)), .second, .val (.ref b179), .val (.int (1 : Int32)), .unset]) rfl ?_
      show Steps p.tables e below (T234.setTop (mkF m 72 #[.val (.int p1), .val (.int p2), .val (.int p3), .val (.int p4), .val (.int (2 : Int32)), .val (.double (FP.i2d p2)), .second, .val (.double (FP.i2d p3)), .second, .val (.double (FP.i2d p4)), .second, .val (.ref b179), .val (.int (1 : Int32)), .unset] [])) _
      refine XS.iload X234.here hx rfl (hb hby at_72) rfl ?_
      show Steps p.tables e below (T234.setTop (mkF m 74 #[.val (.int p1), .val (.int p2), .val (.int p3), .val (.int p4), .val (.int (2 : Int32)), .val (.double (FP.i2d p2)), .second, .val (.double (FP.i2d p3)), .second, .val (.double (FP.i2d p4)), .second, .val (.ref b179), .val (.int (1 : Int32)), .unset] [(.int (2 : Int32))])) _
      refine XS.ifNo X234.here hx rfl (hb hby at_74) rfl ((if0 _ _).trans (tlt (by decide : (0 : Int32) < (2 : Int32))).2.2.2) ?_
      exact kq
    have pre253 : ∀ tq, Steps p.tables e below (T234.setTop (mkF m 82 #[.val (.int p1), .val (.int p2), .val (.int p3), .val (.int p4), .val (.int (2 : Int32)), .val (.double (FP.i2d p2)), .second, .val (.double (FP.i2d p3)), .second, .val (.double (FP.i2d p4)), .second, .val (.ref b179), .val (.int (1 : Int32)), .unset] [])) tq → Steps p.tables e below (s₁.setTop (entryFrame m #[(.int p1), (.int p2), (.int p3), (.int p4)] maxLocals)) tq := by
      refine fun tq kq => pre252 tq ?_
      show Steps p.tables e below (T234.setTop (mkF m 77 #[.val (.int p1), .val (.int p2), .val (.int p3), .val (.int p4), .val (.int (2 : Int32)), .val (.double (FP.i2d p2)), .second, .val (.double (FP.i2d p3)), .second, .val (.double (FP.i2d p4)), .second, .val (.ref b179), .val (.int (1 : Int32)), .unset] [])) _
      refine XS.iload X234.here hx rfl (hb hby at_77) rfl ?_
      show Steps p.tables e below (T234.setTop (mkF m 79 #[.val (.int p1), .val (.int p2), .val (.int p3), .val (.int p4), .val (.int (2 : Int32)), .val (.double (FP.i2d p2)), .second, .val (.double (FP.i2d p3)), .second, .val (.double (FP.i2d p4)), .second, .val (.ref b179), .val (.int (1 : Int32)), .unset] [(.int (1 : Int32))])) _
      refine XS.ifNo X234.here hx rfl (hb hby at_79) rfl ((if0 _ _).trans (feq (by decide : ¬ ((1 : Int32) = (0 : Int32)))).1) ?_
      exact kq
    have pre254 : ∀ tq, Steps p.tables e below (T234.setTop (mkF m 85 #[.val (.int p1), .val (.int p2), .val (.int p3), .val (.int p4), .val (.int (2 : Int32)), .val (.double (FP.i2d p2)), .second, .val (.double (FP.i2d p3)), .second, .val (.double (FP.i2d p4)), .second, .val (.ref b179), .val (.int (1 : Int32)), .unset] [(.int (0 : Int32)), (.ref b179)])) tq → Steps p.tables e below (s₁.setTop (entryFrame m #[(.int p1), (.int p2), (.int p3), (.int p4)] maxLocals)) tq := by
      refine fun tq kq => pre253 tq ?_
      show Steps p.tables e below (T234.setTop (mkF m 82 #[.val (.int p1), .val (.int p2), .val (.int p3), .val (.int p4), .val (.int (2 : Int32)), .val (.double (FP.i2d p2)), .second, .val (.double (FP.i2d p3)), .second, .val (.double (FP.i2d p4)), .second, .val (.ref b179), .val (.int (1 : Int32)), .unset] [])) _
      refine XS.aload X234.here hx rfl (hb hby at_82) rfl rfl ?_
      show Steps p.tables e below (T234.setTop (mkF m 84 #[.val (.int p1), .val (.int p2), .val (.int p3), .val (.int p4), .val (.int (2 : Int32)), .val (.double (FP.i2d p2)), .second, .val (.double (FP.i2d p3)), .second, .val (.double (FP.i2d p4)), .second, .val (.ref b179), .val (.int (1 : Int32)), .unset] [(.ref b179)])) _
      refine XS.iconst X234.here hx rfl (hb hby at_84) ?_
      exact kq
    have Z255 : n0 ≤ T234.heap.size := (Nat.le_trans Z234 Kq234.1)
    obtain ⟨cq255, kq255, q255a, q255b, q255c⟩ := isOf hZ rfl f243
    obtain ⟨_, _, ⟨T255, L255, k255, n255⟩, -, X255, ⟨Lc255, hQ255, l255, y255, z255⟩, st255⟩ := X234.virtualBack hx (y := (⟨"com/example/crisp_haptics/crisphaptics/SampleBlocks", "get", "(I)D"⟩ : MethodName)) (z := (⟨"com/example/crisp_haptics/crisphaptics/SampleBlocks", "get", "(I)D"⟩ : MethodName)) hown (mvT hZ (hw _ (List.mem_of_getElem? (i := 125) rfl))) (mvT hZ (hw _ (List.mem_of_getElem? (i := 126) rfl))) (notFace_of_selects (args := #[]) (mvT hZ (hw _ (List.mem_of_getElem? (i := 128) rfl)))) (mvT hZ (hw _ (List.mem_of_getElem? (i := 128) rfl))) (mvT hZ (hw _ (List.mem_of_getElem? (i := 127) rfl))) (by decide) (backOf (W := 0) (rm16_0_2 l Z a0 hw [] b179 u198 u240 u241 (FP.i2d p2) (FP.i2d p3) T234.heap n0 Z255 f237 f244 f247 f235 f238) hZ (hw _ (List.mem_of_getElem? (i := 129) rfl)) (hw _ (List.mem_of_getElem? (i := 2) rfl)) (by decide) (by decide)) q255a q255c (g := (mkF m 85 #[.val (.int p1), .val (.int p2), .val (.int p3), .val (.int p4), .val (.int (2 : Int32)), .val (.double (FP.i2d p2)), .second, .val (.double (FP.i2d p3)), .second, .val (.double (FP.i2d p4)), .second, .val (.ref b179), .val (.int (1 : Int32)), .unset] [(.int (0 : Int32)), (.ref b179)])) rfl (by rw [hml]; rfl) (Steps.refl _) (argsL := [(.int (0 : Int32))]) (rest := []) (lenOf pd0_3 rfl) rfl (by show 2 * 0 + _ ≤ _; exact Nat.le_of_eq rfl) (hb hby at_85) (fun _ _ => ⟨rfl, rfl, (by decide : (((((0 + 1) + 2) + 0) + 0) + 1) + 0 ≤ _), (by decide : (((((0 + 3) + 32771) + 0) + 0) + 2) + 0 ≤ _)⟩)
    dsimp only [Pt.U, Pt.locs, Pt.cells, Pt.slots] at X255 l255 y255 z255 st255 hQ255
    subst l255 y255 z255
    obtain ⟨r256, rfl, Nq255, ehq255, hq255⟩ := hQ255
    have N255 := Fr.app N234 Nq255
    have pre257 : ∀ tq, Steps p.tables e below (T255.setTop (mkF m 88 #[.val (.int p1), .val (.int p2), .val (.int p3), .val (.int p4), .val (.int (2 : Int32)), .val (.double (FP.i2d p2)), .second, .val (.double (FP.i2d p3)), .second, .val (.double (FP.i2d p4)), .second, .val (.ref b179), .val (.int (1 : Int32)), .unset] [(.double r256)])) tq → Steps p.tables e below (s₁.setTop (entryFrame m #[(.int p1), (.int p2), (.int p3), (.int p4)] maxLocals)) tq := fun tq kq => pre254 tq (st255.trans kq)
    subst hq255
    have pre258 : ∀ tq, Steps p.tables e below (T255.setTop (mkF m 94 #[.val (.int p1), .val (.int p2), .val (.int p3), .val (.int p4), .val (.int (2 : Int32)), .val (.double (FP.i2d p2)), .second, .val (.double (FP.i2d p3)), .second, .val (.double (FP.i2d p4)), .second, .val (.ref b179), .val (.int (1 : Int32)), .unset] [])) tq → Steps p.tables e below (s₁.setTop (entryFrame m #[(.int p1), (.int p2), (.int p3), (.int p4)] maxLocals)) tq := by
      refine fun tq kq => pre257 tq ?_
      show Steps p.tables e below (T255.setTop (mkF m 88 #[.val (.int p1), .val (.int p2), .val (.int p3), .val (.int p4), .val (.int (2 : Int32)), .val (.double (FP.i2d p2)), .second, .val (.double (FP.i2d p3)), .second, .val (.double (FP.i2d p4)), .second, .val (.ref b179), .val (.int (1 : Int32)), .unset] [(.double (FP.i2d p2))])) _
      refine XS.dload X255.here hx rfl (hb hby at_88) rfl ?_
      show Steps p.tables e below (T255.setTop (mkF m 90 #[.val (.int p1), .val (.int p2), .val (.int p3), .val (.int p4), .val (.int (2 : Int32)), .val (.double (FP.i2d p2)), .second, .val (.double (FP.i2d p3)), .second, .val (.double (FP.i2d p4)), .second, .val (.ref b179), .val (.int (1 : Int32)), .unset] [(.double (FP.i2d p2)), (.double (FP.i2d p2))])) _
      refine XS.dcmpS X255.here hx rfl (hb hby at_90) rfl (dcmpV_self (nn_w (i2d_w _)) _) ?_
      show Steps p.tables e below (T255.setTop (mkF m 91 #[.val (.int p1), .val (.int p2), .val (.int p3), .val (.int p4), .val (.int (2 : Int32)), .val (.double (FP.i2d p2)), .second, .val (.double (FP.i2d p3)), .second, .val (.double (FP.i2d p4)), .second, .val (.ref b179), .val (.int (1 : Int32)), .unset] [(.int (0 : Int32))])) _
      refine XS.ifNo X255.here hx rfl (hb hby at_91) rfl ((if0 _ _).trans (teq (by decide : (0 : Int32) = (0 : Int32))).2) ?_
      exact kq
    have pre259 : ∀ tq, Steps p.tables e below (T255.setTop (mkF m 107 #[.val (.int p1), .val (.int p2), .val (.int p3), .val (.int p4), .val (.int (2 : Int32)), .val (.double (FP.i2d p2)), .second, .val (.double (FP.i2d p3)), .second, .val (.double (FP.i2d p4)), .second, .val (.ref b179), .val (.int (1 : Int32)), .unset] [])) tq → Steps p.tables e below (s₁.setTop (entryFrame m #[(.int p1), (.int p2), (.int p3), (.int p4)] maxLocals)) tq := by
      refine fun tq kq => pre258 tq ?_
      show Steps p.tables e below (T255.setTop (mkF m 94 #[.val (.int p1), .val (.int p2), .val (.int p3), .val (.int p4), .val (.int (2 : Int32)), .val (.double (FP.i2d p2)), .second, .val (.double (FP.i2d p3)), .second, .val (.double (FP.i2d p4)), .second, .val (.ref b179), .val (.int (1 : Int32)), .unset] [])) _
      refine XS.iconst X255.here hx rfl (hb hby at_94) ?_
      show Steps p.tables e below (T255.setTop (mkF m 95 #[.val (.int p1), .val (.int p2), .val (.int p3), .val (.int p4), .val (.int (2 : Int32)), .val (.double (FP.i2d p2)), .second, .val (.double (FP.i2d p3)), .second, .val (.double (FP.i2d p4)), .second, .val (.ref b179), .val (.int (1 : Int32)), .unset] [(.int (1 : Int32))])) _
      refine XS.goto X255.here hx rfl (pc0 := 95) (pc' := 99) rfl (hb hby at_95) (by decide) (by decide) ?_
      show Steps p.tables e below (T255.setTop (mkF m 99 #[.val (.int p1), .val (.int p2), .val (.int p3), .val (.int p4), .val (.int (2 : Int32)), .val (.double (FP.i2d p2)), .second, .val (.double (FP.i2d p3)), .second, .val (.double (FP.i2d p4)), .second, .val (.ref b179), .val (.int (1 : Int32)), .unset] [(.int (1 : Int32))])) _
      refine XS.istore X255.here hx rfl (hb hby at_99) rfl (l' := #[.val (.int p1), .val (.int p2), .val (.int p3), .val (.int p4), .val (.int (2 : Int32)), .val (.double (FP.i2d p2)), .second, .val (.double (FP.i2d p3)), .second, .val (.double (FP.i2d p4)), .second, .val (.ref b179), .val (.int (1 : Int32)), .unset]) rfl ?_
      show Steps p.tables e below (T255.setTop (mkF m 101 #[.val (.int p1), .val (.int p2), .val (.int p3), .val (.int p4), .val (.int (2 : Int32)), .val (.double (FP.i2d p2)), .second, .val (.double (FP.i2d p3)), .second, .val (.double (FP.i2d p4)), .second, .val (.ref b179), .val (.int (1 : Int32)), .unset] [])) _
      refine XS.iload X255.here hx rfl (hb hby at_101) rfl ?_
      show Steps p.tables e below (T255.setTop (mkF m 103 #[.val (.int p1), .val (.int p2), .val (.int p3), .val (.int p4), .val (.int (2 : Int32)), .val (.double (FP.i2d p2)), .second, .val (.double (FP.i2d p3)), .second, .val (.double (FP.i2d p4)), .second, .val (.ref b179), .val (.int (1 : Int32)), .unset] [(.int (2 : Int32))])) _
      refine XS.iconst X255.here hx rfl (hb hby at_103) ?_
      show Steps p.tables e below (T255.setTop (mkF m 104 #[.val (.int p1), .val (.int p2), .val (.int p3), .val (.int p4), .val (.int (2 : Int32)), .val (.double (FP.i2d p2)), .second, .val (.double (FP.i2d p3)), .second, .val (.double (FP.i2d p4)), .second, .val (.ref b179), .val (.int (1 : Int32)), .unset] [(.int (1 : Int32)), (.int (2 : Int32))])) _
      refine XS.icmpNo X255.here hx rfl (hb hby at_104) rfl (tlt (by decide : (1 : Int32) < (2 : Int32))).2.2.2 ?_
      exact kq
    have pre260 : ∀ tq, Steps p.tables e below (T255.setTop (mkF m 112 #[.val (.int p1), .val (.int p2), .val (.int p3), .val (.int p4), .val (.int (2 : Int32)), .val (.double (FP.i2d p2)), .second, .val (.double (FP.i2d p3)), .second, .val (.double (FP.i2d p4)), .second, .val (.ref b179), .val (.int (1 : Int32)), .unset] [])) tq → Steps p.tables e below (s₁.setTop (entryFrame m #[(.int p1), (.int p2), (.int p3), (.int p4)] maxLocals)) tq := by
      refine fun tq kq => pre259 tq ?_
      show Steps p.tables e below (T255.setTop (mkF m 107 #[.val (.int p1), .val (.int p2), .val (.int p3), .val (.int p4), .val (.int (2 : Int32)), .val (.double (FP.i2d p2)), .second, .val (.double (FP.i2d p3)), .second, .val (.double (FP.i2d p4)), .second, .val (.ref b179), .val (.int (1 : Int32)), .unset] [])) _
      refine XS.iload X255.here hx rfl (hb hby at_107) rfl ?_
      show Steps p.tables e below (T255.setTop (mkF m 109 #[.val (.int p1), .val (.int p2), .val (.int p3), .val (.int p4), .val (.int (2 : Int32)), .val (.double (FP.i2d p2)), .second, .val (.double (FP.i2d p3)), .second, .val (.double (FP.i2d p4)), .second, .val (.ref b179), .val (.int (1 : Int32)), .unset] [(.int (1 : Int32))])) _
      refine XS.ifNo X255.here hx rfl (hb hby at_109) rfl ((if0 _ _).trans (feq (by decide : ¬ ((1 : Int32) = (0 : Int32)))).1) ?_
      exact kq
    have pre261 : ∀ tq, Steps p.tables e below (T255.setTop (mkF m 115 #[.val (.int p1), .val (.int p2), .val (.int p3), .val (.int p4), .val (.int (2 : Int32)), .val (.double (FP.i2d p2)), .second, .val (.double (FP.i2d p3)), .second, .val (.double (FP.i2d p4)), .second, .val (.ref b179), .val (.int (1 : Int32)), .unset] [(.int (1 : Int32)), (.ref b179)])) tq → Steps p.tables e below (s₁.setTop (entryFrame m #[(.int p1), (.int p2), (.int p3), (.int p4)] maxLocals)) tq := by
      refine fun tq kq => pre260 tq ?_
      show Steps p.tables e below (T255.setTop (mkF m 112 #[.val (.int p1), .val (.int p2), .val (.int p3), .val (.int p4), .val (.int (2 : Int32)), .val (.double (FP.i2d p2)), .second, .val (.double (FP.i2d p3)), .second, .val (.double (FP.i2d p4)), .second, .val (.ref b179), .val (.int (1 : Int32)), .unset] [])) _
      refine XS.aload X255.here hx rfl (hb hby at_112) rfl rfl ?_
      show Steps p.tables e below (T255.setTop (mkF m 114 #[.val (.int p1), .val (.int p2), .val (.int p3), .val (.int p4), .val (.int (2 : Int32)), .val (.double (FP.i2d p2)), .second, .val (.double (FP.i2d p3)), .second, .val (.double (FP.i2d p4)), .second, .val (.ref b179), .val (.int (1 : Int32)), .unset] [(.ref b179)])) _
      refine XS.iconst X255.here hx rfl (hb hby at_114) ?_
      exact kq
    have Z262 : n0 ≤ T234.heap.size := (Nat.le_trans Z234 Kq234.1)
    obtain ⟨cq262, kq262, q262a, q262b, q262c⟩ := isOf hZ ehq255 f243
    obtain ⟨_, _, ⟨T262, L262, k262, n262⟩, -, X262, ⟨Lc262, hQ262, l262, y262, z262⟩, st262⟩ := X255.virtualBack hx (y := (⟨"com/example/crisp_haptics/crisphaptics/SampleBlocks", "get", "(I)D"⟩ : MethodName)) (z := (⟨"com/example/crisp_haptics/crisphaptics/SampleBlocks", "get", "(I)D"⟩ : MethodName)) hown (mvT hZ (hw _ (List.mem_of_getElem? (i := 125) rfl))) (mvT hZ (hw _ (List.mem_of_getElem? (i := 126) rfl))) (notFace_of_selects (args := #[]) (mvT hZ (hw _ (List.mem_of_getElem? (i := 128) rfl)))) (mvT hZ (hw _ (List.mem_of_getElem? (i := 128) rfl))) (mvT hZ (hw _ (List.mem_of_getElem? (i := 127) rfl))) (by decide) (backOf (W := 0) (rm16_1_2 l Z a0 hw [] b179 u198 u240 u241 (FP.i2d p2) (FP.i2d p3) T234.heap n0 Z262 f237 f244 f247 f235 f238) hZ (hw _ (List.mem_of_getElem? (i := 129) rfl)) (hw _ (List.mem_of_getElem? (i := 2) rfl)) (by decide) (by decide)) q262a q262c (g := (mkF m 115 #[.val (.int p1), .val (.int p2), .val (.int p3), .val (.int p4), .val (.int (2 : Int32)), .val (.double (FP.i2d p2)), .second, .val (.double (FP.i2d p3)), .second, .val (.double (FP.i2d p4)), .second, .val (.ref b179), .val (.int (1 : Int32)), .unset] [(.int (1 : Int32)), (.ref b179)])) rfl (by rw [hml]; rfl) (Steps.refl _) (argsL := [(.int (1 : Int32))]) (rest := []) (lenOf pd0_3 rfl) rfl (by show 2 * 0 + _ ≤ _; exact Nat.le_of_eq rfl) (hb hby at_115) (fun _ _ => ⟨rfl, ehq255, (by decide : ((((((0 + 1) + 2) + 0) + 0) + 1) + 0) + 0 ≤ _), (by decide : ((((((0 + 3) + 32771) + 0) + 0) + 2) + 0) + 0 ≤ _)⟩)
    dsimp only [Pt.U, Pt.locs, Pt.cells, Pt.slots] at X262 l262 y262 z262 st262 hQ262
    subst l262 y262 z262
    obtain ⟨r263, rfl, Nq262, ehq262, hq262⟩ := hQ262
    have N262 := Fr.app N255 Nq262
    have pre264 : ∀ tq, Steps p.tables e below (T262.setTop (mkF m 118 #[.val (.int p1), .val (.int p2), .val (.int p3), .val (.int p4), .val (.int (2 : Int32)), .val (.double (FP.i2d p2)), .second, .val (.double (FP.i2d p3)), .second, .val (.double (FP.i2d p4)), .second, .val (.ref b179), .val (.int (1 : Int32)), .unset] [(.double r263)])) tq → Steps p.tables e below (s₁.setTop (entryFrame m #[(.int p1), (.int p2), (.int p3), (.int p4)] maxLocals)) tq := fun tq kq => pre261 tq (st262.trans kq)
    subst hq262
    have pre265 : ∀ tq, Steps p.tables e below (T262.setTop (mkF m 124 #[.val (.int p1), .val (.int p2), .val (.int p3), .val (.int p4), .val (.int (2 : Int32)), .val (.double (FP.i2d p2)), .second, .val (.double (FP.i2d p3)), .second, .val (.double (FP.i2d p4)), .second, .val (.ref b179), .val (.int (1 : Int32)), .unset] [])) tq → Steps p.tables e below (s₁.setTop (entryFrame m #[(.int p1), (.int p2), (.int p3), (.int p4)] maxLocals)) tq := by
      refine fun tq kq => pre264 tq ?_
      show Steps p.tables e below (T262.setTop (mkF m 118 #[.val (.int p1), .val (.int p2), .val (.int p3), .val (.int p4), .val (.int (2 : Int32)), .val (.double (FP.i2d p2)), .second, .val (.double (FP.i2d p3)), .second, .val (.double (FP.i2d p4)), .second, .val (.ref b179), .val (.int (1 : Int32)), .unset] [(.double (FP.i2d p3))])) _
      refine XS.dload X262.here hx rfl (hb hby at_118) rfl ?_
      show Steps p.tables e below (T262.setTop (mkF m 120 #[.val (.int p1), .val (.int p2), .val (.int p3), .val (.int p4), .val (.int (2 : Int32)), .val (.double (FP.i2d p2)), .second, .val (.double (FP.i2d p3)), .second, .val (.double (FP.i2d p4)), .second, .val (.ref b179), .val (.int (1 : Int32)), .unset] [(.double (FP.i2d p3)), (.double (FP.i2d p3))])) _
      refine XS.dcmpS X262.here hx rfl (hb hby at_120) rfl (dcmpV_self (nn_w (i2d_w _)) _) ?_
      show Steps p.tables e below (T262.setTop (mkF m 121 #[.val (.int p1), .val (.int p2), .val (.int p3), .val (.int p4), .val (.int (2 : Int32)), .val (.double (FP.i2d p2)), .second, .val (.double (FP.i2d p3)), .second, .val (.double (FP.i2d p4)), .second, .val (.ref b179), .val (.int (1 : Int32)), .unset] [(.int (0 : Int32))])) _
      refine XS.ifNo X262.here hx rfl (hb hby at_121) rfl ((if0 _ _).trans (teq (by decide : (0 : Int32) = (0 : Int32))).2) ?_
      exact kq
    have pre266 : ∀ tq, Steps p.tables e below (T262.setTop (mkF m 161 #[.val (.int p1), .val (.int p2), .val (.int p3), .val (.int p4), .val (.int (2 : Int32)), .val (.double (FP.i2d p2)), .second, .val (.double (FP.i2d p3)), .second, .val (.double (FP.i2d p4)), .second, .val (.ref b179), .val (.int (1 : Int32)), .unset] [])) tq → Steps p.tables e below (s₁.setTop (entryFrame m #[(.int p1), (.int p2), (.int p3), (.int p4)] maxLocals)) tq := by
      refine fun tq kq => pre265 tq ?_
      show Steps p.tables e below (T262.setTop (mkF m 124 #[.val (.int p1), .val (.int p2), .val (.int p3), .val (.int p4), .val (.int (2 : Int32)), .val (.double (FP.i2d p2)), .second, .val (.double (FP.i2d p3)), .second, .val (.double (FP.i2d p4)), .second, .val (.ref b179), .val (.int (1 : Int32)), .unset] [])) _
      refine XS.iconst X262.here hx rfl (hb hby at_124) ?_
      show Steps p.tables e below (T262.setTop (mkF m 125 #[.val (.int p1), .val (.int p2), .val (.int p3), .val (.int p4), .val (.int (2 : Int32)), .val (.double (FP.i2d p2)), .second, .val (.double (FP.i2d p3)), .second, .val (.double (FP.i2d p4)), .second, .val (.ref b179), .val (.int (1 : Int32)), .unset] [(.int (1 : Int32))])) _
      refine XS.goto X262.here hx rfl (pc0 := 125) (pc' := 129) rfl (hb hby at_125) (by decide) (by decide) ?_
      show Steps p.tables e below (T262.setTop (mkF m 129 #[.val (.int p1), .val (.int p2), .val (.int p3), .val (.int p4), .val (.int (2 : Int32)), .val (.double (FP.i2d p2)), .second, .val (.double (FP.i2d p3)), .second, .val (.double (FP.i2d p4)), .second, .val (.ref b179), .val (.int (1 : Int32)), .unset] [(.int (1 : Int32))])) _
      refine XS.istore X262.here hx rfl (hb hby at_129) rfl (l' := #[.val (.int p1), .val (.int p2), .val (.int p3), .val (.int p4), .val (.int (2 : Int32)), .val (.double (FP.i2d p2)), .second, .val (.double (FP.i2d p3)), .second, .val (.double (FP.i2d p4)), .second, .val (.ref b179), .val (.int (1 : Int32)), .unset]) rfl ?_
      show Steps p.tables e below (T262.setTop (mkF m 131 #[.val (.int p1), .val (.int p2), .val (.int p3), .val (.int p4), .val (.int (2 : Int32)), .val (.double (FP.i2d p2)), .second, .val (.double (FP.i2d p3)), .second, .val (.double (FP.i2d p4)), .second, .val (.ref b179), .val (.int (1 : Int32)), .unset] [])) _
      refine XS.iload X262.here hx rfl (hb hby at_131) rfl ?_
      show Steps p.tables e below (T262.setTop (mkF m 133 #[.val (.int p1), .val (.int p2), .val (.int p3), .val (.int p4), .val (.int (2 : Int32)), .val (.double (FP.i2d p2)), .second, .val (.double (FP.i2d p3)), .second, .val (.double (FP.i2d p4)), .second, .val (.ref b179), .val (.int (1 : Int32)), .unset] [(.int (2 : Int32))])) _
      refine XS.iconst X262.here hx rfl (hb hby at_133) ?_
      show Steps p.tables e below (T262.setTop (mkF m 134 #[.val (.int p1), .val (.int p2), .val (.int p3), .val (.int p4), .val (.int (2 : Int32)), .val (.double (FP.i2d p2)), .second, .val (.double (FP.i2d p3)), .second, .val (.double (FP.i2d p4)), .second, .val (.ref b179), .val (.int (1 : Int32)), .unset] [(.int (2 : Int32)), (.int (2 : Int32))])) _
      refine XS.icmpYes X262.here hx rfl (pc0 := 134) (pc' := 161) rfl (hb hby at_134) rfl (flt (by decide : ¬ ((2 : Int32) < (2 : Int32)))).2.2.2 (by decide) (by decide) ?_
      exact kq
    have pre267 : ∀ tq, Steps p.tables e below (T262.setTop (mkF m 163 #[.val (.int p1), .val (.int p2), .val (.int p3), .val (.int p4), .val (.int (2 : Int32)), .val (.double (FP.i2d p2)), .second, .val (.double (FP.i2d p3)), .second, .val (.double (FP.i2d p4)), .second, .val (.ref b179), .val (.int (1 : Int32)), .unset] [(.ref b179)])) tq → Steps p.tables e below (s₁.setTop (entryFrame m #[(.int p1), (.int p2), (.int p3), (.int p4)] maxLocals)) tq := by
      refine fun tq kq => pre266 tq ?_
      show Steps p.tables e below (T262.setTop (mkF m 161 #[.val (.int p1), .val (.int p2), .val (.int p3), .val (.int p4), .val (.int (2 : Int32)), .val (.double (FP.i2d p2)), .second, .val (.double (FP.i2d p3)), .second, .val (.double (FP.i2d p4)), .second, .val (.ref b179), .val (.int (1 : Int32)), .unset] [])) _
      refine XS.aload X262.here hx rfl (hb hby at_161) rfl rfl ?_
      exact kq
    have Z268 : n0 ≤ T234.heap.size := (Nat.le_trans Z234 Kq234.1)
    obtain ⟨cq268, kq268, q268a, q268b, q268c⟩ := isOf hZ ehq262 f243
    obtain ⟨_, _, ⟨T268, L268, k268, n268⟩, -, X268, ⟨Lc268, hQ268, l268, y268, z268⟩, st268⟩ := X262.virtualBack hx (y := (⟨"com/example/crisp_haptics/crisphaptics/SampleBlocks", "moveToArray", "()[D"⟩ : MethodName)) (z := (⟨"com/example/crisp_haptics/crisphaptics/SampleBlocks", "moveToArray", "()[D"⟩ : MethodName)) hown (mvT hZ (hw _ (List.mem_of_getElem? (i := 58) rfl))) (mvT hZ (hw _ (List.mem_of_getElem? (i := 59) rfl))) (notFace_of_selects (args := #[]) (mvT hZ (hw _ (List.mem_of_getElem? (i := 61) rfl)))) (mvT hZ (hw _ (List.mem_of_getElem? (i := 61) rfl))) (mvT hZ (hw _ (List.mem_of_getElem? (i := 60) rfl))) (by decide) (backOf (W := 0) (rm9_2 l Z a0 hw [] b179 u198 u240 u241 sD (FP.i2d p2) (FP.i2d p3) T234.heap n0 Z268 f243 f237 f236 f235 f238 f244 f245 f246 f247 g_b179 g_u198 ne204 ne249 ne250) hZ (hw _ (List.mem_of_getElem? (i := 62) rfl)) (hw _ (List.mem_of_getElem? (i := 2) rfl)) (by decide) (by decide)) q268a q268c (g := (mkF m 163 #[.val (.int p1), .val (.int p2), .val (.int p3), .val (.int p4), .val (.int (2 : Int32)), .val (.double (FP.i2d p2)), .second, .val (.double (FP.i2d p3)), .second, .val (.double (FP.i2d p4)), .second, .val (.ref b179), .val (.int (1 : Int32)), .unset] [(.ref b179)])) rfl (by rw [hml]; rfl) (Steps.refl _) (argsL := []) (rest := []) (lenOf pd0_1 rfl) rfl (by show 2 * 0 + _ ≤ _; exact Nat.le_of_eq rfl) (hb hby at_163) (fun _ _ => ⟨rfl, ehq262, (by decide : (((((((0 + 1) + 2) + 0) + 0) + 1) + 0) + 0) + 2 ≤ _), (by decide : (((((((0 + 3) + 32771) + 0) + 0) + 2) + 0) + 0) + 6 ≤ _)⟩)
    dsimp only [Pt.U, Pt.locs, Pt.cells, Pt.slots] at X268 l268 y268 z268 st268 hQ268
    subst l268 y268 z268
    obtain ⟨r269, u272, rfl, Nq268, Kq268, f270, f271, hq268⟩ := hQ268
    have N268 := Fr.app N262 Nq268
    have pre273 : ∀ tq, Steps p.tables e below (T268.setTop (mkF m 166 #[.val (.int p1), .val (.int p2), .val (.int p3), .val (.int p4), .val (.int (2 : Int32)), .val (.double (FP.i2d p2)), .second, .val (.double (FP.i2d p3)), .second, .val (.double (FP.i2d p4)), .second, .val (.ref b179), .val (.int (1 : Int32)), .unset] [(.ref r269)])) tq → Steps p.tables e below (s₁.setTop (entryFrame m #[(.int p1), (.int p2), (.int p3), (.int p4)] maxLocals)) tq := fun tq kq => pre267 tq (st268.trans kq)
    have K268 : Keep h0 T268.heap [] := Keep.trans K234 Kq268 (allS (Or.inr sz_b179) (allS (Or.inr sz_u198) all0))
    have f274 := f243.keep Kq268
    have f275 := f244.keep Kq268
    have f276 := f248.keep Kq268 (by simp only [List.mem_cons, List.not_mem_nil, or_false, not_or]; exact ⟨(Ne.symm ne205), (Ne.symm f197)⟩)
    have f277 := f238.keep Kq268 (by simp only [List.mem_cons, List.not_mem_nil, or_false, not_or]; exact ⟨(Ne.symm ne249), (Ne.symm ne250)⟩)
    have g_r269 : n0 ≤ r269 := Nat.le_trans Z268 f271
    have sz_r269 : h0.size ≤ r269 := Nat.le_trans (Nat.le_trans (Nat.le_trans (Nat.le_trans (Nat.le_trans (Nat.le_trans (Nat.le_refl h0.size) E179.1) Kq186.1) Kq208.1) Kq221.1) Kq234.1) f271
    have ne278 : b179 ≠ r269 := Nat.ne_of_lt (Nat.lt_of_lt_of_le f243.lt f271)
    have ne279 : u198 ≠ r269 := Nat.ne_of_lt (Nat.lt_of_lt_of_le f244.lt f271)
    have ne280 : u199 ≠ r269 := Nat.ne_of_lt (Nat.lt_of_lt_of_le f248.lt f271)
    have ne281 : u240 ≠ r269 := Nat.ne_of_lt (Nat.lt_of_lt_of_le f238.lt f271)
    have pre282 : ∀ tq, Steps p.tables e below (T268.setTop (mkF m 170 #[.val (.int p1), .val (.int p2), .val (.int p3), .val (.int p4), .val (.int (2 : Int32)), .val (.double (FP.i2d p2)), .second, .val (.double (FP.i2d p3)), .second, .val (.double (FP.i2d p4)), .second, .val (.ref b179), .val (.int (1 : Int32)), .val (.ref r269)] [(.ref r269)])) tq → Steps p.tables e below (s₁.setTop (entryFrame m #[(.int p1), (.int p2), (.int p3), (.int p4)] maxLocals)) tq := by
      refine fun tq kq => pre273 tq ?_
      show Steps p.tables e below (T268.setTop (mkF m 166 #[.val (.int p1), .val (.int p2), .val (.int p3), .val (.int p4), .val (.int (2 : Int32)), .val (.double (FP.i2d p2)), .second, .val (.double (FP.i2d p3)), .second, .val (.double (FP.i2d p4)), .second, .val (.ref b179), .val (.int (1 : Int32)), .unset] [(.ref r269)])) _
      refine XS.astore X268.here hx rfl (hb hby at_166) rfl rfl (l' := #[.val (.int p1), .val (.int p2), .val (.int p3), .val (.int p4), .val (.int (2 : Int32)), .val (.double (FP.i2d p2)), .second, .val (.double (FP.i2d p3)), .second, .val (.double (FP.i2d p4)), .second, .val (.ref b179), .val (.int (1 : Int32)), .val (.ref r269)]) rfl ?_
      show Steps p.tables e below (T268.setTop (mkF m 168 #[.val (.int p1), .val (.int p2), .val (.int p3), .val (.int p4), .val (.int (2 : Int32)), .val (.double (FP.i2d p2)), .second, .val (.double (FP.i2d p3)), .second, .val (.double (FP.i2d p4)), .second, .val (.ref b179), .val (.int (1 : Int32)), .val (.ref r269)] [])) _
      refine XS.aload X268.here hx rfl (hb hby at_168) rfl rfl ?_
      exact kq
    have Vc283 := f270
    obtain ⟨cl283, Ar283, Aq283, As283, An283, Ah283, Ag283⟩ := Vc283
    have pre284 : ∀ tq, Steps p.tables e below (T268.setTop (mkF m 171 #[.val (.int p1), .val (.int p2), .val (.int p3), .val (.int p4), .val (.int (2 : Int32)), .val (.double (FP.i2d p2)), .second, .val (.double (FP.i2d p3)), .second, .val (.double (FP.i2d p4)), .second, .val (.ref b179), .val (.int (1 : Int32)), .val (.ref r269)] [(.int (2 : Int32))])) tq → Steps p.tables e below (s₁.setTop (entryFrame m #[(.int p1), (.int p2), (.int p3), (.int p4)] maxLocals)) tq := fun tq kq => pre282 tq (X268.arraylength hx Ar283.1 (State.isArrayOf_alike hZ.alike Ar283.2.1) (g := (mkF m 170 #[.val (.int p1), .val (.int p2), .val (.int p3), .val (.int p4), .val (.int (2 : Int32)), .val (.double (FP.i2d p2)), .second, .val (.double (FP.i2d p3)), .second, .val (.double (FP.i2d p4)), .second, .val (.ref b179), .val (.int (1 : Int32)), .val (.ref r269)] [(.ref r269)])) rfl rfl (hb hby at_170) _ (by rw [len_of As283 An283]; exact kq))
    have pre285 : ∀ tq, Steps p.tables e below (T268.setTop (mkF m 178 #[.val (.int p1), .val (.int p2), .val (.int p3), .val (.int p4), .val (.int (2 : Int32)), .val (.double (FP.i2d p2)), .second, .val (.double (FP.i2d p3)), .second, .val (.double (FP.i2d p4)), .second, .val (.ref b179), .val (.int (1 : Int32)), .val (.ref r269)] [])) tq → Steps p.tables e below (s₁.setTop (entryFrame m #[(.int p1), (.int p2), (.int p3), (.int p4)] maxLocals)) tq := by
      refine fun tq kq => pre284 tq ?_
      show Steps p.tables e below (T268.setTop (mkF m 171 #[.val (.int p1), .val (.int p2), .val (.int p3), .val (.int p4), .val (.int (2 : Int32)), .val (.double (FP.i2d p2)), .second, .val (.double (FP.i2d p3)), .second, .val (.double (FP.i2d p4)), .second, .val (.ref b179), .val (.int (1 : Int32)), .val (.ref r269)] [(.int (2 : Int32))])) _
      refine XS.iload X268.here hx rfl (hb hby at_171) rfl ?_
      show Steps p.tables e below (T268.setTop (mkF m 173 #[.val (.int p1), .val (.int p2), .val (.int p3), .val (.int p4), .val (.int (2 : Int32)), .val (.double (FP.i2d p2)), .second, .val (.double (FP.i2d p3)), .second, .val (.double (FP.i2d p4)), .second, .val (.ref b179), .val (.int (1 : Int32)), .val (.ref r269)] [(.int (2 : Int32)), (.int (2 : Int32))])) _
      refine XS.icmpYes X268.here hx rfl (pc0 := 173) (pc' := 178) rfl (hb hby at_173) rfl (teq (by decide : (2 : Int32) = (2 : Int32))).1 (by decide) (by decide) ?_
      exact kq
    have pre286 : ∀ tq, Steps p.tables e below (T268.setTop (mkF m 183 #[.val (.int p1), .val (.int p2), .val (.int p3), .val (.int p4), .val (.int (2 : Int32)), .val (.double (FP.i2d p2)), .second, .val (.double (FP.i2d p3)), .second, .val (.double (FP.i2d p4)), .second, .val (.ref b179), .val (.int (1 : Int32)), .val (.ref r269)] [])) tq → Steps p.tables e below (s₁.setTop (entryFrame m #[(.int p1), (.int p2), (.int p3), (.int p4)] maxLocals)) tq := by
      refine fun tq kq => pre285 tq ?_
      show Steps p.tables e below (T268.setTop (mkF m 178 #[.val (.int p1), .val (.int p2), .val (.int p3), .val (.int p4), .val (.int (2 : Int32)), .val (.double (FP.i2d p2)), .second, .val (.double (FP.i2d p3)), .second, .val (.double (FP.i2d p4)), .second, .val (.ref b179), .val (.int (1 : Int32)), .val (.ref r269)] [])) _
      refine XS.iload X268.here hx rfl (hb hby at_178) rfl ?_
      show Steps p.tables e below (T268.setTop (mkF m 180 #[.val (.int p1), .val (.int p2), .val (.int p3), .val (.int p4), .val (.int (2 : Int32)), .val (.double (FP.i2d p2)), .second, .val (.double (FP.i2d p3)), .second, .val (.double (FP.i2d p4)), .second, .val (.ref b179), .val (.int (1 : Int32)), .val (.ref r269)] [(.int (2 : Int32))])) _
      refine XS.ifNo X268.here hx rfl (hb hby at_180) rfl ((if0 _ _).trans (tlt (by decide : (0 : Int32) < (2 : Int32))).2.2.2) ?_
      exact kq
    have pre287 : ∀ tq, Steps p.tables e below (T268.setTop (mkF m 188 #[.val (.int p1), .val (.int p2), .val (.int p3), .val (.int p4), .val (.int (2 : Int32)), .val (.double (FP.i2d p2)), .second, .val (.double (FP.i2d p3)), .second, .val (.double (FP.i2d p4)), .second, .val (.ref b179), .val (.int (1 : Int32)), .val (.ref r269)] [])) tq → Steps p.tables e below (s₁.setTop (entryFrame m #[(.int p1), (.int p2), (.int p3), (.int p4)] maxLocals)) tq := by
      refine fun tq kq => pre286 tq ?_
      show Steps p.tables e below (T268.setTop (mkF m 183 #[.val (.int p1), .val (.int p2), .val (.int p3), .val (.int p4), .val (.int (2 : Int32)), .val (.double (FP.i2d p2)), .second, .val (.double (FP.i2d p3)), .second, .val (.double (FP.i2d p4)), .second, .val (.ref b179), .val (.int (1 : Int32)), .val (.ref r269)] [])) _
      refine XS.iload X268.here hx rfl (hb hby at_183) rfl ?_
      show Steps p.tables e below (T268.setTop (mkF m 185 #[.val (.int p1), .val (.int p2), .val (.int p3), .val (.int p4), .val (.int (2 : Int32)), .val (.double (FP.i2d p2)), .second, .val (.double (FP.i2d p3)), .second, .val (.double (FP.i2d p4)), .second, .val (.ref b179), .val (.int (1 : Int32)), .val (.ref r269)] [(.int (1 : Int32))])) _
      refine XS.ifNo X268.here hx rfl (hb hby at_185) rfl ((if0 _ _).trans (feq (by decide : ¬ ((1 : Int32) = (0 : Int32)))).1) ?_
      exact kq
    have pre288 : ∀ tq, Steps p.tables e below (T268.setTop (mkF m 191 #[.val (.int p1), .val (.int p2), .val (.int p3), .val (.int p4), .val (.int (2 : Int32)), .val (.double (FP.i2d p2)), .second, .val (.double (FP.i2d p3)), .second, .val (.double (FP.i2d p4)), .second, .val (.ref b179), .val (.int (1 : Int32)), .val (.ref r269)] [(.int (0 : Int32)), (.ref r269)])) tq → Steps p.tables e below (s₁.setTop (entryFrame m #[(.int p1), (.int p2), (.int p3), (.int p4)] maxLocals)) tq := by
      refine fun tq kq => pre287 tq ?_
      show Steps p.tables e below (T268.setTop (mkF m 188 #[.val (.int p1), .val (.int p2), .val (.int p3), .val (.int p4), .val (.int (2 : Int32)), .val (.double (FP.i2d p2)), .second, .val (.double (FP.i2d p3)), .second, .val (.double (FP.i2d p4)), .second, .val (.ref b179), .val (.int (1 : Int32)), .val (.ref r269)] [])) _
      refine XS.aload X268.here hx rfl (hb hby at_188) rfl rfl ?_
      show Steps p.tables e below (T268.setTop (mkF m 190 #[.val (.int p1), .val (.int p2), .val (.int p3), .val (.int p4), .val (.int (2 : Int32)), .val (.double (FP.i2d p2)), .second, .val (.double (FP.i2d p3)), .second, .val (.double (FP.i2d p4)), .second, .val (.ref b179), .val (.int (1 : Int32)), .val (.ref r269)] [(.ref r269)])) _
      refine XS.iconst X268.here hx rfl (hb hby at_190) ?_
      exact kq
    have Vc289 := f270
    obtain ⟨cl289, Ar289, Aq289, As289, An289, Ah289, Ag289⟩ := Vc289
    have hin289 : ¬ ((0 : Int32) < 0 ∨ cl289.slots.size ≤ ((0 : Int32)).toNatClampNeg) := inb_of As289 ⟨by decide, by decide⟩
    have pre290 : ∀ tq, Steps p.tables e below (T268.setTop (mkF m 192 #[.val (.int p1), .val (.int p2), .val (.int p3), .val (.int p4), .val (.int (2 : Int32)), .val (.double (FP.i2d p2)), .second, .val (.double (FP.i2d p3)), .second, .val (.double (FP.i2d p4)), .second, .val (.ref b179), .val (.int (1 : Int32)), .val (.ref r269)] [(.double (FP.i2d p2))])) tq → Steps p.tables e below (s₁.setTop (entryFrame m #[(.int p1), (.int p2), (.int p3), (.int p4)] maxLocals)) tq := fun tq kq => pre288 tq (X268.daload hx (j := (0 : Int32)) (v := (.double (FP.i2d p2))) Ar289.1 (State.isArrayOf_alike hZ.alike Ar289.2.1) Ar289.2.2 hin289 (Has.at Ah289 hin289 rfl) (g := (mkF m 191 #[.val (.int p1), .val (.int p2), .val (.int p3), .val (.int p4), .val (.int (2 : Int32)), .val (.double (FP.i2d p2)), .second, .val (.double (FP.i2d p3)), .second, .val (.double (FP.i2d p4)), .second, .val (.ref b179), .val (.int (1 : Int32)), .val (.ref r269)] [(.int (0 : Int32)), (.ref r269)])) rfl rfl (hb hby at_191) _ kq)
    have pre291 : ∀ tq, Steps p.tables e below (T268.setTop (mkF m 198 #[.val (.int p1), .val (.int p2), .val (.int p3), .val (.int p4), .val (.int (2 : Int32)), .val (.double (FP.i2d p2)), .second, .val (.double (FP.i2d p3)), .second, .val (.double (FP.i2d p4)), .second, .val (.ref b179), .val (.int (1 : Int32)), .val (.ref r269)] [])) tq → Steps p.tables e below (s₁.setTop (entryFrame m #[(.int p1), (.int p2), (.int p3), (.int p4)] maxLocals)) tq := by
      refine fun tq kq => pre290 tq ?_
      show Steps p.tables e below (T268.setTop (mkF m 192 #[.val (.int p1), .val (.int p2), .val (.int p3), .val (.int p4), .val (.int (2 : Int32)), .val (.double (FP.i2d p2)), .second, .val (.double (FP.i2d p3)), .second, .val (.double (FP.i2d p4)), .second, .val (.ref b179), .val (.int (1 : Int32)), .val (.ref r269)] [(.double (FP.i2d p2))])) _
      refine XS.dload X268.here hx rfl (hb hby at_192) rfl ?_
      show Steps p.tables e below (T268.setTop (mkF m 194 #[.val (.int p1), .val (.int p2), .val (.int p3), .val (.int p4), .val (.int (2 : Int32)), .val (.double (FP.i2d p2)), .second, .val (.double (FP.i2d p3)), .second, .val (.double (FP.i2d p4)), .second, .val (.ref b179), .val (.int (1 : Int32)), .val (.ref r269)] [(.double (FP.i2d p2)), (.double (FP.i2d p2))])) _
      refine XS.dcmpS X268.here hx rfl (hb hby at_194) rfl (dcmpV_self (nn_w (i2d_w _)) _) ?_
      show Steps p.tables e below (T268.setTop (mkF m 195 #[.val (.int p1), .val (.int p2), .val (.int p3), .val (.int p4), .val (.int (2 : Int32)), .val (.double (FP.i2d p2)), .second, .val (.double (FP.i2d p3)), .second, .val (.double (FP.i2d p4)), .second, .val (.ref b179), .val (.int (1 : Int32)), .val (.ref r269)] [(.int (0 : Int32))])) _
      refine XS.ifNo X268.here hx rfl (hb hby at_195) rfl ((if0 _ _).trans (teq (by decide : (0 : Int32) = (0 : Int32))).2) ?_
      exact kq
    have pre292 : ∀ tq, Steps p.tables e below (T268.setTop (mkF m 211 #[.val (.int p1), .val (.int p2), .val (.int p3), .val (.int p4), .val (.int (2 : Int32)), .val (.double (FP.i2d p2)), .second, .val (.double (FP.i2d p3)), .second, .val (.double (FP.i2d p4)), .second, .val (.ref b179), .val (.int (1 : Int32)), .val (.ref r269)] [])) tq → Steps p.tables e below (s₁.setTop (entryFrame m #[(.int p1), (.int p2), (.int p3), (.int p4)] maxLocals)) tq := by
      refine fun tq kq => pre291 tq ?_
      show Steps p.tables e below (T268.setTop (mkF m 198 #[.val (.int p1), .val (.int p2), .val (.int p3), .val (.int p4), .val (.int (2 : Int32)), .val (.double (FP.i2d p2)), .second, .val (.double (FP.i2d p3)), .second, .val (.double (FP.i2d p4)), .second, .val (.ref b179), .val (.int (1 : Int32)), .val (.ref r269)] [])) _
      refine XS.iconst X268.here hx rfl (hb hby at_198) ?_
      show Steps p.tables e below (T268.setTop (mkF m 199 #[.val (.int p1), .val (.int p2), .val (.int p3), .val (.int p4), .val (.int (2 : Int32)), .val (.double (FP.i2d p2)), .second, .val (.double (FP.i2d p3)), .second, .val (.double (FP.i2d p4)), .second, .val (.ref b179), .val (.int (1 : Int32)), .val (.ref r269)] [(.int (1 : Int32))])) _
      refine XS.goto X268.here hx rfl (pc0 := 199) (pc' := 203) rfl (hb hby at_199) (by decide) (by decide) ?_
      show Steps p.tables e below (T268.setTop (mkF m 203 #[.val (.int p1), .val (.int p2), .val (.int p3), .val (.int p4), .val (.int (2 : Int32)), .val (.double (FP.i2d p2)), .second, .val (.double (FP.i2d p3)), .second, .val (.double (FP.i2d p4)), .second, .val (.ref b179), .val (.int (1 : Int32)), .val (.ref r269)] [(.int (1 : Int32))])) _
      refine XS.istore X268.here hx rfl (hb hby at_203) rfl (l' := #[.val (.int p1), .val (.int p2), .val (.int p3), .val (.int p4), .val (.int (2 : Int32)), .val (.double (FP.i2d p2)), .second, .val (.double (FP.i2d p3)), .second, .val (.double (FP.i2d p4)), .second, .val (.ref b179), .val (.int (1 : Int32)), .val (.ref r269)]) rfl ?_
      show Steps p.tables e below (T268.setTop (mkF m 205 #[.val (.int p1), .val (.int p2), .val (.int p3), .val (.int p4), .val (.int (2 : Int32)), .val (.double (FP.i2d p2)), .second, .val (.double (FP.i2d p3)), .second, .val (.double (FP.i2d p4)), .second, .val (.ref b179), .val (.int (1 : Int32)), .val (.ref r269)] [])) _
      refine XS.iload X268.here hx rfl (hb hby at_205) rfl ?_
      show Steps p.tables e below (T268.setTop (mkF m 207 #[.val (.int p1), .val (.int p2), .val (.int p3), .val (.int p4), .val (.int (2 : Int32)), .val (.double (FP.i2d p2)), .second, .val (.double (FP.i2d p3)), .second, .val (.double (FP.i2d p4)), .second, .val (.ref b179), .val (.int (1 : Int32)), .val (.ref r269)] [(.int (2 : Int32))])) _
      refine XS.iconst X268.here hx rfl (hb hby at_207) ?_
      show Steps p.tables e below (T268.setTop (mkF m 208 #[.val (.int p1), .val (.int p2), .val (.int p3), .val (.int p4), .val (.int (2 : Int32)), .val (.double (FP.i2d p2)), .second, .val (.double (FP.i2d p3)), .second, .val (.double (FP.i2d p4)), .second, .val (.ref b179), .val (.int (1 : Int32)), .val (.ref r269)] [(.int (1 : Int32)), (.int (2 : Int32))])) _
      refine XS.icmpNo X268.here hx rfl (hb hby at_208) rfl (tlt (by decide : (1 : Int32) < (2 : Int32))).2.2.2 ?_
      exact kq
    have pre293 : ∀ tq, Steps p.tables e below (T268.setTop (mkF m 216 #[.val (.int p1), .val (.int p2), .val (.int p3), .val (.int p4), .val (.int (2 : Int32)), .val (.double (FP.i2d p2)), .second, .val (.double (FP.i2d p3)), .second, .val (.double (FP.i2d p4)), .second, .val (.ref b179), .val (.int (1 : Int32)), .val (.ref r269)] [])) tq → Steps p.tables e below (s₁.setTop (entryFrame m #[(.int p1), (.int p2), (.int p3), (.int p4)] maxLocals)) tq := by
      refine fun tq kq => pre292 tq ?_
      show Steps p.tables e below (T268.setTop (mkF m 211 #[.val (.int p1), .val (.int p2), .val (.int p3), .val (.int p4), .val (.int (2 : Int32)), .val (.double (FP.i2d p2)), .second, .val (.double (FP.i2d p3)), .second, .val (.double (FP.i2d p4)), .second, .val (.ref b179), .val (.int (1 : Int32)), .val (.ref r269)] [])) _
      refine XS.iload X268.here hx rfl (hb hby at_211) rfl ?_
      show Steps p.tables e below (T268.setTop (mkF m 213 #[.val (.int p1), .val (.int p2), .val (.int p3), .val (.int p4), .val (.int (2 : Int32)), .val (.double (FP.i2d p2)), .second, .val (.double (FP.i2d p3)), .second, .val (.double (FP.i2d p4)), .second, .val (.ref b179), .val (.int (1 : Int32)), .val (.ref r269)] [(.int (1 : Int32))])) _
      refine XS.ifNo X268.here hx rfl (hb hby at_213) rfl ((if0 _ _).trans (feq (by decide : ¬ ((1 : Int32) = (0 : Int32)))).1) ?_
      exact kq
    have pre294 : ∀ tq, Steps p.tables e below (T268.setTop (mkF m 219 #[.val (.int p1), .val (.int p2), .val (.int p3), .val (.int p4), .val (.int (2 : Int32)), .val (.double (FP.i2d p2)), .second, .val (.double (FP.i2d p3)), .second, .val (.double (FP.i2d p4)), .second, .val (.ref b179), .val (.int (1 : Int32)), .val (.ref r269)] [(.int (1 : Int32)), (.ref r269)])) tq → Steps p.tables e below (s₁.setTop (entryFrame m #[(.int p1), (.int p2), (.int p3), (.int p4)] maxLocals)) tq := by
      refine fun tq kq => pre293 tq ?_
      show Steps p.tables e below (T268.setTop (mkF m 216 #[.val (.int p1), .val (.int p2), .val (.int p3), .val (.int p4), .val (.int (2 : Int32)), .val (.double (FP.i2d p2)), .second, .val (.double (FP.i2d p3)), .second, .val (.double (FP.i2d p4)), .second, .val (.ref b179), .val (.int (1 : Int32)), .val (.ref r269)] [])) _
      refine XS.aload X268.here hx rfl (hb hby at_216) rfl rfl ?_
      show Steps p.tables e below (T268.setTop (mkF m 218 #[.val (.int p1), .val (.int p2), .val (.int p3), .val (.int p4), .val (.int (2 : Int32)), .val (.double (FP.i2d p2)), .second, .val (.double (FP.i2d p3)), .second, .val (.double (FP.i2d p4)), .second, .val (.ref b179), .val (.int (1 : Int32)), .val (.ref r269)] [(.ref r269)])) _
      refine XS.iconst X268.here hx rfl (hb hby at_218) ?_
      exact kq
    have Vc295 := f270
    obtain ⟨cl295, Ar295, Aq295, As295, An295, Ah295, Ag295⟩ := Vc295
    have hin295 : ¬ ((1 : Int32) < 0 ∨ cl295.slots.size ≤ ((1 : Int32)).toNatClampNeg) := inb_of As295 ⟨by decide, by decide⟩
    have pre296 : ∀ tq, Steps p.tables e below (T268.setTop (mkF m 220 #[.val (.int p1), .val (.int p2), .val (.int p3), .val (.int p4), .val (.int (2 : Int32)), .val (.double (FP.i2d p2)), .second, .val (.double (FP.i2d p3)), .second, .val (.double (FP.i2d p4)), .second, .val (.ref b179), .val (.int (1 : Int32)), .val (.ref r269)] [(.double (FP.i2d p3))])) tq → Steps p.tables e below (s₁.setTop (entryFrame m #[(.int p1), (.int p2), (.int p3), (.int p4)] maxLocals)) tq := fun tq kq => pre294 tq (X268.daload hx (j := (1 : Int32)) (v := (.double (FP.i2d p3))) Ar295.1 (State.isArrayOf_alike hZ.alike Ar295.2.1) Ar295.2.2 hin295 (Has.at Ah295 hin295 rfl) (g := (mkF m 219 #[.val (.int p1), .val (.int p2), .val (.int p3), .val (.int p4), .val (.int (2 : Int32)), .val (.double (FP.i2d p2)), .second, .val (.double (FP.i2d p3)), .second, .val (.double (FP.i2d p4)), .second, .val (.ref b179), .val (.int (1 : Int32)), .val (.ref r269)] [(.int (1 : Int32)), (.ref r269)])) rfl rfl (hb hby at_219) _ kq)
    have pre297 : ∀ tq, Steps p.tables e below (T268.setTop (mkF m 226 #[.val (.int p1), .val (.int p2), .val (.int p3), .val (.int p4), .val (.int (2 : Int32)), .val (.double (FP.i2d p2)), .second, .val (.double (FP.i2d p3)), .second, .val (.double (FP.i2d p4)), .second, .val (.ref b179), .val (.int (1 : Int32)), .val (.ref r269)] [])) tq → Steps p.tables e below (s₁.setTop (entryFrame m #[(.int p1), (.int p2), (.int p3), (.int p4)] maxLocals)) tq := by
      refine fun tq kq => pre296 tq ?_
      show Steps p.tables e below (T268.setTop (mkF m 220 #[.val (.int p1), .val (.int p2), .val (.int p3), .val (.int p4), .val (.int (2 : Int32)), .val (.double (FP.i2d p2)), .second, .val (.double (FP.i2d p3)), .second, .val (.double (FP.i2d p4)), .second, .val (.ref b179), .val (.int (1 : Int32)), .val (.ref r269)] [(.double (FP.i2d p3))])) _
      refine XS.dload X268.here hx rfl (hb hby at_220) rfl ?_
      show Steps p.tables e below (T268.setTop (mkF m 222 #[.val (.int p1), .val (.int p2), .val (.int p3), .val (.int p4), .val (.int (2 : Int32)), .val (.double (FP.i2d p2)), .second, .val (.double (FP.i2d p3)), .second, .val (.double (FP.i2d p4)), .second, .val (.ref b179), .val (.int (1 : Int32)), .val (.ref r269)] [(.double (FP.i2d p3)), (.double (FP.i2d p3))])) _
      refine XS.dcmpS X268.here hx rfl (hb hby at_222) rfl (dcmpV_self (nn_w (i2d_w _)) _) ?_
      show Steps p.tables e below (T268.setTop (mkF m 223 #[.val (.int p1), .val (.int p2), .val (.int p3), .val (.int p4), .val (.int (2 : Int32)), .val (.double (FP.i2d p2)), .second, .val (.double (FP.i2d p3)), .second, .val (.double (FP.i2d p4)), .second, .val (.ref b179), .val (.int (1 : Int32)), .val (.ref r269)] [(.int (0 : Int32))])) _
      refine XS.ifNo X268.here hx rfl (hb hby at_223) rfl ((if0 _ _).trans (teq (by decide : (0 : Int32) = (0 : Int32))).2) ?_
      exact kq
    have pre298 : ∀ tq, Steps p.tables e below (T268.setTop (mkF m 261 #[.val (.int p1), .val (.int p2), .val (.int p3), .val (.int p4), .val (.int (2 : Int32)), .val (.double (FP.i2d p2)), .second, .val (.double (FP.i2d p3)), .second, .val (.double (FP.i2d p4)), .second, .val (.ref b179), .val (.int (1 : Int32)), .val (.ref r269)] [])) tq → Steps p.tables e below (s₁.setTop (entryFrame m #[(.int p1), (.int p2), (.int p3), (.int p4)] maxLocals)) tq := by
      refine fun tq kq => pre297 tq ?_
      show Steps p.tables e below (T268.setTop (mkF m 226 #[.val (.int p1), .val (.int p2), .val (.int p3), .val (.int p4), .val (.int (2 : Int32)), .val (.double (FP.i2d p2)), .second, .val (.double (FP.i2d p3)), .second, .val (.double (FP.i2d p4)), .second, .val (.ref b179), .val (.int (1 : Int32)), .val (.ref r269)] [])) _
      refine XS.iconst X268.here hx rfl (hb hby at_226) ?_
      show Steps p.tables e below (T268.setTop (mkF m 227 #[.val (.int p1), .val (.int p2), .val (.int p3), .val (.int p4), .val (.int (2 : Int32)), .val (.double (FP.i2d p2)), .second, .val (.double (FP.i2d p3)), .second, .val (.double (FP.i2d p4)), .second, .val (.ref b179), .val (.int (1 : Int32)), .val (.ref r269)] [(.int (1 : Int32))])) _
      refine XS.goto X268.here hx rfl (pc0 := 227) (pc' := 231) rfl (hb hby at_227) (by decide) (by decide) ?_
      show Steps p.tables e below (T268.setTop (mkF m 231 #[.val (.int p1), .val (.int p2), .val (.int p3), .val (.int p4), .val (.int (2 : Int32)), .val (.double (FP.i2d p2)), .second, .val (.double (FP.i2d p3)), .second, .val (.double (FP.i2d p4)), .second, .val (.ref b179), .val (.int (1 : Int32)), .val (.ref r269)] [(.int (1 : Int32))])) _
      refine XS.istore X268.here hx rfl (hb hby at_231) rfl (l' := #[.val (.int p1), .val (.int p2), .val (.int p3), .val (.int p4), .val (.int (2 : Int32)), .val (.double (FP.i2d p2)), .second, .val (.double (FP.i2d p3)), .second, .val (.double (FP.i2d p4)), .second, .val (.ref b179), .val (.int (1 : Int32)), .val (.ref r269)]) rfl ?_
      show Steps p.tables e below (T268.setTop (mkF m 233 #[.val (.int p1), .val (.int p2), .val (.int p3), .val (.int p4), .val (.int (2 : Int32)), .val (.double (FP.i2d p2)), .second, .val (.double (FP.i2d p3)), .second, .val (.double (FP.i2d p4)), .second, .val (.ref b179), .val (.int (1 : Int32)), .val (.ref r269)] [])) _
      refine XS.iload X268.here hx rfl (hb hby at_233) rfl ?_
      show Steps p.tables e below (T268.setTop (mkF m 235 #[.val (.int p1), .val (.int p2), .val (.int p3), .val (.int p4), .val (.int (2 : Int32)), .val (.double (FP.i2d p2)), .second, .val (.double (FP.i2d p3)), .second, .val (.double (FP.i2d p4)), .second, .val (.ref b179), .val (.int (1 : Int32)), .val (.ref r269)] [(.int (2 : Int32))])) _
      refine XS.iconst X268.here hx rfl (hb hby at_235) ?_
      show Steps p.tables e below (T268.setTop (mkF m 236 #[.val (.int p1), .val (.int p2), .val (.int p3), .val (.int p4), .val (.int (2 : Int32)), .val (.double (FP.i2d p2)), .second, .val (.double (FP.i2d p3)), .second, .val (.double (FP.i2d p4)), .second, .val (.ref b179), .val (.int (1 : Int32)), .val (.ref r269)] [(.int (2 : Int32)), (.int (2 : Int32))])) _
      refine XS.icmpYes X268.here hx rfl (pc0 := 236) (pc' := 261) rfl (hb hby at_236) rfl (flt (by decide : ¬ ((2 : Int32) < (2 : Int32)))).2.2.2 (by decide) (by decide) ?_
      exact kq
    obtain ⟨fs, hr, hrun, hended, hW, hsame⟩ := X268.leave (v := some (.int (1 : Int32))) (fun h => by rw [Bd.returns] at h; cases h)
    refine ⟨_, _, pre298 _ ?_, hrun, hended, _, _, rfl, ?_, ⟨_, rfl⟩, hW, hsame.mono (by decide) (by decide)⟩
    · skip
      show Steps p.tables e below (T268.setTop (mkF m 261 #[.val (.int p1), .val (.int p2), .val (.int p3), .val (.int p4), .val (.int (2 : Int32)), .val (.double (FP.i2d p2)), .second, .val (.double (FP.i2d p3)), .second, .val (.double (FP.i2d p4)), .second, .val (.ref b179), .val (.int (1 : Int32)), .val (.ref r269)] [])) _
      refine XS.iload X268.here hx rfl (hb hby at_261) rfl ?_
      show Steps p.tables e below (T268.setTop (mkF m 263 #[.val (.int p1), .val (.int p2), .val (.int p3), .val (.int p4), .val (.int (2 : Int32)), .val (.double (FP.i2d p2)), .second, .val (.double (FP.i2d p3)), .second, .val (.double (FP.i2d p4)), .second, .val (.ref b179), .val (.int (1 : Int32)), .val (.ref r269)] [(.int (1 : Int32))])) _
      exact retN X268 hx (t := .boolean) Bd.returns (by simp) (hb hby at_263) hr
    · show Q0 Z p1 p2 p3 p4 sD h0 n0 _ T268.heap _
      exact ⟨rfl, N268⟩
  · skip
    subst hk
    have pre299 : ∀ tq, Steps p.tables e below (s₁.setTop (mkF m 17 #[.val (.int p1), .val (.int p2), .val (.int p3), .val (.int p4), .val (.int (3 : Int32)), .val (.double (FP.i2d p2)), .second, .val (.double (FP.i2d p3)), .second, .val (.double (FP.i2d p4)), .second, .unset, .unset, .unset] [])) tq → Steps p.tables e below (s₁.setTop (entryFrame m #[(.int p1), (.int p2), (.int p3), (.int p4)] maxLocals)) tq := by
      refine fun tq kq => pre1 tq ?_
      show Steps p.tables e below (s₁.setTop (mkF m 5 #[.val (.int p1), .val (.int p2), .val (.int p3), .val (.int p4), .val (.int (3 : Int32)), .unset, .unset, .unset, .unset, .unset, .unset, .unset, .unset, .unset] [])) _
      refine XS.iloadN X0.here hx rfl (hb hby at_5) rfl ?_
      show Steps p.tables e below (s₁.setTop (mkF m 6 #[.val (.int p1), .val (.int p2), .val (.int p3), .val (.int p4), .val (.int (3 : Int32)), .unset, .unset, .unset, .unset, .unset, .unset, .unset, .unset, .unset] [(.int p2)])) _
      refine XS.i2dS X0.here hx rfl (hb hby at_6) rfl rfl ?_
      show Steps p.tables e below (s₁.setTop (mkF m 7 #[.val (.int p1), .val (.int p2), .val (.int p3), .val (.int p4), .val (.int (3 : Int32)), .unset, .unset, .unset, .unset, .unset, .unset, .unset, .unset, .unset] [(.double (FP.i2d p2))])) _
      refine XS.dstore X0.here hx rfl (hb hby at_7) rfl (l' := #[.val (.int p1), .val (.int p2), .val (.int p3), .val (.int p4), .val (.int (3 : Int32)), .val (.double (FP.i2d p2)), .second, .unset, .unset, .unset, .unset, .unset, .unset, .unset]) rfl ?_
      show Steps p.tables e below (s₁.setTop (mkF m 9 #[.val (.int p1), .val (.int p2), .val (.int p3), .val (.int p4), .val (.int (3 : Int32)), .val (.double (FP.i2d p2)), .second, .unset, .unset, .unset, .unset, .unset, .unset, .unset] [])) _
      refine XS.iloadN X0.here hx rfl (hb hby at_9) rfl ?_
      show Steps p.tables e below (s₁.setTop (mkF m 10 #[.val (.int p1), .val (.int p2), .val (.int p3), .val (.int p4), .val (.int (3 : Int32)), .val (.double (FP.i2d p2)), .second, .unset, .unset, .unset, .unset, .unset, .unset, .unset] [(.int p3)])) _
      refine XS.i2dS X0.here hx rfl (hb hby at_10) rfl rfl ?_
      show Steps p.tables e below (s₁.setTop (mkF m 11 #[.val (.int p1), .val (.int p2), .val (.int p3), .val (.int p4), .val (.int (3 : Int32)), .val (.double (FP.i2d p2)), .second, .unset, .unset, .unset, .unset, .unset, .unset, .unset] [(.double (FP.i2d p3))])) _
      refine XS.dstore X0.here hx rfl (hb hby at_11) rfl (l' := #[.val (.int p1), .val (.int p2), .val (.int p3), .val (.int p4), .val (.int (3 : Int32)), .val (.double (FP.i2d p2)), .second, .val (.double (FP.i2d p3)), .second, .unset, .unset, .unset, .unset, .unset]) rfl ?_
      show Steps p.tables e below (s₁.setTop (mkF m 13 #[.val (.int p1), .val (.int p2), .val (.int p3), .val (.int p4), .val (.int (3 : Int32)), .val (.double (FP.i2d p2)), .second, .val (.double (FP.i2d p3)), .second, .unset, .unset, .unset, .unset, .unset] [])) _
      refine XS.iloadN X0.here hx rfl (hb hby at_13) rfl ?_
      show Steps p.tables e below (s₁.setTop (mkF m 14 #[.val (.int p1), .val (.int p2), .val (.int p3), .val (.int p4), .val (.int (3 : Int32)), .val (.double (FP.i2d p2)), .second, .val (.double (FP.i2d p3)), .second, .unset, .unset, .unset, .unset, .unset] [(.int p4)])) _
      refine XS.i2dS X0.here hx rfl (hb hby at_14) rfl rfl ?_
      show Steps p.tables e below (s₁.setTop (mkF m 15 #[.val (.int p1), .val (.int p2), .val (.int p3), .val (.int p4), .val (.int (3 : Int32)), .val (.double (FP.i2d p2)), .second, .val (.double (FP.i2d p3)), .second, .unset, .unset, .unset, .unset, .unset] [(.double (FP.i2d p4))])) _
      refine XS.dstore X0.here hx rfl (hb hby at_15) rfl (l' := #[.val (.int p1), .val (.int p2), .val (.int p3), .val (.int p4), .val (.int (3 : Int32)), .val (.double (FP.i2d p2)), .second, .val (.double (FP.i2d p3)), .second, .val (.double (FP.i2d p4)), .second, .unset, .unset, .unset]) rfl ?_
      exact kq
    obtain ⟨T300, h300, X300, e300, E300, A300, D300, -, st300⟩ := newO X0 hx hZ hown (hw _ (List.mem_of_getElem? (i := 0) rfl)) (hw _ (List.mem_of_getElem? (i := 1) rfl)) (hw _ (List.mem_of_getElem? (i := 2) rfl)) e0 (g := (mkF m 17 #[.val (.int p1), .val (.int p2), .val (.int p3), .val (.int p4), .val (.int (3 : Int32)), .val (.double (FP.i2d p2)), .second, .val (.double (FP.i2d p3)), .second, .val (.double (FP.i2d p4)), .second, .unset, .unset, .unset] [])) rfl (hb hby at_17) (by decide) (by decide)
    obtain ⟨b300, g300⟩ : ∃ z, z = h0.size := ⟨_, rfl⟩
    rw [← g300] at A300 D300 st300
    have g_b300 : n0 ≤ b300 := Nat.le_trans Z0 (Nat.le_of_eq g300.symm)
    have sz_b300 : h0.size ≤ b300 := Nat.le_trans (Nat.le_refl h0.size) (Nat.le_of_eq g300.symm)
    have pre301 : ∀ tq, Steps p.tables e below (T300.setTop (mkF m 20 #[.val (.int p1), .val (.int p2), .val (.int p3), .val (.int p4), .val (.int (3 : Int32)), .val (.double (FP.i2d p2)), .second, .val (.double (FP.i2d p3)), .second, .val (.double (FP.i2d p4)), .second, .unset, .unset, .unset] [(.ref b300)])) tq → Steps p.tables e below (s₁.setTop (entryFrame m #[(.int p1), (.int p2), (.int p3), (.int p4)] maxLocals)) tq := fun tq kq => pre299 tq (st300 _ kq)
    have f302 := S_DEFAULTCAPACITY_EMPTY_ELEMENTDATA.ext E300
    have K300 : Keep h0 h300 [] := Keep.ext (Keep.refl h0 []) E300
    have f303 : Fld Z h300 b300 "com/example/crisp_haptics/crisphaptics/SampleBlocks" "fullBlocks" "Ljava/util/List;" .null := D300 (Or.inr (hw _ (List.mem_of_getElem? (i := 34) rfl))) (ty := (.object "java/util/List")) (by decide)
    have f304 : Fld Z h300 b300 "com/example/crisp_haptics/crisphaptics/SampleBlocks" "block" "[D" .null := D300 (Or.inl (hw _ (List.mem_of_getElem? (i := 38) rfl))) (ty := (.array .double)) (by decide)
    have f305 : Fld Z h300 b300 "com/example/crisp_haptics/crisphaptics/SampleBlocks" "inBlock" "I" (.int (0 : Int32)) := D300 (Or.inl (hw _ (List.mem_of_getElem? (i := 45) rfl))) (ty := .int) (by decide)
    have pre306 : ∀ tq, Steps p.tables e below (T300.setTop (mkF m 21 #[.val (.int p1), .val (.int p2), .val (.int p3), .val (.int p4), .val (.int (3 : Int32)), .val (.double (FP.i2d p2)), .second, .val (.double (FP.i2d p3)), .second, .val (.double (FP.i2d p4)), .second, .unset, .unset, .unset] [(.ref b300), (.ref b300)])) tq → Steps p.tables e below (s₁.setTop (entryFrame m #[(.int p1), (.int p2), (.int p3), (.int p4)] maxLocals)) tq := by
      refine fun tq kq => pre301 tq ?_
      show Steps p.tables e below (T300.setTop (mkF m 20 #[.val (.int p1), .val (.int p2), .val (.int p3), .val (.int p4), .val (.int (3 : Int32)), .val (.double (FP.i2d p2)), .second, .val (.double (FP.i2d p3)), .second, .val (.double (FP.i2d p4)), .second, .unset, .unset, .unset] [(.ref b300)])) _
      refine XS.dup X300.here hx rfl (hb hby at_20) rfl rfl ?_
      exact kq
    have Z307 : n0 ≤ h300.size := (Nat.le_trans Z0 E300.1)
    obtain ⟨_, _, ⟨T307, L307, k307, n307⟩, -, X307, ⟨Lc307, hQ307, l307, y307, z307⟩, st307⟩ := X300.specialBack hx (y := (⟨"com/example/crisp_haptics/crisphaptics/SampleBlocks", "<init>", "()V"⟩ : MethodName)) rfl hown (mvT hZ (hw _ (List.mem_of_getElem? (i := 3) rfl))) (mvT hZ (hw _ (List.mem_of_getElem? (i := 4) rfl))) (mvT hZ (hw _ (List.mem_of_getElem? (i := 5) rfl))) (by decide) (backOf (W := 1) (rm1 l Z a0 hw [] b300 sD h300 n0 Z307 A300 f303 f304 f305 g_b300 f302) hZ (hw _ (List.mem_of_getElem? (i := 5) rfl)) (hw _ (List.mem_of_getElem? (i := 2) rfl)) (by decide) (by decide)) (g := (mkF m 21 #[.val (.int p1), .val (.int p2), .val (.int p3), .val (.int p4), .val (.int (3 : Int32)), .val (.double (FP.i2d p2)), .second, .val (.double (FP.i2d p3)), .second, .val (.double (FP.i2d p4)), .second, .unset, .unset, .unset] [(.ref b300), (.ref b300)])) rfl (by rw [hml]; rfl) (Steps.refl _) (a := b300) (argsL := []) (rest := [(.ref b300)]) (lenOf pd0_0 rfl) rfl (by show 2 * 0 + _ ≤ _; exact Nat.le_of_eq rfl) (hb hby at_21) (fun _ _ => ⟨rfl, e300, (by decide : (0 + 1) + 2 ≤ _), (by decide : (0 + 3) + 32771 ≤ _)⟩)
    dsimp only [Pt.U, Pt.locs, Pt.cells, Pt.slots] at X307 l307 y307 z307 st307 hQ307
    subst l307 y307 z307
    obtain ⟨u319, u320, u321, rfl, Nq307, Kq307, f308, f309, f310, f311, f312, f313, f314, f315, f316, f317, f318, hq307⟩ := hQ307
    have N307 := Fr.app N0 Nq307
    have pre322 : ∀ tq, Steps p.tables e below (T307.setTop (mkF m 24 #[.val (.int p1), .val (.int p2), .val (.int p3), .val (.int p4), .val (.int (3 : Int32)), .val (.double (FP.i2d p2)), .second, .val (.double (FP.i2d p3)), .second, .val (.double (FP.i2d p4)), .second, .unset, .unset, .unset] [(.ref b300)])) tq → Steps p.tables e below (s₁.setTop (entryFrame m #[(.int p1), (.int p2), (.int p3), (.int p4)] maxLocals)) tq := fun tq kq => pre306 tq (st307.trans kq)
    have K307 : Keep h0 T307.heap [] := Keep.trans K300 Kq307 (allS (Or.inr sz_b300) all0)
    have f323 := own_sta_keep f302 Kq307 (allS (own_nostat A300) all0)
    have f324 := A300.keep Kq307
    have g_u319 : n0 ≤ u319 := Nat.le_trans Z307 f316
    have sz_u319 : h0.size ≤ u319 := Nat.le_trans (Nat.le_trans (Nat.le_refl h0.size) E300.1) f316
    have ne325 : b300 ≠ u319 := Nat.ne_of_lt (Nat.lt_of_lt_of_le A300.lt f316)
    have g_u320 : n0 ≤ u320 := Nat.le_trans Z307 f317
    have sz_u320 : h0.size ≤ u320 := Nat.le_trans (Nat.le_trans (Nat.le_refl h0.size) E300.1) f317
    have ne326 : b300 ≠ u320 := Nat.ne_of_lt (Nat.lt_of_lt_of_le A300.lt f317)
    have pre327 : ∀ tq, Steps p.tables e below (T307.setTop (mkF m 31 #[.val (.int p1), .val (.int p2), .val (.int p3), .val (.int p4), .val (.int (3 : Int32)), .val (.double (FP.i2d p2)), .second, .val (.double (FP.i2d p3)), .second, .val (.double (FP.i2d p4)), .second, .val (.ref b300), .unset, .unset] [])) tq → Steps p.tables e below (s₁.setTop (entryFrame m #[(.int p1), (.int p2), (.int p3), (.int p4)] maxLocals)) tq := by
      refine fun tq kq => pre322 tq ?_
      show Steps p.tables e below (T307.setTop (mkF m 24 #[.val (.int p1), .val (.int p2), .val (.int p3), .val (.int p4), .val (.int (3 : Int32)), .val (.double (FP.i2d p2)), .second, .val (.double (FP.i2d p3)), .second, .val (.double (FP.i2d p4)), .second, .unset, .unset, .unset] [(.ref b300)])) _
      refine XS.astore X307.here hx rfl (hb hby at_24) rfl rfl (l' := #[.val (.int p1), .val (.int p2), .val (.int p3), .val (.int p4), .val (.int (3 : Int32)), .val (.double (FP.i2d p2)), .second, .val (.double (FP.i2d p3)), .second, .val (.double (FP.i2d p4)), .second, .val (.ref b300), .unset, .unset]) rfl ?_
      show Steps p.tables e below (T307.setTop (mkF m 26 #[.val (.int p1), .val (.int p2), .val (.int p3), .val (.int p4), .val (.int (3 : Int32)), .val (.double (FP.i2d p2)), .second, .val (.double (FP.i2d p3)), .second, .val (.double (FP.i2d p4)), .second, .val (.ref b300), .unset, .unset] [])) _
      refine XS.iload X307.here hx rfl (hb hby at_26) rfl ?_
      show Steps p.tables e below (T307.setTop (mkF m 28 #[.val (.int p1), .val (.int p2), .val (.int p3), .val (.int p4), .val (.int (3 : Int32)), .val (.double (FP.i2d p2)), .second, .val (.double (FP.i2d p3)), .second, .val (.double (FP.i2d p4)), .second, .val (.ref b300), .unset, .unset] [(.int (3 : Int32))])) _
      refine XS.ifNo X307.here hx rfl (hb hby at_28) rfl ((if0 _ _).trans (tlt (by decide : (0 : Int32) < (3 : Int32))).2.2.2) ?_
      exact kq
    have pre328 : ∀ tq, Steps p.tables e below (T307.setTop (mkF m 35 #[.val (.int p1), .val (.int p2), .val (.int p3), .val (.int p4), .val (.int (3 : Int32)), .val (.double (FP.i2d p2)), .second, .val (.double (FP.i2d p3)), .second, .val (.double (FP.i2d p4)), .second, .val (.ref b300), .unset, .unset] [(.double (FP.i2d p2)), (.ref b300)])) tq → Steps p.tables e below (s₁.setTop (entryFrame m #[(.int p1), (.int p2), (.int p3), (.int p4)] maxLocals)) tq := by
      refine fun tq kq => pre327 tq ?_
      show Steps p.tables e below (T307.setTop (mkF m 31 #[.val (.int p1), .val (.int p2), .val (.int p3), .val (.int p4), .val (.int (3 : Int32)), .val (.double (FP.i2d p2)), .second, .val (.double (FP.i2d p3)), .second, .val (.double (FP.i2d p4)), .second, .val (.ref b300), .unset, .unset] [])) _
      refine XS.aload X307.here hx rfl (hb hby at_31) rfl rfl ?_
      show Steps p.tables e below (T307.setTop (mkF m 33 #[.val (.int p1), .val (.int p2), .val (.int p3), .val (.int p4), .val (.int (3 : Int32)), .val (.double (FP.i2d p2)), .second, .val (.double (FP.i2d p3)), .second, .val (.double (FP.i2d p4)), .second, .val (.ref b300), .unset, .unset] [(.ref b300)])) _
      refine XS.dload X307.here hx rfl (hb hby at_33) rfl ?_
      exact kq
    have Z329 : n0 ≤ T307.heap.size := (Nat.le_trans Z307 Kq307.1)
    obtain ⟨cq329, kq329, q329a, q329b, q329c⟩ := isOf hZ rfl f324
    obtain ⟨_, _, ⟨T329, L329, k329, n329⟩, -, X329, ⟨Lc329, hQ329, l329, y329, z329⟩, st329⟩ := X307.virtualBack hx (y := (⟨"com/example/crisp_haptics/crisphaptics/SampleBlocks", "add", "(D)V"⟩ : MethodName)) (z := (⟨"com/example/crisp_haptics/crisphaptics/SampleBlocks", "add", "(D)V"⟩ : MethodName)) hown (mvT hZ (hw _ (List.mem_of_getElem? (i := 120) rfl))) (mvT hZ (hw _ (List.mem_of_getElem? (i := 121) rfl))) (notFace_of_selects (args := #[]) (mvT hZ (hw _ (List.mem_of_getElem? (i := 123) rfl)))) (mvT hZ (hw _ (List.mem_of_getElem? (i := 123) rfl))) (mvT hZ (hw _ (List.mem_of_getElem? (i := 122) rfl))) (by decide) (backOf (W := 0) (rm15_0 l Z a0 hw [] b300 (FP.i2d p2) u319 u320 u321 0 0 0 T307.heap n0 Z329 f324 f310 f309 f308 f315 g_b300 g_u320 ne326) hZ (hw _ (List.mem_of_getElem? (i := 124) rfl)) (hw _ (List.mem_of_getElem? (i := 2) rfl)) (by decide) (by decide)) q329a q329c (g := (mkF m 35 #[.val (.int p1), .val (.int p2), .val (.int p3), .val (.int p4), .val (.int (3 : Int32)), .val (.double (FP.i2d p2)), .second, .val (.double (FP.i2d p3)), .second, .val (.double (FP.i2d p4)), .second, .val (.ref b300), .unset, .unset] [(.double (FP.i2d p2)), (.ref b300)])) rfl (by rw [hml]; rfl) (Steps.refl _) (argsL := [(.double (FP.i2d p2))]) (rest := []) (lenOf pd0_2 rfl) rfl (by show 2 * 0 + _ ≤ _; exact Nat.le_of_eq rfl) (hb hby at_35) (fun _ _ => ⟨rfl, rfl, (by decide : ((0 + 1) + 2) + 0 ≤ _), (by decide : ((0 + 3) + 32771) + 0 ≤ _)⟩)
    dsimp only [Pt.U, Pt.locs, Pt.cells, Pt.slots] at X329 l329 y329 z329 st329 hQ329
    subst l329 y329 z329
    obtain ⟨rfl, Nq329, Kq329, f330, f331, f332, f333, hq329⟩ := hQ329
    have N329 := Fr.app N307 Nq329
    have pre334 : ∀ tq, Steps p.tables e below (T329.setTop (mkF m 38 #[.val (.int p1), .val (.int p2), .val (.int p3), .val (.int p4), .val (.int (3 : Int32)), .val (.double (FP.i2d p2)), .second, .val (.double (FP.i2d p3)), .second, .val (.double (FP.i2d p4)), .second, .val (.ref b300), .unset, .unset] [])) tq → Steps p.tables e below (s₁.setTop (entryFrame m #[(.int p1), (.int p2), (.int p3), (.int p4)] maxLocals)) tq := fun tq kq => pre328 tq (st329.trans kq)
    have K329 : Keep h0 T329.heap [] := Keep.trans K307 Kq329 (allS (Or.inr sz_b300) (allS (Or.inr sz_u320) all0))
    have f335 := f324.keep Kq329
    have f336 := f311.keep Kq329
    have f337 := f312.keep Kq329 (by simp only [List.mem_cons, List.not_mem_nil, or_false, not_or]; exact ⟨(Ne.symm ne325), f318⟩)
    have f338 := f313.keep Kq329 (by simp only [List.mem_cons, List.not_mem_nil, or_false, not_or]; exact ⟨(Ne.symm ne325), f318⟩)
    have f339 := f314.keep Kq329 (by simp only [List.mem_cons, List.not_mem_nil, or_false, not_or]; exact ⟨(Ne.symm ne325), f318⟩)
    have pre340 : ∀ tq, Steps p.tables e below (T329.setTop (mkF m 44 #[.val (.int p1), .val (.int p2), .val (.int p3), .val (.int p4), .val (.int (3 : Int32)), .val (.double (FP.i2d p2)), .second, .val (.double (FP.i2d p3)), .second, .val (.double (FP.i2d p4)), .second, .val (.ref b300), .unset, .unset] [])) tq → Steps p.tables e below (s₁.setTop (entryFrame m #[(.int p1), (.int p2), (.int p3), (.int p4)] maxLocals)) tq := by
      refine fun tq kq => pre334 tq ?_
      show Steps p.tables e below (T329.setTop (mkF m 38 #[.val (.int p1), .val (.int p2), .val (.int p3), .val (.int p4), .val (.int (3 : Int32)), .val (.double (FP.i2d p2)), .second, .val (.double (FP.i2d p3)), .second, .val (.double (FP.i2d p4)), .second, .val (.ref b300), .unset, .unset] [])) _
      refine XS.iload X329.here hx rfl (hb hby at_38) rfl ?_
      show Steps p.tables e below (T329.setTop (mkF m 40 #[.val (.int p1), .val (.int p2), .val (.int p3), .val (.int p4), .val (.int (3 : Int32)), .val (.double (FP.i2d p2)), .second, .val (.double (FP.i2d p3)), .second, .val (.double (FP.i2d p4)), .second, .val (.ref b300), .unset, .unset] [(.int (3 : Int32))])) _
      refine XS.iconst X329.here hx rfl (hb hby at_40) ?_
      show Steps p.tables e below (T329.setTop (mkF m 41 #[.val (.int p1), .val (.int p2), .val (.int p3), .val (.int p4), .val (.int (3 : Int32)), .val (.double (FP.i2d p2)), .second, .val (.double (FP.i2d p3)), .second, .val (.double (FP.i2d p4)), .second, .val (.ref b300), .unset, .unset] [(.int (1 : Int32)), (.int (3 : Int32))])) _
      refine XS.icmpNo X329.here hx rfl (hb hby at_41) rfl (tlt (by decide : (1 : Int32) < (3 : Int32))).2.2.2 ?_
      exact kq
    have pre341 : ∀ tq, Steps p.tables e below (T329.setTop (mkF m 48 #[.val (.int p1), .val (.int p2), .val (.int p3), .val (.int p4), .val (.int (3 : Int32)), .val (.double (FP.i2d p2)), .second, .val (.double (FP.i2d p3)), .second, .val (.double (FP.i2d p4)), .second, .val (.ref b300), .unset, .unset] [(.double (FP.i2d p3)), (.ref b300)])) tq → Steps p.tables e below (s₁.setTop (entryFrame m #[(.int p1), (.int p2), (.int p3), (.int p4)] maxLocals)) tq := by
      refine fun tq kq => pre340 tq ?_
      show Steps p.tables e below (T329.setTop (mkF m 44 #[.val (.int p1), .val (.int p2), .val (.int p3), .val (.int p4), .val (.int (3 : Int32)), .val (.double (FP.i2d p2)), .second, .val (.double (FP.i2d p3)), .second, .val (.double (FP.i2d p4)), .second, .val (.ref b300), .unset, .unset] [])) _
      refine XS.aload X329.here hx rfl (hb hby at_44) rfl rfl ?_
      show Steps p.tables e below (T329.setTop (mkF m 46 #[.val (.int p1), .val (.int p2), .val (.int p3), .val (.int p4), .val (.int (3 : Int32)), .val (.double (FP.i2d p2)), .second, .val (.double (FP.i2d p3)), .second, .val (.double (FP.i2d p4)), .second, .val (.ref b300), .unset, .unset] [(.ref b300)])) _
      refine XS.dload X329.here hx rfl (hb hby at_46) rfl ?_
      exact kq
    have Z342 : n0 ≤ T329.heap.size := (Nat.le_trans Z329 Kq329.1)
    obtain ⟨cq342, kq342, q342a, q342b, q342c⟩ := isOf hZ rfl f335
    obtain ⟨_, _, ⟨T342, L342, k342, n342⟩, -, X342, ⟨Lc342, hQ342, l342, y342, z342⟩, st342⟩ := X329.virtualBack hx (y := (⟨"com/example/crisp_haptics/crisphaptics/SampleBlocks", "add", "(D)V"⟩ : MethodName)) (z := (⟨"com/example/crisp_haptics/crisphaptics/SampleBlocks", "add", "(D)V"⟩ : MethodName)) hown (mvT hZ (hw _ (List.mem_of_getElem? (i := 120) rfl))) (mvT hZ (hw _ (List.mem_of_getElem? (i := 121) rfl))) (notFace_of_selects (args := #[]) (mvT hZ (hw _ (List.mem_of_getElem? (i := 123) rfl)))) (mvT hZ (hw _ (List.mem_of_getElem? (i := 123) rfl))) (mvT hZ (hw _ (List.mem_of_getElem? (i := 122) rfl))) (by decide) (backOf (W := 0) (rm15_1 l Z a0 hw [] b300 (FP.i2d p3) u319 u320 u321 (FP.i2d p2) 0 0 T329.heap n0 Z342 f335 f330 f331 f332 f333 g_b300 g_u320 ne326) hZ (hw _ (List.mem_of_getElem? (i := 124) rfl)) (hw _ (List.mem_of_getElem? (i := 2) rfl)) (by decide) (by decide)) q342a q342c (g := (mkF m 48 #[.val (.int p1), .val (.int p2), .val (.int p3), .val (.int p4), .val (.int (3 : Int32)), .val (.double (FP.i2d p2)), .second, .val (.double (FP.i2d p3)), .second, .val (.double (FP.i2d p4)), .second, .val (.ref b300), .unset, .unset] [(.double (FP.i2d p3)), (.ref b300)])) rfl (by rw [hml]; rfl) (Steps.refl _) (argsL := [(.double (FP.i2d p3))]) (rest := []) (lenOf pd0_2 rfl) rfl (by show 2 * 0 + _ ≤ _; exact Nat.le_of_eq rfl) (hb hby at_48) (fun _ _ => ⟨rfl, rfl, (by decide : (((0 + 1) + 2) + 0) + 0 ≤ _), (by decide : (((0 + 3) + 32771) + 0) + 0 ≤ _)⟩)
    dsimp only [Pt.U, Pt.locs, Pt.cells, Pt.slots] at X342 l342 y342 z342 st342 hQ342
    subst l342 y342 z342
    obtain ⟨rfl, Nq342, Kq342, f343, f344, f345, f346, hq342⟩ := hQ342
    have N342 := Fr.app N329 Nq342
    have pre347 : ∀ tq, Steps p.tables e below (T342.setTop (mkF m 51 #[.val (.int p1), .val (.int p2), .val (.int p3), .val (.int p4), .val (.int (3 : Int32)), .val (.double (FP.i2d p2)), .second, .val (.double (FP.i2d p3)), .second, .val (.double (FP.i2d p4)), .second, .val (.ref b300), .unset, .unset] [])) tq → Steps p.tables e below (s₁.setTop (entryFrame m #[(.int p1), (.int p2), (.int p3), (.int p4)] maxLocals)) tq := fun tq kq => pre341 tq (st342.trans kq)
    have K342 : Keep h0 T342.heap [] := Keep.trans K329 Kq342 (allS (Or.inr sz_b300) (allS (Or.inr sz_u320) all0))
    have f348 := f335.keep Kq342
    have f349 := f336.keep Kq342
    have f350 := f337.keep Kq342 (by simp only [List.mem_cons, List.not_mem_nil, or_false, not_or]; exact ⟨(Ne.symm ne325), f318⟩)
    have f351 := f338.keep Kq342 (by simp only [List.mem_cons, List.not_mem_nil, or_false, not_or]; exact ⟨(Ne.symm ne325), f318⟩)
    have f352 := f339.keep Kq342 (by simp only [List.mem_cons, List.not_mem_nil, or_false, not_or]; exact ⟨(Ne.symm ne325), f318⟩)
    have pre353 : ∀ tq, Steps p.tables e below (T342.setTop (mkF m 57 #[.val (.int p1), .val (.int p2), .val (.int p3), .val (.int p4), .val (.int (3 : Int32)), .val (.double (FP.i2d p2)), .second, .val (.double (FP.i2d p3)), .second, .val (.double (FP.i2d p4)), .second, .val (.ref b300), .unset, .unset] [])) tq → Steps p.tables e below (s₁.setTop (entryFrame m #[(.int p1), (.int p2), (.int p3), (.int p4)] maxLocals)) tq := by
      refine fun tq kq => pre347 tq ?_
      show Steps p.tables e below (T342.setTop (mkF m 51 #[.val (.int p1), .val (.int p2), .val (.int p3), .val (.int p4), .val (.int (3 : Int32)), .val (.double (FP.i2d p2)), .second, .val (.double (FP.i2d p3)), .second, .val (.double (FP.i2d p4)), .second, .val (.ref b300), .unset, .unset] [])) _
      refine XS.iload X342.here hx rfl (hb hby at_51) rfl ?_
      show Steps p.tables e below (T342.setTop (mkF m 53 #[.val (.int p1), .val (.int p2), .val (.int p3), .val (.int p4), .val (.int (3 : Int32)), .val (.double (FP.i2d p2)), .second, .val (.double (FP.i2d p3)), .second, .val (.double (FP.i2d p4)), .second, .val (.ref b300), .unset, .unset] [(.int (3 : Int32))])) _
      refine XS.iconst X342.here hx rfl (hb hby at_53) ?_
      show Steps p.tables e below (T342.setTop (mkF m 54 #[.val (.int p1), .val (.int p2), .val (.int p3), .val (.int p4), .val (.int (3 : Int32)), .val (.double (FP.i2d p2)), .second, .val (.double (FP.i2d p3)), .second, .val (.double (FP.i2d p4)), .second, .val (.ref b300), .unset, .unset] [(.int (2 : Int32)), (.int (3 : Int32))])) _
      refine XS.icmpNo X342.here hx rfl (hb hby at_54) rfl (tlt (by decide : (2 : Int32) < (3 : Int32))).2.2.2 ?_
      exact kq
    have pre354 : ∀ tq, Steps p.tables e below (T342.setTop (mkF m 61 #[.val (.int p1), .val (.int p2), .val (.int p3), .val (.int p4), .val (.int (3 : Int32)), .val (.double (FP.i2d p2)), .second, .val (.double (FP.i2d p3)), .second, .val (.double (FP.i2d p4)), .second, .val (.ref b300), .unset, .unset] [(.double (FP.i2d p4)), (.ref b300)])) tq → Steps p.tables e below (s₁.setTop (entryFrame m #[(.int p1), (.int p2), (.int p3), (.int p4)] maxLocals)) tq := by
      refine fun tq kq => pre353 tq ?_
      show Steps p.tables e below (T342.setTop (mkF m 57 #[.val (.int p1), .val (.int p2), .val (.int p3), .val (.int p4), .val (.int (3 : Int32)), .val (.double (FP.i2d p2)), .second, .val (.double (FP.i2d p3)), .second, .val (.double (FP.i2d p4)), .second, .val (.ref b300), .unset, .unset] [])) _
      refine XS.aload X342.here hx rfl (hb hby at_57) rfl rfl ?_
      show Steps p.tables e below (T342.setTop (mkF m 59 #[.val (.int p1), .val (.int p2), .val (.int p3), .val (.int p4), .val (.int (3 : Int32)), .val (.double (FP.i2d p2)), .second, .val (.double (FP.i2d p3)), .second, .val (.double (FP.i2d p4)), .second, .val (.ref b300), .unset, .unset] [(.ref b300)])) _
      refine XS.dload X342.here hx rfl (hb hby at_59) rfl ?_
      exact kq
    have Z355 : n0 ≤ T342.heap.size := (Nat.le_trans Z342 Kq342.1)
    obtain ⟨cq355, kq355, q355a, q355b, q355c⟩ := isOf hZ rfl f348
    obtain ⟨_, _, ⟨T355, L355, k355, n355⟩, -, X355, ⟨Lc355, hQ355, l355, y355, z355⟩, st355⟩ := X342.virtualBack hx (y := (⟨"com/example/crisp_haptics/crisphaptics/SampleBlocks", "add", "(D)V"⟩ : MethodName)) (z := (⟨"com/example/crisp_haptics/crisphaptics/SampleBlocks", "add", "(D)V"⟩ : MethodName)) hown (mvT hZ (hw _ (List.mem_of_getElem? (i := 120) rfl))) (mvT hZ (hw _ (List.mem_of_getElem? (i := 121) rfl))) (notFace_of_selects (args := #[]) (mvT hZ (hw _ (List.mem_of_getElem? (i := 123) rfl)))) (mvT hZ (hw _ (List.mem_of_getElem? (i := 123) rfl))) (mvT hZ (hw _ (List.mem_of_getElem? (i := 122) rfl))) (by decide) (backOf (W := 0) (rm15_2 l Z a0 hw [] b300 (FP.i2d p4) u319 u320 u321 (FP.i2d p2) (FP.i2d p3) 0 T342.heap n0 Z355 f348 f343 f344 f345 f346 g_b300 g_u320 ne326) hZ (hw _ (List.mem_of_getElem? (i := 124) rfl)) (hw _ (List.mem_of_getElem? (i := 2) rfl)) (by decide) (by decide)) q355a q355c (g := (mkF m 61 #[.val (.int p1), .val (.int p2), .val (.int p3), .val (.int p4), .val (.int (3 : Int32)), .val (.double (FP.i2d p2)), .second, .val (.double (FP.i2d p3)), .second, .val (.double (FP.i2d p4)), .second, .val (.ref b300), .unset, .unset] [(.double (FP.i2d p4)), (.ref b300)])) rfl (by rw [hml]; rfl) (Steps.refl _) (argsL := [(.double (FP.i2d p4))]) (rest := []) (lenOf pd0_2 rfl) rfl (by show 2 * 0 + _ ≤ _; exact Nat.le_of_eq rfl) (hb hby at_61) (fun _ _ => ⟨rfl, rfl, (by decide : ((((0 + 1) + 2) + 0) + 0) + 0 ≤ _), (by decide : ((((0 + 3) + 32771) + 0) + 0) + 0 ≤ _)⟩)
    dsimp only [Pt.U, Pt.locs, Pt.cells, Pt.slots] at X355 l355 y355 z355 st355 hQ355
    subst l355 y355 z355
    obtain ⟨rfl, Nq355, Kq355, f356, f357, f358, f359, hq355⟩ := hQ355
    have N355 := Fr.app N342 Nq355
    have pre360 : ∀ tq, Steps p.tables e below (T355.setTop (mkF m 64 #[.val (.int p1), .val (.int p2), .val (.int p3), .val (.int p4), .val (.int (3 : Int32)), .val (.double (FP.i2d p2)), .second, .val (.double (FP.i2d p3)), .second, .val (.double (FP.i2d p4)), .second, .val (.ref b300), .unset, .unset] [])) tq → Steps p.tables e below (s₁.setTop (entryFrame m #[(.int p1), (.int p2), (.int p3), (.int p4)] maxLocals)) tq := fun tq kq => pre354 tq (st355.trans kq)
    have K355 : Keep h0 T355.heap [] := Keep.trans K342 Kq355 (allS (Or.inr sz_b300) (allS (Or.inr sz_u320) all0))
    have f361 := f348.keep Kq355
    have f362 := f349.keep Kq355
    have f363 := f350.keep Kq355 (by simp only [List.mem_cons, List.not_mem_nil, or_false, not_or]; exact ⟨(Ne.symm ne325), f318⟩)
    have f364 := f351.keep Kq355 (by simp only [List.mem_cons, List.not_mem_nil, or_false, not_or]; exact ⟨(Ne.symm ne325), f318⟩)
    have f365 := f352.keep Kq355 (by simp only [List.mem_cons, List.not_mem_nil, or_false, not_or]; exact ⟨(Ne.symm ne325), f318⟩)
    have pre366 : ∀ tq, Steps p.tables e below (T355.setTop (mkF m 66 #[.val (.int p1), .val (.int p2), .val (.int p3), .val (.int p4), .val (.int (3 : Int32)), .val (.double (FP.i2d p2)), .second, .val (.double (FP.i2d p3)), .second, .val (.double (FP.i2d p4)), .second, .val (.ref b300), .unset, .unset] [(.ref b300)])) tq → Steps p.tables e below (s₁.setTop (entryFrame m #[(.int p1), (.int p2), (.int p3), (.int p4)] maxLocals)) tq := by
      refine fun tq kq => pre360 tq ?_
      show Steps p.tables e below (T355.setTop (mkF m 64 #[.val (.int p1), .val (.int p2), .val (.int p3), .val (.int p4), .val (.int (3 : Int32)), .val (.double (FP.i2d p2)), .second, .val (.double (FP.i2d p3)), .second, .val (.double (FP.i2d p4)), .second, .val (.ref b300), .unset, .unset] [])) _
      refine XS.aload X355.here hx rfl (hb hby at_64) rfl rfl ?_
      exact kq
    have Z367 : n0 ≤ T355.heap.size := (Nat.le_trans Z355 Kq355.1)
    obtain ⟨cq367, kq367, q367a, q367b, q367c⟩ := isOf hZ rfl f361
    obtain ⟨_, _, ⟨T367, L367, k367, n367⟩, -, X367, ⟨Lc367, hQ367, l367, y367, z367⟩, st367⟩ := X355.virtualBack hx (y := (⟨"com/example/crisp_haptics/crisphaptics/SampleBlocks", "fitToCount", "()V"⟩ : MethodName)) (z := (⟨"com/example/crisp_haptics/crisphaptics/SampleBlocks", "fitToCount", "()V"⟩ : MethodName)) hown (mvT hZ (hw _ (List.mem_of_getElem? (i := 39) rfl))) (mvT hZ (hw _ (List.mem_of_getElem? (i := 40) rfl))) (notFace_of_selects (args := #[]) (mvT hZ (hw _ (List.mem_of_getElem? (i := 42) rfl)))) (mvT hZ (hw _ (List.mem_of_getElem? (i := 42) rfl))) (mvT hZ (hw _ (List.mem_of_getElem? (i := 41) rfl))) (by decide) (backOf (W := 0) (rm6_3 l Z a0 hw [] b300 u319 u320 u321 (FP.i2d p2) (FP.i2d p3) (FP.i2d p4) T355.heap n0 Z367 f361 f356 f357 f358 f359 g_b300) hZ (hw _ (List.mem_of_getElem? (i := 43) rfl)) (hw _ (List.mem_of_getElem? (i := 2) rfl)) (by decide) (by decide)) q367a q367c (g := (mkF m 66 #[.val (.int p1), .val (.int p2), .val (.int p3), .val (.int p4), .val (.int (3 : Int32)), .val (.double (FP.i2d p2)), .second, .val (.double (FP.i2d p3)), .second, .val (.double (FP.i2d p4)), .second, .val (.ref b300), .unset, .unset] [(.ref b300)])) rfl (by rw [hml]; rfl) (Steps.refl _) (argsL := []) (rest := []) (lenOf pd0_0 rfl) rfl (by show 2 * 0 + _ ≤ _; exact Nat.le_of_eq rfl) (hb hby at_66) (fun _ _ => ⟨rfl, rfl, (by decide : (((((0 + 1) + 2) + 0) + 0) + 0) + 1 ≤ _), (by decide : (((((0 + 3) + 32771) + 0) + 0) + 0) + 3 ≤ _)⟩)
    dsimp only [Pt.U, Pt.locs, Pt.cells, Pt.slots] at X367 l367 y367 z367 st367 hQ367
    subst l367 y367 z367
    obtain ⟨u373, u374, rfl, Nq367, Kq367, f368, f369, f370, f371, f372, hq367⟩ := hQ367
    have N367 := Fr.app N355 Nq367
    have pre375 : ∀ tq, Steps p.tables e below (T367.setTop (mkF m 69 #[.val (.int p1), .val (.int p2), .val (.int p3), .val (.int p4), .val (.int (3 : Int32)), .val (.double (FP.i2d p2)), .second, .val (.double (FP.i2d p3)), .second, .val (.double (FP.i2d p4)), .second, .val (.ref b300), .unset, .unset] [])) tq → Steps p.tables e below (s₁.setTop (entryFrame m #[(.int p1), (.int p2), (.int p3), (.int p4)] maxLocals)) tq := fun tq kq => pre366 tq (st367.trans kq)
    have K367 : Keep h0 T367.heap [] := Keep.trans K355 Kq367 (allS (Or.inr sz_b300) all0)
    have f376 := f361.keep Kq367
    have f377 := f362.keep Kq367
    have f378 := f363.keep Kq367 (by simp only [List.mem_cons, List.not_mem_nil, or_false, not_or]; exact (Ne.symm ne325))
    have f379 := f364.keep Kq367 (by simp only [List.mem_cons, List.not_mem_nil, or_false, not_or]; exact (Ne.symm ne325))
    have f380 := f365.keep Kq367 (by simp only [List.mem_cons, List.not_mem_nil, or_false, not_or]; exact (Ne.symm ne325))
    have f381 := f359.keep Kq367 (by simp only [List.mem_cons, List.not_mem_nil, or_false, not_or]; exact (Ne.symm ne326))
    have g_u373 : n0 ≤ u373 := Nat.le_trans Z367 f372
    have sz_u373 : h0.size ≤ u373 := Nat.le_trans (Nat.le_trans (Nat.le_trans (Nat.le_trans (Nat.le_trans (Nat.le_trans (Nat.le_refl h0.size) E300.1) Kq307.1) Kq329.1) Kq342.1) Kq355.1) f372
    have ne382 : b300 ≠ u373 := Nat.ne_of_lt (Nat.lt_of_lt_of_le f361.lt f372)
    have ne383 : u319 ≠ u373 := Nat.ne_of_lt (Nat.lt_of_lt_of_le f362.lt f372)
    have ne384 : u320 ≠ u373 := Nat.ne_of_lt (Nat.lt_of_lt_of_le f359.lt f372)
    have pre385 : ∀ tq, Steps p.tables e below (T367.setTop (mkF m 77 #[.val (.int p1), .val (.int p2), .val (.int p3), .val (.int p4), .val (.int (3 : Int32)), .val (.double (FP.i2d p2)), .second, .val (.double (FP.i2d p3)), .second, .val (.double (FP.i2d p4)), .second, .val (.ref b300), .val (.int (1 : Int32)), .unset] [])) tq → Steps p.tables e below (s₁.setTop (entryFrame m #[(.int p1), (.int p2), (.int p3), (.int p4)] maxLocals)) tq := by
      refine fun tq kq => pre375 tq ?_
      show Steps p.tables e below (T367.setTop (mkF m 69 #[.val (.int p1), .val (.int p2), .val (.int p3), .val (.int p4), .val (.int (3 : Int32)), .val (.double (FP.i2d p2)), .second, .val (.double (FP.i2d p3)), .second, .val (.double (FP.i2d p4)), .second, .val (.ref b300), .unset, .unset] [])) _
      refine XS.iconst X367.here hx rfl (hb hby at_69) ?_
      show Steps p.tables e below (T367.setTop (mkF m 70 #[.val (.int p1), .val (.int p2), .val (.int p3), .val (.int p4), .val (.int (3 : Int32)), .val (.double (FP.i2d p2)), .second, .val (.double (FP.i2d p3)), .second, .val (.double (FP.i2d p4)), .second, .val (.ref b300), .unset, .unset] [(.int (1 : Int32))])) _
      refine XS.istore X367.here hx rfl (hb hby at_70) rfl (l' := #[.val (.int p1), .val (.int p2), .val (.int p3), .val (.int p4), .val (.int (3 : Int32)), .val (.double (FP.i2d p2)), .second, .val (.double (FP.i2d p3)), .second, .val (.double (FP.i2d p4)), .second, .val (.ref b300), .val (.int (1 : Int32)), .unset]) rfl ?_
      show Steps p.tables e below (T367.setTop (mkF m 72 #[.val (.int p1), .val (.int p2), .val (.int p3), .val (.int p4), .val (.int (3 : Int32)), .val (.double (FP.i2d p2)), .second, .val (.double (FP.i2d p3)), .second, .val (.double (FP.i2d p4)), .second, .val (.ref b300), .val (.int (1 : Int32)), .unset] [])) _
      refine XS.iload X367.here hx rfl (hb hby at_72) rfl ?_
      show Steps p.tables e below (T367.setTop (mkF m 74 #[.val (.int p1), .val (.int p2), .val (.int p3), .val (.int p4), .val (.int (3 : Int32)), .val (.double (FP.i2d p2)), .second, .val (.double (FP.i2d p3)), .second, .val (.double (FP.i2d p4)), .second, .val (.ref b300), .val (.int (1 : Int32)), .unset] [(.int (3 : Int32))])) _
      refine XS.ifNo X367.here hx rfl (hb hby at_74) rfl ((if0 _ _).trans (tlt (by decide : (0 : Int32) < (3 : Int32))).2.2.2) ?_
      exact kq
    have pre386 : ∀ tq, Steps p.tables e below (T367.setTop (mkF m 82 #[.val (.int p1), .val (.int p2), .val (.int p3), .val (.int p4), .val (.int (3 : Int32)), .val (.double (FP.i2d p2)), .second, .val (.double (FP.i2d p3)), .second, .val (.double (FP.i2d p4)), .second, .val (.ref b300), .val (.int (1 : Int32)), .unset] [])) tq → Steps p.tables e below (s₁.setTop (entryFrame m #[(.int p1), (.int p2), (.int p3), (.int p4)] maxLocals)) tq := by
      refine fun tq kq => pre385 tq ?_
      show Steps p.tables e below (T367.setTop (mkF m 77 #[.val (.int p1), .val (.int p2), .val (.int p3), .val (.int p4), .val (.int (3 : Int32)), .val (.double (FP.i2d p2)), .second, .val (.double (FP.i2d p3)), .second, .val (.double (FP.i2d p4)), .second, .val (.ref b300), .val (.int (1 : Int32)), .unset] [])) _
      refine XS.iload X367.here hx rfl (hb hby at_77) rfl ?_
      show Steps p.tables e below (T367.setTop (mkF m 79 #[.val (.int p1), .val (.int p2), .val (.int p3), .val (.int p4), .val (.int (3 : Int32)), .val (.double (FP.i2d p2)), .second, .val (.double (FP.i2d p3)), .second, .val (.double (FP.i2d p4)), .second, .val (.ref b300), .val (.int (1 : Int32)), .unset] [(.int (1 : Int32))])) _
      refine XS.ifNo X367.here hx rfl (hb hby at_79) rfl ((if0 _ _).trans (feq (by decide : ¬ ((1 : Int32) = (0 : Int32)))).1) ?_
      exact kq
    have pre387 : ∀ tq, Steps p.tables e below (T367.setTop (mkF m 85 #[.val (.int p1), .val (.int p2), .val (.int p3), .val (.int p4), .val (.int (3 : Int32)), .val (.double (FP.i2d p2)), .second, .val (.double (FP.i2d p3)), .second, .val (.double (FP.i2d p4)), .second, .val (.ref b300), .val (.int (1 : Int32)), .unset] [(.int (0 : Int32)), (.ref b300)])) tq → Steps p.tables e below (s₁.setTop (entryFrame m #[(.int p1), (.int p2), (.int p3), (.int p4)] maxLocals)) tq := by
      refine fun tq kq => pre386 tq ?_
      show Steps p.tables e below (T367.setTop (mkF m 82 #[.val (.int p1), .val (.int p2), .val (.int p3), .val (.int p4), .val (.int (3 : Int32)), .val (.double (FP.i2d p2)), .second, .val (.double (FP.i2d p3)), .second, .val (.double (FP.i2d p4)), .second, .val (.ref b300), .val (.int (1 : Int32)), .unset] [])) _
      refine XS.aload X367.here hx rfl (hb hby at_82) rfl rfl ?_
      show Steps p.tables e below (T367.setTop (mkF m 84 #[.val (.int p1), .val (.int p2), .val (.int p3), .val (.int p4), .val (.int (3 : Int32)), .val (.double (FP.i2d p2)), .second, .val (.double (FP.i2d p3)), .second, .val (.double (FP.i2d p4)), .second, .val (.ref b300), .val (.int (1 : Int32)), .unset] [(.ref b300)])) _
      refine XS.iconst X367.here hx rfl (hb hby at_84) ?_
      exact kq
    have Z388 : n0 ≤ T367.heap.size := (Nat.le_trans Z367 Kq367.1)
    obtain ⟨cq388, kq388, q388a, q388b, q388c⟩ := isOf hZ rfl f376
    obtain ⟨_, _, ⟨T388, L388, k388, n388⟩, -, X388, ⟨Lc388, hQ388, l388, y388, z388⟩, st388⟩ := X367.virtualBack hx (y := (⟨"com/example/crisp_haptics/crisphaptics/SampleBlocks", "get", "(I)D"⟩ : MethodName)) (z := (⟨"com/example/crisp_haptics/crisphaptics/SampleBlocks", "get", "(I)D"⟩ : MethodName)) hown (mvT hZ (hw _ (List.mem_of_getElem? (i := 125) rfl))) (mvT hZ (hw _ (List.mem_of_getElem? (i := 126) rfl))) (notFace_of_selects (args := #[]) (mvT hZ (hw _ (List.mem_of_getElem? (i := 128) rfl)))) (mvT hZ (hw _ (List.mem_of_getElem? (i := 128) rfl))) (mvT hZ (hw _ (List.mem_of_getElem? (i := 127) rfl))) (by decide) (backOf (W := 0) (rm16_0_3 l Z a0 hw [] b300 u319 u373 u374 (FP.i2d p2) (FP.i2d p3) (FP.i2d p4) T367.heap n0 Z388 f370 f377 f380 f368 f371) hZ (hw _ (List.mem_of_getElem? (i := 129) rfl)) (hw _ (List.mem_of_getElem? (i := 2) rfl)) (by decide) (by decide)) q388a q388c (g := (mkF m 85 #[.val (.int p1), .val (.int p2), .val (.int p3), .val (.int p4), .val (.int (3 : Int32)), .val (.double (FP.i2d p2)), .second, .val (.double (FP.i2d p3)), .second, .val (.double (FP.i2d p4)), .second, .val (.ref b300), .val (.int (1 : Int32)), .unset] [(.int (0 : Int32)), (.ref b300)])) rfl (by rw [hml]; rfl) (Steps.refl _) (argsL := [(.int (0 : Int32))]) (rest := []) (lenOf pd0_3 rfl) rfl (by show 2 * 0 + _ ≤ _; exact Nat.le_of_eq rfl) (hb hby at_85) (fun _ _ => ⟨rfl, rfl, (by decide : ((((((0 + 1) + 2) + 0) + 0) + 0) + 1) + 0 ≤ _), (by decide : ((((((0 + 3) + 32771) + 0) + 0) + 0) + 3) + 0 ≤ _)⟩)
    dsimp only [Pt.U, Pt.locs, Pt.cells, Pt.slots] at X388 l388 y388 z388 st388 hQ388
    subst l388 y388 z388
    obtain ⟨r389, rfl, Nq388, ehq388, hq388⟩ := hQ388
    have N388 := Fr.app N367 Nq388
    have pre390 : ∀ tq, Steps p.tables e below (T388.setTop (mkF m 88 #[.val (.int p1), .val (.int p2), .val (.int p3), .val (.int p4), .val (.int (3 : Int32)), .val (.double (FP.i2d p2)), .second, .val (.double (FP.i2d p3)), .second, .val (.double (FP.i2d p4)), .second, .val (.ref b300), .val (.int (1 : Int32)), .unset] [(.double r389)])) tq → Steps p.tables e below (s₁.setTop (entryFrame m #[(.int p1), (.int p2), (.int p3), (.int p4)] maxLocals)) tq := fun tq kq => pre387 tq (st388.trans kq)
    subst hq388
    have pre391 : ∀ tq, Steps p.tables e below (T388.setTop (mkF m 94 #[.val (.int p1), .val (.int p2), .val (.int p3), .val (.int p4), .val (.int (3 : Int32)), .val (.double (FP.i2d p2)), .second, .val (.double (FP.i2d p3)), .second, .val (.double (FP.i2d p4)), .second, .val (.ref b300), .val (.int (1 : Int32)), .unset] [])) tq → Steps p.tables e below (s₁.setTop (entryFrame m #[(.int p1), (.int p2), (.int p3), (.int p4)] maxLocals)) tq := by
      refine fun tq kq => pre390 tq ?_
      show Steps p.tables e below (T388.setTop (mkF m 88 #[.val (.int p1), .val (.int p2), .val (.int p3), .val (.int p4), .val (.int (3 : Int32)), .val (.double (FP.i2d p2)), .second, .val (.double (FP.i2d p3)), .second, .val (.double (FP.i2d p4)), .second, .val (.ref b300), .val (.int (1 : Int32)), .unset] [(.double (FP.i2d p2))])) _
      refine XS.dload X388.here hx rfl (hb hby at_88) rfl ?_
      show Steps p.tables e below (T388.setTop (mkF m 90 #[.val (.int p1), .val (.int p2), .val (.int p3), .val (.int p4), .val (.int (3 : Int32)), .val (.double (FP.i2d p2)), .second, .val (.double (FP.i2d p3)), .second, .val (.double (FP.i2d p4)), .second, .val (.ref b300), .val (.int (1 : Int32)), .unset] [(.double (FP.i2d p2)), (.double (FP.i2d p2))])) _
      refine XS.dcmpS X388.here hx rfl (hb hby at_90) rfl (dcmpV_self (nn_w (i2d_w _)) _) ?_
      show Steps p.tables e below (T388.setTop (mkF m 91 #[.val (.int p1), .val (.int p2), .val (.int p3), .val (.int p4), .val (.int (3 : Int32)), .val (.double (FP.i2d p2)), .second, .val (.double (FP.i2d p3)), .second, .val (.double (FP.i2d p4)), .second, .val (.ref b300), .val (.int (1 : Int32)), .unset] [(.int (0 : Int32))])) _
      refine XS.ifNo X388.here hx rfl (hb hby at_91) rfl ((if0 _ _).trans (teq (by decide : (0 : Int32) = (0 : Int32))).2) ?_
      exact kq
    have pre392 : ∀ tq, Steps p.tables e below (T388.setTop (mkF m 107 #[.val (.int p1), .val (.int p2), .val (.int p3), .val (.int p4), .val (.int (3 : Int32)), .val (.double (FP.i2d p2)), .second, .val (.double (FP.i2d p3)), .second, .val (.double (FP.i2d p4)), .second, .val (.ref b300), .val (.int (1 : Int32)), .unset] [])) tq → Steps p.tables e below (s₁.setTop (entryFrame m #[(.int p1), (.int p2), (.int p3), (.int p4)] maxLocals)) tq := by
      refine fun tq kq => pre391 tq ?_
      show Steps p.tables e below (T388.setTop (mkF m 94 #[.val (.int p1), .val (.int p2), .val (.int p3), .val (.int p4), .val (.int (3 : Int32)), .val (.double (FP.i2d p2)), .second, .val (.double (FP.i2d p3)), .second, .val (.double (FP.i2d p4)), .second, .val (.ref b300), .val (.int (1 : Int32)), .unset] [])) _
      refine XS.iconst X388.here hx rfl (hb hby at_94) ?_
      show Steps p.tables e below (T388.setTop (mkF m 95 #[.val (.int p1), .val (.int p2), .val (.int p3), .val (.int p4), .val (.int (3 : Int32)), .val (.double (FP.i2d p2)), .second, .val (.double (FP.i2d p3)), .second, .val (.double (FP.i2d p4)), .second, .val (.ref b300), .val (.int (1 : Int32)), .unset] [(.int (1 : Int32))])) _
      refine XS.goto X388.here hx rfl (pc0 := 95) (pc' := 99) rfl (hb hby at_95) (by decide) (by decide) ?_
      show Steps p.tables e below (T388.setTop (mkF m 99 #[.val (.int p1), .val (.int p2), .val (.int p3), .val (.int p4), .val (.int (3 : Int32)), .val (.double (FP.i2d p2)), .second, .val (.double (FP.i2d p3)), .second, .val (.double (FP.i2d p4)), .second, .val (.ref b300), .val (.int (1 : Int32)), .unset] [(.int (1 : Int32))])) _
      refine XS.istore X388.here hx rfl (hb hby at_99) rfl (l' := #[.val (.int p1), .val (.int p2), .val (.int p3), .val (.int p4), .val (.int (3 : Int32)), .val (.double (FP.i2d p2)), .second, .val (.double (FP.i2d p3)), .second, .val (.double (FP.i2d p4)), .second, .val (.ref b300), .val (.int (1 : Int32)), .unset]) rfl ?_
      show Steps p.tables e below (T388.setTop (mkF m 101 #[.val (.int p1), .val (.int p2), .val (.int p3), .val (.int p4), .val (.int (3 : Int32)), .val (.double (FP.i2d p2)), .second, .val (.double (FP.i2d p3)), .second, .val (.double (FP.i2d p4)), .second, .val (.ref b300), .val (.int (1 : Int32)), .unset] [])) _
      refine XS.iload X388.here hx rfl (hb hby at_101) rfl ?_
      show Steps p.tables e below (T388.setTop (mkF m 103 #[.val (.int p1), .val (.int p2), .val (.int p3), .val (.int p4), .val (.int (3 : Int32)), .val (.double (FP.i2d p2)), .second, .val (.double (FP.i2d p3)), .second, .val (.double (FP.i2d p4)), .second, .val (.ref b300), .val (.int (1 : Int32)), .unset] [(.int (3 : Int32))])) _
      refine XS.iconst X388.here hx rfl (hb hby at_103) ?_
      show Steps p.tables e below (T388.setTop (mkF m 104 #[.val (.int p1), .val (.int p2), .val (.int p3), .val (.int p4), .val (.int (3 : Int32)), .val (.double (FP.i2d p2)), .second, .val (.double (FP.i2d p3)), .second, .val (.double (FP.i2d p4)), .second, .val (.ref b300), .val (.int (1 : Int32)), .unset] [(.int (1 : Int32)), (.int (3 : Int32))])) _
      refine XS.icmpNo X388.here hx rfl (hb hby at_104) rfl (tlt (by decide : (1 : Int32) < (3 : Int32))).2.2.2 ?_
      exact kq
    have pre393 : ∀ tq, Steps p.tables e below (T388.setTop (mkF m 112 #[.val (.int p1), .val (.int p2), .val (.int p3), .val (.int p4), .val (.int (3 : Int32)), .val (.double (FP.i2d p2)), .second, .val (.double (FP.i2d p3)), .second, .val (.double (FP.i2d p4)), .second, .val (.ref b300), .val (.int (1 : Int32)), .unset] [])) tq → Steps p.tables e below (s₁.setTop (entryFrame m #[(.int p1), (.int p2), (.int p3), (.int p4)] maxLocals)) tq := by
      refine fun tq kq => pre392 tq ?_
      show Steps p.tables e below (T388.setTop (mkF m 107 #[.val (.int p1), .val (.int p2), .val (.int p3), .val (.int p4), .val (.int (3 : Int32)), .val (.double (FP.i2d p2)), .second, .val (.double (FP.i2d p3)), .second, .val (.double (FP.i2d p4)), .second, .val (.ref b300), .val (.int (1 : Int32)), .unset] [])) _
      refine XS.iload X388.here hx rfl (hb hby at_107) rfl ?_
      show Steps p.tables e below (T388.setTop (mkF m 109 #[.val (.int p1), .val (.int p2), .val (.int p3), .val (.int p4), .val (.int (3 : Int32)), .val (.double (FP.i2d p2)), .second, .val (.double (FP.i2d p3)), .second, .val (.double (FP.i2d p4)), .second, .val (.ref b300), .val (.int (1 : Int32)), .unset] [(.int (1 : Int32))])) _
      refine XS.ifNo X388.here hx rfl (hb hby at_109) rfl ((if0 _ _).trans (feq (by decide : ¬ ((1 : Int32) = (0 : Int32)))).1) ?_
      exact kq
    have pre394 : ∀ tq, Steps p.tables e below (T388.setTop (mkF m 115 #[.val (.int p1), .val (.int p2), .val (.int p3), .val (.int p4), .val (.int (3 : Int32)), .val (.double (FP.i2d p2)), .second, .val (.double (FP.i2d p3)), .second, .val (.double (FP.i2d p4)), .second, .val (.ref b300), .val (.int (1 : Int32)), .unset] [(.int (1 : Int32)), (.ref b300)])) tq → Steps p.tables e below (s₁.setTop (entryFrame m #[(.int p1), (.int p2), (.int p3), (.int p4)] maxLocals)) tq := by
      refine fun tq kq => pre393 tq ?_
      show Steps p.tables e below (T388.setTop (mkF m 112 #[.val (.int p1), .val (.int p2), .val (.int p3), .val (.int p4), .val (.int (3 : Int32)), .val (.double (FP.i2d p2)), .second, .val (.double (FP.i2d p3)), .second, .val (.double (FP.i2d p4)), .second, .val (.ref b300), .val (.int (1 : Int32)), .unset] [])) _
      refine XS.aload X388.here hx rfl (hb hby at_112) rfl rfl ?_
      show Steps p.tables e below (T388.setTop (mkF m 114 #[.val (.int p1), .val (.int p2), .val (.int p3), .val (.int p4), .val (.int (3 : Int32)), .val (.double (FP.i2d p2)), .second, .val (.double (FP.i2d p3)), .second, .val (.double (FP.i2d p4)), .second, .val (.ref b300), .val (.int (1 : Int32)), .unset] [(.ref b300)])) _
      refine XS.iconst X388.here hx rfl (hb hby at_114) ?_
      exact kq
    have Z395 : n0 ≤ T367.heap.size := (Nat.le_trans Z367 Kq367.1)
    obtain ⟨cq395, kq395, q395a, q395b, q395c⟩ := isOf hZ ehq388 f376
    obtain ⟨_, _, ⟨T395, L395, k395, n395⟩, -, X395, ⟨Lc395, hQ395, l395, y395, z395⟩, st395⟩ := X388.virtualBack hx (y := (⟨"com/example/crisp_haptics/crisphaptics/SampleBlocks", "get", "(I)D"⟩ : MethodName)) (z := (⟨"com/example/crisp_haptics/crisphaptics/SampleBlocks", "get", "(I)D"⟩ : MethodName)) hown (mvT hZ (hw _ (List.mem_of_getElem? (i := 125) rfl))) (mvT hZ (hw _ (List.mem_of_getElem? (i := 126) rfl))) (notFace_of_selects (args := #[]) (mvT hZ (hw _ (List.mem_of_getElem? (i := 128) rfl)))) (mvT hZ (hw _ (List.mem_of_getElem? (i := 128) rfl))) (mvT hZ (hw _ (List.mem_of_getElem? (i := 127) rfl))) (by decide) (backOf (W := 0) (rm16_1_3 l Z a0 hw [] b300 u319 u373 u374 (FP.i2d p2) (FP.i2d p3) (FP.i2d p4) T367.heap n0 Z395 f370 f377 f380 f368 f371) hZ (hw _ (List.mem_of_getElem? (i := 129) rfl)) (hw _ (List.mem_of_getElem? (i := 2) rfl)) (by decide) (by decide)) q395a q395c (g := (mkF m 115 #[.val (.int p1), .val (.int p2), .val (.int p3), .val (.int p4), .val (.int (3 : Int32)), .val (.double (FP.i2d p2)), .second, .val (.double (FP.i2d p3)), .second, .val (.double (FP.i2d p4)), .second, .val (.ref b300), .val (.int (1 : Int32)), .unset] [(.int (1 : Int32)), (.ref b300)])) rfl (by rw [hml]; rfl) (Steps.refl _) (argsL := [(.int (1 : Int32))]) (rest := []) (lenOf pd0_3 rfl) rfl (by show 2 * 0 + _ ≤ _; exact Nat.le_of_eq rfl) (hb hby at_115) (fun _ _ => ⟨rfl, ehq388, (by decide : (((((((0 + 1) + 2) + 0) + 0) + 0) + 1) + 0) + 0 ≤ _), (by decide : (((((((0 + 3) + 32771) + 0) + 0) + 0) + 3) + 0) + 0 ≤ _)⟩)
    dsimp only [Pt.U, Pt.locs, Pt.cells, Pt.slots] at X395 l395 y395 z395 st395 hQ395
    subst l395 y395 z395
    obtain ⟨r396, rfl, Nq395, ehq395, hq395⟩ := hQ395
    have N395 := Fr.app N388 Nq395
    have pre397 : ∀ tq, Steps p.tables e below (T395.setTop (mkF m 118 #[.val (.int p1), .val (.int p2), .val (.int p3), .val (.int p4), .val (.int (3 : Int32)), .val (.double (FP.i2d p2)), .second, .val (.double (FP.i2d p3)), .second, .val (.double (FP.i2d p4)), .second, .val (.ref b300), .val (.int (1 : Int32)), .unset] [(.double r396)])) tq → Steps p.tables e below (s₁.setTop (entryFrame m #[(.int p1), (.int p2), (.int p3), (.int p4)] maxLocals)) tq := fun tq kq => pre394 tq (st395.trans kq)
    subst hq395
    have pre398 : ∀ tq, Steps p.tables e below (T395.setTop (mkF m 124 #[.val (.int p1), .val (.int p2), .val (.int p3), .val (.int p4), .val (.int (3 : Int32)), .val (.double (FP.i2d p2)), .second, .val (.double (FP.i2d p3)), .second, .val (.double (FP.i2d p4)), .second, .val (.ref b300), .val (.int (1 : Int32)), .unset] [])) tq → Steps p.tables e below (s₁.setTop (entryFrame m #[(.int p1), (.int p2), (.int p3), (.int p4)] maxLocals)) tq := by
      refine fun tq kq => pre397 tq ?_
      show Steps p.tables e below (T395.setTop (mkF m 118 #[.val (.int p1), .val (.int p2), .val (.int p3), .val (.int p4), .val (.int (3 : Int32)), .val (.double (FP.i2d p2)), .second, .val (.double (FP.i2d p3)), .second, .val (.double (FP.i2d p4)), .second, .val (.ref b300), .val (.int (1 : Int32)), .unset] [(.double (FP.i2d p3))])) _
      refine XS.dload X395.here hx rfl (hb hby at_118) rfl ?_
      show Steps p.tables e below (T395.setTop (mkF m 120 #[.val (.int p1), .val (.int p2), .val (.int p3), .val (.int p4), .val (.int (3 : Int32)), .val (.double (FP.i2d p2)), .second, .val (.double (FP.i2d p3)), .second, .val (.double (FP.i2d p4)), .second, .val (.ref b300), .val (.int (1 : Int32)), .unset] [(.double (FP.i2d p3)), (.double (FP.i2d p3))])) _
      refine XS.dcmpS X395.here hx rfl (hb hby at_120) rfl (dcmpV_self (nn_w (i2d_w _)) _) ?_
      show Steps p.tables e below (T395.setTop (mkF m 121 #[.val (.int p1), .val (.int p2), .val (.int p3), .val (.int p4), .val (.int (3 : Int32)), .val (.double (FP.i2d p2)), .second, .val (.double (FP.i2d p3)), .second, .val (.double (FP.i2d p4)), .second, .val (.ref b300), .val (.int (1 : Int32)), .unset] [(.int (0 : Int32))])) _
      refine XS.ifNo X395.here hx rfl (hb hby at_121) rfl ((if0 _ _).trans (teq (by decide : (0 : Int32) = (0 : Int32))).2) ?_
      exact kq
    have pre399 : ∀ tq, Steps p.tables e below (T395.setTop (mkF m 137 #[.val (.int p1), .val (.int p2), .val (.int p3), .val (.int p4), .val (.int (3 : Int32)), .val (.double (FP.i2d p2)), .second, .val (.double (FP.i2d p3)), .second, .val (.double (FP.i2d p4)), .second, .val (.ref b300), .val (.int (1 : Int32)), .unset] [])) tq → Steps p.tables e below (s₁.setTop (entryFrame m #[(.int p1), (.int p2), (.int p3), (.int p4)] maxLocals)) tq := by
      refine fun tq kq => pre398 tq ?_
      show Steps p.tables e below (T395.setTop (mkF m 124 #[.val (.int p1), .val (.int p2), .val (.int p3), .val (.int p4), .val (.int (3 : Int32)), .val (.double (FP.i2d p2)), .second, .val (.double (FP.i2d p3)), .second, .val (.double (FP.i2d p4)), .second, .val (.ref b300), .val (.int (1 : Int32)), .unset] [])) _
      refine XS.iconst X395.here hx rfl (hb hby at_124) ?_
      show Steps p.tables e below (T395.setTop (mkF m 125 #[.val (.int p1), .val (.int p2), .val (.int p3), .val (.int p4), .val (.int (3 : Int32)), .val (.double (FP.i2d p2)), .second, .val (.double (FP.i2d p3)), .second, .val (.double (FP.i2d p4)), .second, .val (.ref b300), .val (.int (1 : Int32)), .unset] [(.int (1 : Int32))])) _
      refine XS.goto X395.here hx rfl (pc0 := 125) (pc' := 129) rfl (hb hby at_125) (by decide) (by decide) ?_
      show Steps p.tables e below (T395.setTop (mkF m 129 #[.val (.int p1), .val (.int p2), .val (.int p3), .val (.int p4), .val (.int (3 : Int32)), .val (.double (FP.i2d p2)), .second, .val (.double (FP.i2d p3)), .second, .val (.double (FP.i2d p4)), .second, .val (.ref b300), .val (.int (1 : Int32)), .unset] [(.int (1 : Int32))])) _
      refine XS.istore X395.here hx rfl (hb hby at_129) rfl (l' := #[.val (.int p1), .val (.int p2), .val (.int p3), .val (.int p4), .val (.int (3 : Int32)), .val (.double (FP.i2d p2)), .second, .val (.double (FP.i2d p3)), .second, .val (.double (FP.i2d p4)), .second, .val (.ref b300), .val (.int (1 : Int32)), .unset]) rfl ?_
      show Steps p.tables e below (T395.setTop (mkF m 131 #[.val (.int p1), .val (.int p2), .val (.int p3), .val (.int p4), .val (.int (3 : Int32)), .val (.double (FP.i2d p2)), .second, .val (.double (FP.i2d p3)), .second, .val (.double (FP.i2d p4)), .second, .val (.ref b300), .val (.int (1 : Int32)), .unset] [])) _
      refine XS.iload X395.here hx rfl (hb hby at_131) rfl ?_
      show Steps p.tables e below (T395.setTop (mkF m 133 #[.val (.int p1), .val (.int p2), .val (.int p3), .val (.int p4), .val (.int (3 : Int32)), .val (.double (FP.i2d p2)), .second, .val (.double (FP.i2d p3)), .second, .val (.double (FP.i2d p4)), .second, .val (.ref b300), .val (.int (1 : Int32)), .unset] [(.int (3 : Int32))])) _
      refine XS.iconst X395.here hx rfl (hb hby at_133) ?_
      show Steps p.tables e below (T395.setTop (mkF m 134 #[.val (.int p1), .val (.int p2), .val (.int p3), .val (.int p4), .val (.int (3 : Int32)), .val (.double (FP.i2d p2)), .second, .val (.double (FP.i2d p3)), .second, .val (.double (FP.i2d p4)), .second, .val (.ref b300), .val (.int (1 : Int32)), .unset] [(.int (2 : Int32)), (.int (3 : Int32))])) _
      refine XS.icmpNo X395.here hx rfl (hb hby at_134) rfl (tlt (by decide : (2 : Int32) < (3 : Int32))).2.2.2 ?_
      exact kq
    have pre400 : ∀ tq, Steps p.tables e below (T395.setTop (mkF m 142 #[.val (.int p1), .val (.int p2), .val (.int p3), .val (.int p4), .val (.int (3 : Int32)), .val (.double (FP.i2d p2)), .second, .val (.double (FP.i2d p3)), .second, .val (.double (FP.i2d p4)), .second, .val (.ref b300), .val (.int (1 : Int32)), .unset] [])) tq → Steps p.tables e below (s₁.setTop (entryFrame m #[(.int p1), (.int p2), (.int p3), (.int p4)] maxLocals)) tq := by
      refine fun tq kq => pre399 tq ?_
      show Steps p.tables e below (T395.setTop (mkF m 137 #[.val (.int p1), .val (.int p2), .val (.int p3), .val (.int p4), .val (.int (3 : Int32)), .val (.double (FP.i2d p2)), .second, .val (.double (FP.i2d p3)), .second, .val (.double (FP.i2d p4)), .second, .val (.ref b300), .val (.int (1 : Int32)), .unset] [])) _
      refine XS.iload X395.here hx rfl (hb hby at_137) rfl ?_
      show Steps p.tables e below (T395.setTop (mkF m 139 #[.val (.int p1), .val (.int p2), .val (.int p3), .val (.int p4), .val (.int (3 : Int32)), .val (.double (FP.i2d p2)), .second, .val (.double (FP.i2d p3)), .second, .val (.double (FP.i2d p4)), .second, .val (.ref b300), .val (.int (1 : Int32)), .unset] [(.int (1 : Int32))])) _
      refine XS.ifNo X395.here hx rfl (hb hby at_139) rfl ((if0 _ _).trans (feq (by decide : ¬ ((1 : Int32) = (0 : Int32)))).1) ?_
      exact kq
    have pre401 : ∀ tq, Steps p.tables e below (T395.setTop (mkF m 145 #[.val (.int p1), .val (.int p2), .val (.int p3), .val (.int p4), .val (.int (3 : Int32)), .val (.double (FP.i2d p2)), .second, .val (.double (FP.i2d p3)), .second, .val (.double (FP.i2d p4)), .second, .val (.ref b300), .val (.int (1 : Int32)), .unset] [(.int (2 : Int32)), (.ref b300)])) tq → Steps p.tables e below (s₁.setTop (entryFrame m #[(.int p1), (.int p2), (.int p3), (.int p4)] maxLocals)) tq := by
      refine fun tq kq => pre400 tq ?_
      show Steps p.tables e below (T395.setTop (mkF m 142 #[.val (.int p1), .val (.int p2), .val (.int p3), .val (.int p4), .val (.int (3 : Int32)), .val (.double (FP.i2d p2)), .second, .val (.double (FP.i2d p3)), .second, .val (.double (FP.i2d p4)), .second, .val (.ref b300), .val (.int (1 : Int32)), .unset] [])) _
      refine XS.aload X395.here hx rfl (hb hby at_142) rfl rfl ?_
      show Steps p.tables e below (T395.setTop (mkF m 144 #[.val (.int p1), .val (.int p2), .val (.int p3), .val (.int p4), .val (.int (3 : Int32)), .val (.double (FP.i2d p2)), .second, .val (.double (FP.i2d p3)), .second, .val (.double (FP.i2d p4)), .second, .val (.ref b300), .val (.int (1 : Int32)), .unset] [(.ref b300)])) _
      refine XS.iconst X395.here hx rfl (hb hby at_144) ?_
      exact kq
    have Z402 : n0 ≤ T367.heap.size := (Nat.le_trans Z367 Kq367.1)
    obtain ⟨cq402, kq402, q402a, q402b, q402c⟩ := isOf hZ ehq395 f376
    obtain ⟨_, _, ⟨T402, L402, k402, n402⟩, -, X402, ⟨Lc402, hQ402, l402, y402, z402⟩, st402⟩ := X395.virtualBack hx (y := (⟨"com/example/crisp_haptics/crisphaptics/SampleBlocks", "get", "(I)D"⟩ : MethodName)) (z := (⟨"com/example/crisp_haptics/crisphaptics/SampleBlocks", "get", "(I)D"⟩ : MethodName)) hown (mvT hZ (hw _ (List.mem_of_getElem? (i := 125) rfl))) (mvT hZ (hw _ (List.mem_of_getElem? (i := 126) rfl))) (notFace_of_selects (args := #[]) (mvT hZ (hw _ (List.mem_of_getElem? (i := 128) rfl)))) (mvT hZ (hw _ (List.mem_of_getElem? (i := 128) rfl))) (mvT hZ (hw _ (List.mem_of_getElem? (i := 127) rfl))) (by decide) (backOf (W := 0) (rm16_2_3 l Z a0 hw [] b300 u319 u373 u374 (FP.i2d p2) (FP.i2d p3) (FP.i2d p4) T367.heap n0 Z402 f370 f377 f380 f368 f371) hZ (hw _ (List.mem_of_getElem? (i := 129) rfl)) (hw _ (List.mem_of_getElem? (i := 2) rfl)) (by decide) (by decide)) q402a q402c (g := (mkF m 145 #[.val (.int p1), .val (.int p2), .val (.int p3), .val (.int p4), .val (.int (3 : Int32)), .val (.double (FP.i2d p2)), .second, .val (.double (FP.i2d p3)), .second, .val (.double (FP.i2d p4)), .second, .val (.ref b300), .val (.int (1 : Int32)), .unset] [(.int (2 : Int32)), (.ref b300)])) rfl (by rw [hml]; rfl) (Steps.refl _) (argsL := [(.int (2 : Int32))]) (rest := []) (lenOf pd0_3 rfl) rfl (by show 2 * 0 + _ ≤ _; exact Nat.le_of_eq rfl) (hb hby at_145) (fun _ _ => ⟨rfl, ehq395, (by decide : ((((((((0 + 1) + 2) + 0) + 0) + 0) + 1) + 0) + 0) + 0 ≤ _), (by decide : ((((((((0 + 3) + 32771) + 0) + 0) + 0) + 3) + 0) + 0) + 0 ≤ _)⟩)
    dsimp only [Pt.U, Pt.locs, Pt.cells, Pt.slots] at X402 l402 y402 z402 st402 hQ402
    subst l402 y402 z402
    obtain ⟨r403, rfl, Nq402, ehq402, hq402⟩ := hQ402
    have N402 := Fr.app N395 Nq402
    have pre404 : ∀ tq, Steps p.tables e below (T402.setTop (mkF m 148 #[.val (.int p1), .val (.int p2), .val (.int p3), .val (.int p4), .val (.int (3 : Int32)), .val (.double (FP.i2d p2)), .second, .val (.double (FP.i2d p3)), .second, .val (.double (FP.i2d p4)), .second, .val (.ref b300), .val (.int (1 : Int32)), .unset] [(.double r403)])) tq → Steps p.tables e below (s₁.setTop (entryFrame m #[(.int p1), (.int p2), (.int p3), (.int p4)] maxLocals)) tq := fun tq kq => pre401 tq (st402.trans kq)
    subst hq402
    have pre405 : ∀ tq, Steps p.tables e below (T402.setTop (mkF m 154 #[.val (.int p1), .val (.int p2), .val (.int p3), .val (.int p4), .val (.int (3 : Int32)), .val (.double (FP.i2d p2)), .second, .val (.double (FP.i2d p3)), .second, .val (.double (FP.i2d p4)), .second, .val (.ref b300), .val (.int (1 : Int32)), .unset] [])) tq → Steps p.tables e below (s₁.setTop (entryFrame m #[(.int p1), (.int p2), (.int p3), (.int p4)] maxLocals)) tq := by
      refine fun tq kq => pre404 tq ?_
      show Steps p.tables e below (T402.setTop (mkF m 148 #[.val (.int p1), .val (.int p2), .val (.int p3), .val (.int p4), .val (.int (3 : Int32)), .val (.double (FP.i2d p2)), .second, .val (.double (FP.i2d p3)), .second, .val (.double (FP.i2d p4)), .second, .val (.ref b300), .val (.int (1 : Int32)), .unset] [(.double (FP.i2d p4))])) _
      refine XS.dload X402.here hx rfl (hb hby at_148) rfl ?_
      show Steps p.tables e below (T402.setTop (mkF m 150 #[.val (.int p1), .val (.int p2), .val (.int p3), .val (.int p4), .val (.int (3 : Int32)), .val (.double (FP.i2d p2)), .second, .val (.double (FP.i2d p3)), .second, .val (.double (FP.i2d p4)), .second, .val (.ref b300), .val (.int (1 : Int32)), .unset] [(.double (FP.i2d p4)), (.double (FP.i2d p4))])) _
      refine XS.dcmpS X402.here hx rfl (hb hby at_150) rfl (dcmpV_self (nn_w (i2d_w _)) _) ?_
      show Steps p.tables e below (T402.setTop (mkF m 151 #[.val (.int p1), .val (.int p2), .val (.int p3), .val (.int p4), .val (.int (3 : Int32)), .val (.double (FP.i2d p2)), .second, .val (.double (FP.i2d p3)), .second, .val (.double (FP.i2d p4)), .second, .val (.ref b300), .val (.int (1 : Int32)), .unset] [(.int (0 : Int32))])) _
      refine XS.ifNo X402.here hx rfl (hb hby at_151) rfl ((if0 _ _).trans (teq (by decide : (0 : Int32) = (0 : Int32))).2) ?_
      exact kq
    have pre406 : ∀ tq, Steps p.tables e below (T402.setTop (mkF m 163 #[.val (.int p1), .val (.int p2), .val (.int p3), .val (.int p4), .val (.int (3 : Int32)), .val (.double (FP.i2d p2)), .second, .val (.double (FP.i2d p3)), .second, .val (.double (FP.i2d p4)), .second, .val (.ref b300), .val (.int (1 : Int32)), .unset] [(.ref b300)])) tq → Steps p.tables e below (s₁.setTop (entryFrame m #[(.int p1), (.int p2), (.int p3), (.int p4)] maxLocals)) tq := by
      refine fun tq kq => pre405 tq ?_
      show Steps p.tables e below (T402.setTop (mkF m 154 #[.val (.int p1), .val (.int p2), .val (.int p3), .val (.int p4), .val (.int (3 : Int32)), .val (.double (FP.i2d p2)), .second, .val (.double (FP.i2d p3)), .second, .val (.double (FP.i2d p4)), .second, .val (.ref b300), .val (.int (1 : Int32)), .unset] [])) _
      refine XS.iconst X402.here hx rfl (hb hby at_154) ?_
      show Steps p.tables e below (T402.setTop (mkF m 155 #[.val (.int p1), .val (.int p2), .val (.int p3), .val (.int p4), .val (.int (3 : Int32)), .val (.double (FP.i2d p2)), .second, .val (.double (FP.i2d p3)), .second, .val (.double (FP.i2d p4)), .second, .val (.ref b300), .val (.int (1 : Int32)), .unset] [(.int (1 : Int32))])) _
      refine XS.goto X402.here hx rfl (pc0 := 155) (pc' := 159) rfl (hb hby at_155) (by decide) (by decide) ?_
      show Steps p.tables e below (T402.setTop (mkF m 159 #[.val (.int p1), .val (.int p2), .val (.int p3), .val (.int p4), .val (.int (3 : Int32)), .val (.double (FP.i2d p2)), .second, .val (.double (FP.i2d p3)), .second, .val (.double (FP.i2d p4)), .second, .val (.ref b300), .val (.int (1 : Int32)), .unset] [(.int (1 : Int32))])) _
      refine XS.istore X402.here hx rfl (hb hby at_159) rfl (l' := #[.val (.int p1), .val (.int p2), .val (.int p3), .val (.int p4), .val (.int (3 : Int32)), .val (.double (FP.i2d p2)), .second, .val (.double (FP.i2d p3)), .second, .val (.double (FP.i2d p4)), .second, .val (.ref b300), .val (.int (1 : Int32)), .unset]) rfl ?_
      show Steps p.tables e below (T402.setTop (mkF m 161 #[.val (.int p1), .val (.int p2), .val (.int p3), .val (.int p4), .val (.int (3 : Int32)), .val (.double (FP.i2d p2)), .second, .val (.double (FP.i2d p3)), .second, .val (.double (FP.i2d p4)), .second, .val (.ref b300), .val (.int (1 : Int32)), .unset] [])) _
      refine XS.aload X402.here hx rfl (hb hby at_161) rfl rfl ?_
      exact kq
    have Z407 : n0 ≤ T367.heap.size := (Nat.le_trans Z367 Kq367.1)
    obtain ⟨cq407, kq407, q407a, q407b, q407c⟩ := isOf hZ ehq402 f376
    obtain ⟨_, _, ⟨T407, L407, k407, n407⟩, -, X407, ⟨Lc407, hQ407, l407, y407, z407⟩, st407⟩ := X402.virtualBack hx (y := (⟨"com/example/crisp_haptics/crisphaptics/SampleBlocks", "moveToArray", "()[D"⟩ : MethodName)) (z := (⟨"com/example/crisp_haptics/crisphaptics/SampleBlocks", "moveToArray", "()[D"⟩ : MethodName)) hown (mvT hZ (hw _ (List.mem_of_getElem? (i := 58) rfl))) (mvT hZ (hw _ (List.mem_of_getElem? (i := 59) rfl))) (notFace_of_selects (args := #[]) (mvT hZ (hw _ (List.mem_of_getElem? (i := 61) rfl)))) (mvT hZ (hw _ (List.mem_of_getElem? (i := 61) rfl))) (mvT hZ (hw _ (List.mem_of_getElem? (i := 60) rfl))) (by decide) (backOf (W := 0) (rm9_3 l Z a0 hw [] b300 u319 u373 u374 sD (FP.i2d p2) (FP.i2d p3) (FP.i2d p4) T367.heap n0 Z407 f376 f370 f369 f368 f371 f377 f378 f379 f380 g_b300 g_u319 ne325 ne382 ne383) hZ (hw _ (List.mem_of_getElem? (i := 62) rfl)) (hw _ (List.mem_of_getElem? (i := 2) rfl)) (by decide) (by decide)) q407a q407c (g := (mkF m 163 #[.val (.int p1), .val (.int p2), .val (.int p3), .val (.int p4), .val (.int (3 : Int32)), .val (.double (FP.i2d p2)), .second, .val (.double (FP.i2d p3)), .second, .val (.double (FP.i2d p4)), .second, .val (.ref b300), .val (.int (1 : Int32)), .unset] [(.ref b300)])) rfl (by rw [hml]; rfl) (Steps.refl _) (argsL := []) (rest := []) (lenOf pd0_1 rfl) rfl (by show 2 * 0 + _ ≤ _; exact Nat.le_of_eq rfl) (hb hby at_163) (fun _ _ => ⟨rfl, ehq402, (by decide : (((((((((0 + 1) + 2) + 0) + 0) + 0) + 1) + 0) + 0) + 0) + 2 ≤ _), (by decide : (((((((((0 + 3) + 32771) + 0) + 0) + 0) + 3) + 0) + 0) + 0) + 7 ≤ _)⟩)
    dsimp only [Pt.U, Pt.locs, Pt.cells, Pt.slots] at X407 l407 y407 z407 st407 hQ407
    subst l407 y407 z407
    obtain ⟨r408, u411, rfl, Nq407, Kq407, f409, f410, hq407⟩ := hQ407
    have N407 := Fr.app N402 Nq407
    have pre412 : ∀ tq, Steps p.tables e below (T407.setTop (mkF m 166 #[.val (.int p1), .val (.int p2), .val (.int p3), .val (.int p4), .val (.int (3 : Int32)), .val (.double (FP.i2d p2)), .second, .val (.double (FP.i2d p3)), .second, .val (.double (FP.i2d p4)), .second, .val (.ref b300), .val (.int (1 : Int32)), .unset] [(.ref r408)])) tq → Steps p.tables e below (s₁.setTop (entryFrame m #[(.int p1), (.int p2), (.int p3), (.int p4)] maxLocals)) tq := fun tq kq => pre406 tq (st407.trans kq)
    have K407 : Keep h0 T407.heap [] := Keep.trans K367 Kq407 (allS (Or.inr sz_b300) (allS (Or.inr sz_u319) all0))
    have f413 := f376.keep Kq407
    have f414 := f377.keep Kq407
    have f415 := f381.keep Kq407 (by simp only [List.mem_cons, List.not_mem_nil, or_false, not_or]; exact ⟨(Ne.symm ne326), (Ne.symm f318)⟩)
    have f416 := f371.keep Kq407 (by simp only [List.mem_cons, List.not_mem_nil, or_false, not_or]; exact ⟨(Ne.symm ne382), (Ne.symm ne383)⟩)
    have g_r408 : n0 ≤ r408 := Nat.le_trans Z407 f410
    have sz_r408 : h0.size ≤ r408 := Nat.le_trans (Nat.le_trans (Nat.le_trans (Nat.le_trans (Nat.le_trans (Nat.le_trans (Nat.le_trans (Nat.le_refl h0.size) E300.1) Kq307.1) Kq329.1) Kq342.1) Kq355.1) Kq367.1) f410
    have ne417 : b300 ≠ r408 := Nat.ne_of_lt (Nat.lt_of_lt_of_le f376.lt f410)
    have ne418 : u319 ≠ r408 := Nat.ne_of_lt (Nat.lt_of_lt_of_le f377.lt f410)
    have ne419 : u320 ≠ r408 := Nat.ne_of_lt (Nat.lt_of_lt_of_le f381.lt f410)
    have ne420 : u373 ≠ r408 := Nat.ne_of_lt (Nat.lt_of_lt_of_le f371.lt f410)
    have pre421 : ∀ tq, Steps p.tables e below (T407.setTop (mkF m 170 #[.val (.int p1), .val (.int p2), .val (.int p3), .val (.int p4), .val (.int (3 : Int32)), .val (.double (FP.i2d p2)), .second, .val (.double (FP.i2d p3)), .second, .val (.double (FP.i2d p4)), .second, .val (.ref b300), .val (.int (1 : Int32)), .val (.ref r408)] [(.ref r408)])) tq → Steps p.tables e below (s₁.setTop (entryFrame m #[(.int p1), (.int p2), (.int p3), (.int p4)] maxLocals)) tq := by
      refine fun tq kq => pre412 tq ?_
      show Steps p.tables e below (T407.setTop (mkF m 166 #[.val (.int p1), .val (.int p2), .val (.int p3), .val (.int p4), .val (.int (3 : Int32)), .val (.double (FP.i2d p2)), .second, .val (.double (FP.i2d p3)), .second, .val (.double (FP.i2d p4)), .second, .val (.ref b300), .val (.int (1 : Int32)), .unset] [(.ref r408)])) _
      refine XS.astore X407.here hx rfl (hb hby at_166) rfl rfl (l' := #[.val (.int p1), .val (.int p2), .val (.int p3), .val (.int p4), .val (.int (3 : Int32)), .val (.double (FP.i2d p2)), .second, .val (.double (FP.i2d p3)), .second, .val (.double (FP.i2d p4)), .second, .val (.ref b300), .val (.int (1 : Int32)), .val (.ref r408)]) rfl ?_
      show Steps p.tables e below (T407.setTop (mkF m 168 #[.val (.int p1), .val (.int p2), .val (.int p3), .val (.int p4), .val (.int (3 : Int32)), .val (.double (FP.i2d p2)), .second, .val (.double (FP.i2d p3)), .second, .val (.double (FP.i2d p4)), .second, .val (.ref b300), .val (.int (1 : Int32)), .val (.ref r408)] [])) _
      refine XS.aload X407.here hx rfl (hb hby at_168) rfl rfl ?_
      exact kq
    have Vc422 := f409
    obtain ⟨cl422, Ar422, Aq422, As422, An422, Ah422, Ag422⟩ := Vc422
    have pre423 : ∀ tq, Steps p.tables e below (T407.setTop (mkF m 171 #[.val (.int p1), .val (.int p2), .val (.int p3), .val (.int p4), .val (.int (3 : Int32)), .val (.double (FP.i2d p2)), .second, .val (.double (FP.i2d p3)), .second, .val (.double (FP.i2d p4)), .second, .val (.ref b300), .val (.int (1 : Int32)), .val (.ref r408)] [(.int (3 : Int32))])) tq → Steps p.tables e below (s₁.setTop (entryFrame m #[(.int p1), (.int p2), (.int p3), (.int p4)] maxLocals)) tq := fun tq kq => pre421 tq (X407.arraylength hx Ar422.1 (State.isArrayOf_alike hZ.alike Ar422.2.1) (g := (mkF m 170 #[.val (.int p1), .val (.int p2), .val (.int p3), .val (.int p4), .val (.int (3 : Int32)), .val (.double (FP.i2d p2)), .second, .val (.double (FP.i2d p3)), .second, .val (.double (FP.i2d p4)), .second, .val (.ref b300), .val (.int (1 : Int32)), .val (.ref r408)] [(.ref r408)])) rfl rfl (hb hby at_170) _ (by rw [len_of As422 An422]; exact kq))
    have pre424 : ∀ tq, Steps p.tables e below (T407.setTop (mkF m 178 #[.val (.int p1), .val (.int p2), .val (.int p3), .val (.int p4), .val (.int (3 : Int32)), .val (.double (FP.i2d p2)), .second, .val (.double (FP.i2d p3)), .second, .val (.double (FP.i2d p4)), .second, .val (.ref b300), .val (.int (1 : Int32)), .val (.ref r408)] [])) tq → Steps p.tables e below (s₁.setTop (entryFrame m #[(.int p1), (.int p2), (.int p3), (.int p4)] maxLocals)) tq := by
      refine fun tq kq => pre423 tq ?_
      show Steps p.tables e below (T407.setTop (mkF m 171 #[.val (.int p1), .val (.int p2), .val (.int p3), .val (.int p4), .val (.int (3 : Int32)), .val (.double (FP.i2d p2)), .second, .val (.double (FP.i2d p3)), .second, .val (.double (FP.i2d p4)), .second, .val (.ref b300), .val (.int (1 : Int32)), .val (.ref r408)] [(.int (3 : Int32))])) _
      refine XS.iload X407.here hx rfl (hb hby at_171) rfl ?_
      show Steps p.tables e below (T407.setTop (mkF m 173 #[.val (.int p1), .val (.int p2), .val (.int p3), .val (.int p4), .val (.int (3 : Int32)), .val (.double (FP.i2d p2)), .second, .val (.double (FP.i2d p3)), .second, .val (.double (FP.i2d p4)), .second, .val (.ref b300), .val (.int (1 : Int32)), .val (.ref r408)] [(.int (3 : Int32)), (.int (3 : Int32))])) _
      refine XS.icmpYes X407.here hx rfl (pc0 := 173) (pc' := 178) rfl (hb hby at_173) rfl (teq (by decide : (3 : Int32) = (3 : Int32))).1 (by decide) (by decide) ?_
      exact kq
    have pre425 : ∀ tq, Steps p.tables e below (T407.setTop (mkF m 183 #[.val (.int p1), .val (.int p2), .val (.int p3), .val (.int p4), .val (.int (3 : Int32)), .val (.double (FP.i2d p2)), .second, .val (.double (FP.i2d p3)), .second, .val (.double (FP.i2d p4)), .second, .val (.ref b300), .val (.int (1 : Int32)), .val (.ref r408)] [])) tq → Steps p.tables e below (s₁.setTop (entryFrame m #[(.int p1), (.int p2), (.int p3), (.int p4)] maxLocals)) tq := by
      refine fun tq kq => pre424 tq ?_
      show Steps p.tables e below (T407.setTop (mkF m 178 #[.val (.int p1), .val (.int p2), .val (.int p3), .val (.int p4), .val (.int (3 : Int32)), .val (.double (FP.i2d p2)), .second, .val (.double (FP.i2d p3)), .second, .val (.double (FP.i2d p4)), .second, .val (.ref b300), .val (.int (1 : Int32)), .val (.ref r408)] [])) _
      refine XS.iload X407.here hx rfl (hb hby at_178) rfl ?_
      show Steps p.tables e below (T407.setTop (mkF m 180 #[.val (.int p1), .val (.int p2), .val (.int p3), .val (.int p4), .val (.int (3 : Int32)), .val (.double (FP.i2d p2)), .second, .val (.double (FP.i2d p3)), .second, .val (.double (FP.i2d p4)), .second, .val (.ref b300), .val (.int (1 : Int32)), .val (.ref r408)] [(.int (3 : Int32))])) _
      refine XS.ifNo X407.here hx rfl (hb hby at_180) rfl ((if0 _ _).trans (tlt (by decide : (0 : Int32) < (3 : Int32))).2.2.2) ?_
      exact kq
    have pre426 : ∀ tq, Steps p.tables e below (T407.setTop (mkF m 188 #[.val (.int p1), .val (.int p2), .val (.int p3), .val (.int p4), .val (.int (3 : Int32)), .val (.double (FP.i2d p2)), .second, .val (.double (FP.i2d p3)), .second, .val (.double (FP.i2d p4)), .second, .val (.ref b300), .val (.int (1 : Int32)), .val (.ref r408)] [])) tq → Steps p.tables e below (s₁.setTop (entryFrame m #[(.int p1), (.int p2), (.int p3), (.int p4)] maxLocals)) tq := by
      refine fun tq kq => pre425 tq ?_
      show Steps p.tables e below (T407.setTop (mkF m 183 #[.val (.int p1), .val (.int p2), .val (.int p3), .val (.int p4), .val (.int (3 : Int32)), .val (.double (FP.i2d p2)), .second, .val (.double (FP.i2d p3)), .second, .val (.double (FP.i2d p4)), .second, .val (.ref b300), .val (.int (1 : Int32)), .val (.ref r408)] [])) _
      refine XS.iload X407.here hx rfl (hb hby at_183) rfl ?_
      show Steps p.tables e below (T407.setTop (mkF m 185 #[.val (.int p1), .val (.int p2), .val (.int p3), .val (.int p4), .val (.int (3 : Int32)), .val (.double (FP.i2d p2)), .second, .val (.double (FP.i2d p3)), .second, .val (.double (FP.i2d p4)), .second, .val (.ref b300), .val (.int (1 : Int32)), .val (.ref r408)] [(.int (1 : Int32))])) _
      refine XS.ifNo X407.here hx rfl (hb hby at_185) rfl ((if0 _ _).trans (feq (by decide : ¬ ((1 : Int32) = (0 : Int32)))).1) ?_
      exact kq
    have pre427 : ∀ tq, Steps p.tables e below (T407.setTop (mkF m 191 #[.val (.int p1), .val (.int p2), .val (.int p3), .val (.int p4), .val (.int (3 : Int32)), .val (.double (FP.i2d p2)), .second, .val (.double (FP.i2d p3)), .second, .val (.double (FP.i2d p4)), .second, .val (.ref b300), .val (.int (1 : Int32)), .val (.ref r408)] [(.int (0 : Int32)), (.ref r408)])) tq → Steps p.tables e below (s₁.setTop (entryFrame m #[(.int p1), (.int p2), (.int p3), (.int p4)] maxLocals)) tq := by
      refine fun tq kq => pre426 tq ?_
      show Steps p.tables e below (T407.setTop (mkF m 188 #[.val (.int p1), .val (.int p2), .val (.int p3), .val (.int p4), .val (.int (3 : Int32)), .val (.double (FP.i2d p2)), .second, .val (.double (FP.i2d p3)), .second, .val (.double (FP.i2d p4)), .second, .val (.ref b300), .val (.int (1 : Int32)), .val (.ref r408)] [])) _
      refine XS.aload X407.here hx rfl (hb hby at_188) rfl rfl ?_
      show Steps p.tables e below (T407.setTop (mkF m 190 #[.val (.int p1), .val (.int p2), .val (.int p3), .val (.int p4), .val (.int (3 : Int32)), .val (.double (FP.i2d p2)), .second, .val (.double (FP.i2d p3)), .second, .val (.double (FP.i2d p4)), .second, .val (.ref b300), .val (.int (1 : Int32)), .val (.ref r408)] [(.ref r408)])) _
      refine XS.iconst X407.here hx rfl (hb hby at_190) ?_
      exact kq
    have Vc428 := f409
    obtain ⟨cl428, Ar428, Aq428, As428, An428, Ah428, Ag428⟩ := Vc428
    have hin428 : ¬ ((0 : Int32) < 0 ∨ cl428.slots.size ≤ ((0 : Int32)).toNatClampNeg) := inb_of As428 ⟨by decide, by decide⟩
    have pre429 : ∀ tq, Steps p.tables e below (T407.setTop (mkF m 192 #[.val (.int p1), .val (.int p2), .val (.int p3), .val (.int p4), .val (.int (3 : Int32)), .val (.double (FP.i2d p2)), .second, .val (.double (FP.i2d p3)), .second, .val (.double (FP.i2d p4)), .second, .val (.ref b300), .val (.int (1 : Int32)), .val (.ref r408)] [(.double (FP.i2d p2))])) tq → Steps p.tables e below (s₁.setTop (entryFrame m #[(.int p1), (.int p2), (.int p3), (.int p4)] maxLocals)) tq := fun tq kq => pre427 tq (X407.daload hx (j := (0 : Int32)) (v := (.double (FP.i2d p2))) Ar428.1 (State.isArrayOf_alike hZ.alike Ar428.2.1) Ar428.2.2 hin428 (Has.at Ah428 hin428 rfl) (g := (mkF m 191 #[.val (.int p1), .val (.int p2), .val (.int p3), .val (.int p4), .val (.int (3 : Int32)), .val (.double (FP.i2d p2)), .second, .val (.double (FP.i2d p3)), .second, .val (.double (FP.i2d p4)), .second, .val (.ref b300), .val (.int (1 : Int32)), .val (.ref r408)] [(.int (0 : Int32)), (.ref r408)])) rfl rfl (hb hby at_191) _ kq)
    have pre430 : ∀ tq, Steps p.tables e below (T407.setTop (mkF m 198 #[.val (.int p1), .val (.int p2), .val (.int p3), .val (.int p4), .val (.int (3 : Int32)), .val (.double (FP.i2d p2)), .second, .val (.double (FP.i2d p3)), .second, .val (.double (FP.i2d p4)), .second, .val (.ref b300), .val (.int (1 : Int32)), .val (.ref r408)] [])) tq → Steps p.tables e below (s₁.setTop (entryFrame m #[(.int p1), (.int p2), (.int p3), (.int p4)] maxLocals)) tq := by
      refine fun tq kq => pre429 tq ?_
      show Steps p.tables e below (T407.setTop (mkF m 192 #[.val (.int p1), .val (.int p2), .val (.int p3), .val (.int p4), .val (.int (3 : Int32)), .val (.double (FP.i2d p2)), .second, .val (.double (FP.i2d p3)), .second, .val (.double (FP.i2d p4)), .second, .val (.ref b300), .val (.int (1 : Int32)), .val (.ref r408)] [(.double (FP.i2d p2))])) _
      refine XS.dload X407.here hx rfl (hb hby at_192) rfl ?_
      show Steps p.tables e below (T407.setTop (mkF m 194 #[.val (.int p1), .val (.int p2), .val (.int p3), .val (.int p4), .val (.int (3 : Int32)), .val (.double (FP.i2d p2)), .second, .val (.double (FP.i2d p3)), .second, .val (.double (FP.i2d p4)), .second, .val (.ref b300), .val (.int (1 : Int32)), .val (.ref r408)] [(.double (FP.i2d p2)), (.double (FP.i2d p2))])) _
      refine XS.dcmpS X407.here hx rfl (hb hby at_194) rfl (dcmpV_self (nn_w (i2d_w _)) _) ?_
      show Steps p.tables e below (T407.setTop (mkF m 195 #[.val (.int p1), .val (.int p2), .val (.int p3), .val (.int p4), .val (.int (3 : Int32)), .val (.double (FP.i2d p2)), .second, .val (.double (FP.i2d p3)), .second, .val (.double (FP.i2d p4)), .second, .val (.ref b300), .val (.int (1 : Int32)), .val (.ref r408)] [(.int (0 : Int32))])) _
      refine XS.ifNo X407.here hx rfl (hb hby at_195) rfl ((if0 _ _).trans (teq (by decide : (0 : Int32) = (0 : Int32))).2) ?_
      exact kq
    have pre431 : ∀ tq, Steps p.tables e below (T407.setTop (mkF m 211 #[.val (.int p1), .val (.int p2), .val (.int p3), .val (.int p4), .val (.int (3 : Int32)), .val (.double (FP.i2d p2)), .second, .val (.double (FP.i2d p3)), .second, .val (.double (FP.i2d p4)), .second, .val (.ref b300), .val (.int (1 : Int32)), .val (.ref r408)] [])) tq → Steps p.tables e below (s₁.setTop (entryFrame m #[(.int p1), (.int p2), (.int p3), (.int p4)] maxLocals)) tq := by
      refine fun tq kq => pre430 tq ?_
      show Steps p.tables e below (T407.setTop (mkF m 198 #[.val (.int p1), .val (.int p2), .val (.int p3), .val (.int p4), .val (.int (3 : Int32)), .val (.double (FP.i2d p2)), .second, .val (.double (FP.i2d p3)), .second, .val (.double (FP.i2d p4)), .second, .val (.ref b300), .val (.int (1 : Int32)), .val (.ref r408)] [])) _
      refine XS.iconst X407.here hx rfl (hb hby at_198) ?_
      show Steps p.tables e below (T407.setTop (mkF m 199 #[.val (.int p1), .val (.int p2), .val (.int p3), .val (.int p4), .val (.int (3 : Int32)), .val (.double (FP.i2d p2)), .second, .val (.double (FP.i2d p3)), .second, .val (.double (FP.i2d p4)), .second, .val (.ref b300), .val (.int (1 : Int32)), .val (.ref r408)] [(.int (1 : Int32))])) _
      refine XS.goto X407.here hx rfl (pc0 := 199) (pc' := 203) rfl (hb hby at_199) (by decide) (by decide) ?_
      show Steps p.tables e below (T407.setTop (mkF m 203 #[.val (.int p1), .val (.int p2), .val (.int p3), .val (.int p4), .val (.int (3 : Int32)), .val (.double (FP.i2d p2)), .second, .val (.double (FP.i2d p3)), .second, .val (.double (FP.i2d p4)), .second, .val (.ref b300), .val (.int (1 : Int32)), .val (.ref r408)] [(.int (1 : Int32))])) _
      refine XS.istore X407.here hx rfl (hb hby at_203) rfl (l' := #[.val (.int p1), .val (.int p2), .val (.int p3), .val (.int p4), .val (.int (3 : Int32)), .val (.double (FP.i2d p2)), .second, .val (.double (FP.i2d p3)), .second, .val (.double (FP.i2d p4)), .second, .val (.ref b300), .val (.int (1 : Int32)), .val (.ref r408)]) rfl ?_
      show Steps p.tables e below (T407.setTop (mkF m 205 #[.val (.int p1), .val (.int p2), .val (.int p3), .val (.int p4), .val (.int (3 : Int32)), .val (.double (FP.i2d p2)), .second, .val (.double (FP.i2d p3)), .second, .val (.double (FP.i2d p4)), .second, .val (.ref b300), .val (.int (1 : Int32)), .val (.ref r408)] [])) _
      refine XS.iload X407.here hx rfl (hb hby at_205) rfl ?_
      show Steps p.tables e below (T407.setTop (mkF m 207 #[.val (.int p1), .val (.int p2), .val (.int p3), .val (.int p4), .val (.int (3 : Int32)), .val (.double (FP.i2d p2)), .second, .val (.double (FP.i2d p3)), .second, .val (.double (FP.i2d p4)), .second, .val (.ref b300), .val (.int (1 : Int32)), .val (.ref r408)] [(.int (3 : Int32))])) _
      refine XS.iconst X407.here hx rfl (hb hby at_207) ?_
      show Steps p.tables e below (T407.setTop (mkF m 208 #[.val (.int p1), .val (.int p2), .val (.int p3), .val (.int p4), .val (.int (3 : Int32)), .val (.double (FP.i2d p2)), .second, .val (.double (FP.i2d p3)), .second, .val (.double (FP.i2d p4)), .second, .val (.ref b300), .val (.int (1 : Int32)), .val (.ref r408)] [(.int (1 : Int32)), (.int (3 : Int32))])) _
      refine XS.icmpNo X407.here hx rfl (hb hby at_208) rfl (tlt (by decide : (1 : Int32) < (3 : Int32))).2.2.2 ?_
      exact kq
    have pre432 : ∀ tq, Steps p.tables e below (T407.setTop (mkF m 216 #[.val (.int p1), .val (.int p2), .val (.int p3), .val (.int p4), .val (.int (3 : Int32)), .val (.double (FP.i2d p2)), .second, .val (.double (FP.i2d p3)), .second, .val (.double (FP.i2d p4)), .second, .val (.ref b300), .val (.int (1 : Int32)), .val (.ref r408)] [])) tq → Steps p.tables e below (s₁.setTop (entryFrame m #[(.int p1), (.int p2), (.int p3), (.int p4)] maxLocals)) tq := by
      refine fun tq kq => pre431 tq ?_
      show Steps p.tables e below (T407.setTop (mkF m 211 #[.val (.int p1), .val (.int p2), .val (.int p3), .val (.int p4), .val (.int (3 : Int32)), .val (.double (FP.i2d p2)), .second, .val (.double (FP.i2d p3)), .second, .val (.double (FP.i2d p4)), .second, .val (.ref b300), .val (.int (1 : Int32)), .val (.ref r408)] [])) _
      refine XS.iload X407.here hx rfl (hb hby at_211) rfl ?_
      show Steps p.tables e below (T407.setTop (mkF m 213 #[.val (.int p1), .val (.int p2), .val (.int p3), .val (.int p4), .val (.int (3 : Int32)), .val (.double (FP.i2d p2)), .second, .val (.double (FP.i2d p3)), .second, .val (.double (FP.i2d p4)), .second, .val (.ref b300), .val (.int (1 : Int32)), .val (.ref r408)] [(.int (1 : Int32))])) _
      refine XS.ifNo X407.here hx rfl (hb hby at_213) rfl ((if0 _ _).trans (feq (by decide : ¬ ((1 : Int32) = (0 : Int32)))).1) ?_
      exact kq
    have pre433 : ∀ tq, Steps p.tables e below (T407.setTop (mkF m 219 #[.val (.int p1), .val (.int p2), .val (.int p3), .val (.int p4), .val (.int (3 : Int32)), .val (.double (FP.i2d p2)), .second, .val (.double (FP.i2d p3)), .second, .val (.double (FP.i2d p4)), .second, .val (.ref b300), .val (.int (1 : Int32)), .val (.ref r408)] [(.int (1 : Int32)), (.ref r408)])) tq → Steps p.tables e below (s₁.setTop (entryFrame m #[(.int p1), (.int p2), (.int p3), (.int p4)] maxLocals)) tq := by
      refine fun tq kq => pre432 tq ?_
      show Steps p.tables e below (T407.setTop (mkF m 216 #[.val (.int p1), .val (.int p2), .val (.int p3), .val (.int p4), .val (.int (3 : Int32)), .val (.double (FP.i2d p2)), .second, .val (.double (FP.i2d p3)), .second, .val (.double (FP.i2d p4)), .second, .val (.ref b300), .val (.int (1 : Int32)), .val (.ref r408)] [])) _
      refine XS.aload X407.here hx rfl (hb hby at_216) rfl rfl ?_
      show Steps p.tables e below (T407.setTop (mkF m 218 #[.val (.int p1), .val (.int p2), .val (.int p3), .val (.int p4), .val (.int (3 : Int32)), .val (.double (FP.i2d p2)), .second, .val (.double (FP.i2d p3)), .second, .val (.double (FP.i2d p4)), .second, .val (.ref b300), .val (.int (1 : Int32)), .val (.ref r408)] [(.ref r408)])) _
      refine XS.iconst X407.here hx rfl (hb hby at_218) ?_
      exact kq
    have Vc434 := f409
    obtain ⟨cl434, Ar434, Aq434, As434, An434, Ah434, Ag434⟩ := Vc434
    have hin434 : ¬ ((1 : Int32) < 0 ∨ cl434.slots.size ≤ ((1 : Int32)).toNatClampNeg) := inb_of As434 ⟨by decide, by decide⟩
    have pre435 : ∀ tq, Steps p.tables e below (T407.setTop (mkF m 220 #[.val (.int p1), .val (.int p2), .val (.int p3), .val (.int p4), .val (.int (3 : Int32)), .val (.double (FP.i2d p2)), .second, .val (.double (FP.i2d p3)), .second, .val (.double (FP.i2d p4)), .second, .val (.ref b300), .val (.int (1 : Int32)), .val (.ref r408)] [(.double (FP.i2d p3))])) tq → Steps p.tables e below (s₁.setTop (entryFrame m #[(.int p1), (.int p2), (.int p3), (.int p4)] maxLocals)) tq := fun tq kq => pre433 tq (X407.daload hx (j := (1 : Int32)) (v := (.double (FP.i2d p3))) Ar434.1 (State.isArrayOf_alike hZ.alike Ar434.2.1) Ar434.2.2 hin434 (Has.at Ah434 hin434 rfl) (g := (mkF m 219 #[.val (.int p1), .val (.int p2), .val (.int p3), .val (.int p4), .val (.int (3 : Int32)), .val (.double (FP.i2d p2)), .second, .val (.double (FP.i2d p3)), .second, .val (.double (FP.i2d p4)), .second, .val (.ref b300), .val (.int (1 : Int32)), .val (.ref r408)] [(.int (1 : Int32)), (.ref r408)])) rfl rfl (hb hby at_219) _ kq)
    have pre436 : ∀ tq, Steps p.tables e below (T407.setTop (mkF m 226 #[.val (.int p1), .val (.int p2), .val (.int p3), .val (.int p4), .val (.int (3 : Int32)), .val (.double (FP.i2d p2)), .second, .val (.double (FP.i2d p3)), .second, .val (.double (FP.i2d p4)), .second, .val (.ref b300), .val (.int (1 : Int32)), .val (.ref r408)] [])) tq → Steps p.tables e below (s₁.setTop (entryFrame m #[(.int p1), (.int p2), (.int p3), (.int p4)] maxLocals)) tq := by
      refine fun tq kq => pre435 tq ?_
      show Steps p.tables e below (T407.setTop (mkF m 220 #[.val (.int p1), .val (.int p2), .val (.int p3), .val (.int p4), .val (.int (3 : Int32)), .val (.double (FP.i2d p2)), .second, .val (.double (FP.i2d p3)), .second, .val (.double (FP.i2d p4)), .second, .val (.ref b300), .val (.int (1 : Int32)), .val (.ref r408)] [(.double (FP.i2d p3))])) _
      refine XS.dload X407.here hx rfl (hb hby at_220) rfl ?_
      show Steps p.tables e below (T407.setTop (mkF m 222 #[.val (.int p1), .val (.int p2), .val (.int p3), .val (.int p4), .val (.int (3 : Int32)), .val (.double (FP.i2d p2)), .second, .val (.double (FP.i2d p3)), .second, .val (.double (FP.i2d p4)), .second, .val (.ref b300), .val (.int (1 : Int32)), .val (.ref r408)] [(.double (FP.i2d p3)), (.double (FP.i2d p3))])) _
      refine XS.dcmpS X407.here hx rfl (hb hby at_222) rfl (dcmpV_self (nn_w (i2d_w _)) _) ?_
      show Steps p.tables e below (T407.setTop (mkF m 223 #[.val (.int p1), .val (.int p2), .val (.int p3), .val (.int p4), .val (.int (3 : Int32)), .val (.double (FP.i2d p2)), .second, .val (.double (FP.i2d p3)), .second, .val (.double (FP.i2d p4)), .second, .val (.ref b300), .val (.int (1 : Int32)), .val (.ref r408)] [(.int (0 : Int32))])) _
      refine XS.ifNo X407.here hx rfl (hb hby at_223) rfl ((if0 _ _).trans (teq (by decide : (0 : Int32) = (0 : Int32))).2) ?_
      exact kq
    have pre437 : ∀ tq, Steps p.tables e below (T407.setTop (mkF m 239 #[.val (.int p1), .val (.int p2), .val (.int p3), .val (.int p4), .val (.int (3 : Int32)), .val (.double (FP.i2d p2)), .second, .val (.double (FP.i2d p3)), .second, .val (.double (FP.i2d p4)), .second, .val (.ref b300), .val (.int (1 : Int32)), .val (.ref r408)] [])) tq → Steps p.tables e below (s₁.setTop (entryFrame m #[(.int p1), (.int p2), (.int p3), (.int p4)] maxLocals)) tq := by
      refine fun tq kq => pre436 tq ?_
      show Steps p.tables e below (T407.setTop (mkF m 226 #[.val (.int p1), .val (.int p2), .val (.int p3), .val (.int p4), .val (.int (3 : Int32)), .val (.double (FP.i2d p2)), .second, .val (.double (FP.i2d p3)), .second, .val (.double (FP.i2d p4)), .second, .val (.ref b300), .val (.int (1 : Int32)), .val (.ref r408)] [])) _
      refine XS.iconst X407.here hx rfl (hb hby at_226) ?_
      show Steps p.tables e below (T407.setTop (mkF m 227 #[.val (.int p1), .val (.int p2), .val (.int p3), .val (.int p4), .val (.int (3 : Int32)), .val (.double (FP.i2d p2)), .second, .val (.double (FP.i2d p3)), .second, .val (.double (FP.i2d p4)), .second, .val (.ref b300), .val (.int (1 : Int32)), .val (.ref r408)] [(.int (1 : Int32))])) _
      refine XS.goto X407.here hx rfl (pc0 := 227) (pc' := 231) rfl (hb hby at_227) (by decide) (by decide) ?_
      show Steps p.tables e below (T407.setTop (mkF m 231 #[.val (.int p1), .val (.int p2), .val (.int p3), .val (.int p4), .val (.int (3 : Int32)), .val (.double (FP.i2d p2)), .second, .val (.double (FP.i2d p3)), .second, .val (.double (FP.i2d p4)), .second, .val (.ref b300), .val (.int (1 : Int32)), .val (.ref r408)] [(.int (1 : Int32))])) _
      refine XS.istore X407.here hx rfl (hb hby at_231) rfl (l' := #[.val (.int p1), .val (.int p2), .val (.int p3), .val (.int p4), .val (.int (3 : Int32)), .val (.double (FP.i2d p2)), .second, .val (.double (FP.i2d p3)), .second, .val (.double (FP.i2d p4)), .second, .val (.ref b300), .val (.int (1 : Int32)), .val (.ref r408)]) rfl ?_
      show Steps p.tables e below (T407.setTop (mkF m 233 #[.val (.int p1), .val (.int p2), .val (.int p3), .val (.int p4), .val (.int (3 : Int32)), .val (.double (FP.i2d p2)), .second, .val (.double (FP.i2d p3)), .second, .val (.double (FP.i2d p4)), .second, .val (.ref b300), .val (.int (1 : Int32)), .val (.ref r408)] [])) _
      refine XS.iload X407.here hx rfl (hb hby at_233) rfl ?_
      show Steps p.tables e below (T407.setTop (mkF m 235 #[.val (.int p1), .val (.int p2), .val (.int p3), .val (.int p4), .val (.int (3 : Int32)), .val (.double (FP.i2d p2)), .second, .val (.double (FP.i2d p3)), .second, .val (.double (FP.i2d p4)), .second, .val (.ref b300), .val (.int (1 : Int32)), .val (.ref r408)] [(.int (3 : Int32))])) _
      refine XS.iconst X407.here hx rfl (hb hby at_235) ?_
      show Steps p.tables e below (T407.setTop (mkF m 236 #[.val (.int p1), .val (.int p2), .val (.int p3), .val (.int p4), .val (.int (3 : Int32)), .val (.double (FP.i2d p2)), .second, .val (.double (FP.i2d p3)), .second, .val (.double (FP.i2d p4)), .second, .val (.ref b300), .val (.int (1 : Int32)), .val (.ref r408)] [(.int (2 : Int32)), (.int (3 : Int32))])) _
      refine XS.icmpNo X407.here hx rfl (hb hby at_236) rfl (tlt (by decide : (2 : Int32) < (3 : Int32))).2.2.2 ?_
      exact kq
    have pre438 : ∀ tq, Steps p.tables e below (T407.setTop (mkF m 244 #[.val (.int p1), .val (.int p2), .val (.int p3), .val (.int p4), .val (.int (3 : Int32)), .val (.double (FP.i2d p2)), .second, .val (.double (FP.i2d p3)), .second, .val (.double (FP.i2d p4)), .second, .val (.ref b300), .val (.int (1 : Int32)), .val (.ref r408)] [])) tq → Steps p.tables e below (s₁.setTop (entryFrame m #[(.int p1), (.int p2), (.int p3), (.int p4)] maxLocals)) tq := by
      refine fun tq kq => pre437 tq ?_
      show Steps p.tables e below (T407.setTop (mkF m 239 #[.val (.int p1), .val (.int p2), .val (.int p3), .val (.int p4), .val (.int (3 : Int32)), .val (.double (FP.i2d p2)), .second, .val (.double (FP.i2d p3)), .second, .val (.double (FP.i2d p4)), .second, .val (.ref b300), .val (.int (1 : Int32)), .val (.ref r408)] [])) _
      refine XS.iload X407.here hx rfl (hb hby at_239) rfl ?_
      show Steps p.tables e below (T407.setTop (mkF m 241 #[.val (.int p1), .val (.int p2), .val (.int p3), .val (.int p4), .val (.int (3 : Int32)), .val (.double (FP.i2d p2)), .second, .val (.double (FP.i2d p3)), .second, .val (.double (FP.i2d p4)), .second, .val (.ref b300), .val (.int (1 : Int32)), .val (.ref r408)] [(.int (1 : Int32))])) _
      refine XS.ifNo X407.here hx rfl (hb hby at_241) rfl ((if0 _ _).trans (feq (by decide : ¬ ((1 : Int32) = (0 : Int32)))).1) ?_
      exact kq
    have pre439 : ∀ tq, Steps p.tables e below (T407.setTop (mkF m 247 #[.val (.int p1), .val (.int p2), .val (.int p3), .val (.int p4), .val (.int (3 : Int32)), .val (.double (FP.i2d p2)), .second, .val (.double (FP.i2d p3)), .second, .val (.double (FP.i2d p4)), .second, .val (.ref b300), .val (.int (1 : Int32)), .val (.ref r408)] [(.int (2 : Int32)), (.ref r408)])) tq → Steps p.tables e below (s₁.setTop (entryFrame m #[(.int p1), (.int p2), (.int p3), (.int p4)] maxLocals)) tq := by
      refine fun tq kq => pre438 tq ?_
      show Steps p.tables e below (T407.setTop (mkF m 244 #[.val (.int p1), .val (.int p2), .val (.int p3), .val (.int p4), .val (.int (3 : Int32)), .val (.double (FP.i2d p2)), .second, .val (.double (FP.i2d p3)), .second, .val (.double (FP.i2d p4)), .second, .val (.ref b300), .val (.int (1 : Int32)), .val (.ref r408)] [])) _
      refine XS.aload X407.here hx rfl (hb hby at_244) rfl rfl ?_
      show Steps p.tables e below (T407.setTop (mkF m 246 #[.val (.int p1), .val (.int p2), .val (.int p3), .val (.int p4), .val (.int (3 : Int32)), .val (.double (FP.i2d p2)), .second, .val (.double (FP.i2d p3)), .second, .val (.double (FP.i2d p4)), .second, .val (.ref b300), .val (.int (1 : Int32)), .val (.ref r408)] [(.ref r408)])) _
      refine XS.iconst X407.here hx rfl (hb hby at_246) ?_
      exact kq
    have Vc440 := f409
    obtain ⟨cl440, Ar440, Aq440, As440, An440, Ah440, Ag440⟩ := Vc440
    have hin440 : ¬ ((2 : Int32) < 0 ∨ cl440.slots.size ≤ ((2 : Int32)).toNatClampNeg) := inb_of As440 ⟨by decide, by decide⟩
    have pre441 : ∀ tq, Steps p.tables e below (T407.setTop (mkF m 248 #[.val (.int p1), .val (.int p2), .val (.int p3), .val (.int p4), .val (.int (3 : Int32)), .val (.double (FP.i2d p2)), .second, .val (.double (FP.i2d p3)), .second, .val (.double (FP.i2d p4)), .second, .val (.ref b300), .val (.int (1 : Int32)), .val (.ref r408)] [(.double (FP.i2d p4))])) tq → Steps p.tables e below (s₁.setTop (entryFrame m #[(.int p1), (.int p2), (.int p3), (.int p4)] maxLocals)) tq := fun tq kq => pre439 tq (X407.daload hx (j := (2 : Int32)) (v := (.double (FP.i2d p4))) Ar440.1 (State.isArrayOf_alike hZ.alike Ar440.2.1) Ar440.2.2 hin440 (Has.at Ah440 hin440 rfl) (g := (mkF m 247 #[.val (.int p1), .val (.int p2), .val (.int p3), .val (.int p4), .val (.int (3 : Int32)), .val (.double (FP.i2d p2)), .second, .val (.double (FP.i2d p3)), .second, .val (.double (FP.i2d p4)), .second, .val (.ref b300), .val (.int (1 : Int32)), .val (.ref r408)] [(.int (2 : Int32)), (.ref r408)])) rfl rfl (hb hby at_247) _ kq)
    have pre442 : ∀ tq, Steps p.tables e below (T407.setTop (mkF m 254 #[.val (.int p1), .val (.int p2), .val (.int p3), .val (.int p4), .val (.int (3 : Int32)), .val (.double (FP.i2d p2)), .second, .val (.double (FP.i2d p3)), .second, .val (.double (FP.i2d p4)), .second, .val (.ref b300), .val (.int (1 : Int32)), .val (.ref r408)] [])) tq → Steps p.tables e below (s₁.setTop (entryFrame m #[(.int p1), (.int p2), (.int p3), (.int p4)] maxLocals)) tq := by
      refine fun tq kq => pre441 tq ?_
      show Steps p.tables e below (T407.setTop (mkF m 248 #[.val (.int p1), .val (.int p2), .val (.int p3), .val (.int p4), .val (.int (3 : Int32)), .val (.double (FP.i2d p2)), .second, .val (.double (FP.i2d p3)), .second, .val (.double (FP.i2d p4)), .second, .val (.ref b300), .val (.int (1 : Int32)), .val (.ref r408)] [(.double (FP.i2d p4))])) _
      refine XS.dload X407.here hx rfl (hb hby at_248) rfl ?_
      show Steps p.tables e below (T407.setTop (mkF m 250 #[.val (.int p1), .val (.int p2), .val (.int p3), .val (.int p4), .val (.int (3 : Int32)), .val (.double (FP.i2d p2)), .second, .val (.double (FP.i2d p3)), .second, .val (.double (FP.i2d p4)), .second, .val (.ref b300), .val (.int (1 : Int32)), .val (.ref r408)] [(.double (FP.i2d p4)), (.double (FP.i2d p4))])) _
      refine XS.dcmpS X407.here hx rfl (hb hby at_250) rfl (dcmpV_self (nn_w (i2d_w _)) _) ?_
      show Steps p.tables e below (T407.setTop (mkF m 251 #[.val (.int p1), .val (.int p2), .val (.int p3), .val (.int p4), .val (.int (3 : Int32)), .val (.double (FP.i2d p2)), .second, .val (.double (FP.i2d p3)), .second, .val (.double (FP.i2d p4)), .second, .val (.ref b300), .val (.int (1 : Int32)), .val (.ref r408)] [(.int (0 : Int32))])) _
      refine XS.ifNo X407.here hx rfl (hb hby at_251) rfl ((if0 _ _).trans (teq (by decide : (0 : Int32) = (0 : Int32))).2) ?_
      exact kq
    obtain ⟨fs, hr, hrun, hended, hW, hsame⟩ := X407.leave (v := some (.int (1 : Int32))) (fun h => by rw [Bd.returns] at h; cases h)
    refine ⟨_, _, pre442 _ ?_, hrun, hended, _, _, rfl, ?_, ⟨_, rfl⟩, hW, hsame.mono (by decide) (by decide)⟩
    · skip
      show Steps p.tables e below (T407.setTop (mkF m 254 #[.val (.int p1), .val (.int p2), .val (.int p3), .val (.int p4), .val (.int (3 : Int32)), .val (.double (FP.i2d p2)), .second, .val (.double (FP.i2d p3)), .second, .val (.double (FP.i2d p4)), .second, .val (.ref b300), .val (.int (1 : Int32)), .val (.ref r408)] [])) _
      refine XS.iconst X407.here hx rfl (hb hby at_254) ?_
      show Steps p.tables e below (T407.setTop (mkF m 255 #[.val (.int p1), .val (.int p2), .val (.int p3), .val (.int p4), .val (.int (3 : Int32)), .val (.double (FP.i2d p2)), .second, .val (.double (FP.i2d p3)), .second, .val (.double (FP.i2d p4)), .second, .val (.ref b300), .val (.int (1 : Int32)), .val (.ref r408)] [(.int (1 : Int32))])) _
      refine XS.goto X407.here hx rfl (pc0 := 255) (pc' := 259) rfl (hb hby at_255) (by decide) (by decide) ?_
      show Steps p.tables e below (T407.setTop (mkF m 259 #[.val (.int p1), .val (.int p2), .val (.int p3), .val (.int p4), .val (.int (3 : Int32)), .val (.double (FP.i2d p2)), .second, .val (.double (FP.i2d p3)), .second, .val (.double (FP.i2d p4)), .second, .val (.ref b300), .val (.int (1 : Int32)), .val (.ref r408)] [(.int (1 : Int32))])) _
      refine XS.istore X407.here hx rfl (hb hby at_259) rfl (l' := #[.val (.int p1), .val (.int p2), .val (.int p3), .val (.int p4), .val (.int (3 : Int32)), .val (.double (FP.i2d p2)), .second, .val (.double (FP.i2d p3)), .second, .val (.double (FP.i2d p4)), .second, .val (.ref b300), .val (.int (1 : Int32)), .val (.ref r408)]) rfl ?_
      show Steps p.tables e below (T407.setTop (mkF m 261 #[.val (.int p1), .val (.int p2), .val (.int p3), .val (.int p4), .val (.int (3 : Int32)), .val (.double (FP.i2d p2)), .second, .val (.double (FP.i2d p3)), .second, .val (.double (FP.i2d p4)), .second, .val (.ref b300), .val (.int (1 : Int32)), .val (.ref r408)] [])) _
      refine XS.iload X407.here hx rfl (hb hby at_261) rfl ?_
      show Steps p.tables e below (T407.setTop (mkF m 263 #[.val (.int p1), .val (.int p2), .val (.int p3), .val (.int p4), .val (.int (3 : Int32)), .val (.double (FP.i2d p2)), .second, .val (.double (FP.i2d p3)), .second, .val (.double (FP.i2d p4)), .second, .val (.ref b300), .val (.int (1 : Int32)), .val (.ref r408)] [(.int (1 : Int32))])) _
      exact retN X407 hx (t := .boolean) Bd.returns (by simp) (hb hby at_263) hr
    · show Q0 Z p1 p2 p3 p4 sD h0 n0 _ T407.heap _
      exact ⟨rfl, N407⟩
set_option maxRecDepth 65536 in
set_option maxHeartbeats 40000000 in
theorem comes_1 {Post : Tables → Env → Array Value → State → Outcome → State → Prop} (hpost : ∀ tb e args s v u, (limb_1_1.after args s (.returned v) u = true ∧ limb_1_2.after args s (.returned v) u = true ∧ True) → FrameEnd s (.returned v) u (Jvm.fieldLocs frame_1_writes args s ++ Jvm.arrayLocs frame_1_arrays args s ++ Jvm.staticLocs frame_1_statics s) 24 65664 → Post tb e args s (.returned v) u) :
    ArmFor flags0 classFile x code maxLocals ret World_1 tables_1 room_1 Calls_1 rest_1 Pre_1 Post := by
  intro l hfl _ _ p e ha hc hk s m args below hf hA hF happ hP
  obtain ⟨hcalls, hrest, hpre⟩ := hP
  obtain ⟨-, -, -, hnamed, -, -, -, hat⟩ := (Spec.applies_iff hf).mp happ
  obtain ⟨hg, hn⟩ := and_e (Cond.before_iff.mp (show (Jvm.Cond.and given_1 narrow_1).before args s = true from hpre))
  obtain ⟨k0, g0⟩ := and_e hg
  obtain ⟨k1, g1⟩ := and_e g0
  obtain ⟨k2, g2⟩ := and_e g1
  obtain ⟨k3, g3⟩ := and_e g2
  obtain ⟨w0, w1, w2, w3, rfl⟩ : ∃ w0 w1 w2 w3 : Value, args = #[w0, w1, w2, w3] := by
    have hs : args.size = 4 := by simpa [Cond.value, given_1] using k0
    obtain ⟨L⟩ := args
    match L, hs with
    | [w0, w1, w2, w3], _ => exact ⟨w0, w1, w2, w3, rfl⟩
  have hw := fun d (hd : d ∈ tables_1) => atoms_spec (ws := Jvm.Cond.code x code maxLocals ret :: tables_1) hat d (List.mem_cons_of_mem _ hd)
  have hfit : Fit s := fun {y c} hc i hi => by
    obtain ⟨ha, rfl⟩ := Array.getElem?_eq_some_iff.mp hc
    have q := List.all_eq_true.mp ((Array.all_eq_true_iff_forall_mem.mp hF) _ (Array.getElem_mem ha)) i (List.mem_range.mpr hi)
    simpa [Array.getElem?_eq_getElem hi] using q
  obtain ⟨hsets, hown0⟩ := atoms_of _ (rest_1_c_eq ▸ (show rest_1_c.before _ s = true from hrest))
  have hr0 := Cond.before_iff.mp hown0
  obtain ⟨i0, ei0⟩ := is_v k1
  obtain rfl : w0 = (.int i0) := Option.some.inj ei0
  obtain ⟨i1, ei1⟩ := is_v k2
  obtain rfl : w1 = (.int i1) := Option.some.inj ei1
  obtain ⟨i2, ei2⟩ := is_v k3
  obtain rfl : w2 = (.int i2) := Option.some.inj ei2
  obtain ⟨i3, ei3⟩ := is_v g3
  obtain rfl : w3 = (.int i3) := Option.some.inj ei3
  obtain ⟨sD, xD⟩ := exa_v (Cond.before_iff.mp (hsets _ (List.mem_of_getElem? (i := 7) rfl)))
  have SD := Sta.start xD (Or.inr ⟨(hw _ (List.mem_of_getElem? (i := 11) rfl)), hsets _ (List.mem_of_getElem? (i := 2) rfl)⟩)
  obtain ⟨n, o, h1, h2, h3, _, L, rfl, ⟨rfl, N⟩, hq⟩ := rm0 l s _ hw tables_1 i0 i1 i2 i3 sD s.heap s.heap.size (Nat.le_refl _) SD p e ha hc hk s m _ below hf ((Spec.applies_iff_loose hf).mp happ).1 ⟨rfl, State.Warmed39.refl s, rfl⟩ trivial
  refine ⟨n, _, h1, h2, h3, hpost _ _ _ _ _ _ ⟨Cond.after_iff.mpr rfl, Cond.after_iff.mpr (eq_i res_at (Term.int_eval (1)) rfl), trivial⟩ ⟨hq.1, hq.2.1, (hq.2.2.sift fun y hy => Or.inr (N y hy)).mono (by decide) (by decide)⟩⟩
theorem main_1_1 : Claimed_1_1 := comes_1 fun _ _ _ _ _ _ h hF => ⟨h.1, hF⟩
theorem main_1_2 : Claimed_1_2 := comes_1 fun _ _ _ _ _ _ h hF => ⟨h.2.1, hF⟩
end Jvm.Pilot.@@N@@
namespace Jvm.Pilot.@@N@@
open Jvm Jvm.ClassFile Sem Op Lib Jvm.Free Jvm.Stand Jvm.Pilot.@@N@@.Jvm.D
/-! MADE BY PROGRAM (witnessworld.py) out of the Statement's table words and the real class files: 23 classes; the members and pool entries that the words name. The judged class is class 1, her method 1. -/
namespace start1
open Jvm.ClassFile
def u (s : String) : CpInfo := .utf8 (stringToUtf16 s)
/-- a pool by its gaps: so many unusable entries, then the entry; so many at the end -/
def gap : Nat → List CpInfo → List CpInfo
  | 0, r => r
  | n + 1, r => .unusable :: gap n r
def poolList (es : List (Nat × CpInfo)) (last : Nat) : List CpInfo := es.foldr (fun e r => gap e.1 (e.2 :: r)) (gap last [])
def pool (es : List (Nat × CpInfo)) (last : Nat) : Array CpInfo := ⟨poolList es last⟩
def fileOf (pool : Array CpInfo) (this : Nat) (attrs : Array Attribute := #[]) (ms : Array MethodInfo := #[]) (fl : Nat := 33) (sup : Nat := 0) (ifs : Array Nat := #[]) (fds : Array FieldInfo := #[]) : ClassFile where
  minorVersion := 0
  majorVersion := 65
  constantPool := pool
  accessFlags := fl
  thisClass := this
  superClass := sup
  interfaces := ifs
  fields := fds
  methods := ms
  attributes := attrs
def plain (name : String) (sup : Option ClassId) : Class where
  name := name
  kind := .ordinary
  loader := none
  accessFlags := 33
  super := sup
  interfaces := #[]
  cf := none
  fields := #[]
  methods := #[]
  instanceTypes := #[]
  staticTypes := #[]
  resolved := #[]
  callSites := []
  init := .initialized
  statics := none
  mirror := none

def pool0 : Array CpInfo := pool [(5, u "<init>"), (0, u "()V"), (1, .class_ 10), (1, u "java/lang/Object")] 113

def k0c0 : Code := { maxStack := 0, maxLocals := 1, code := object_method_1_code, exceptionTable := #[], attributes := #[] }
def k0m0 : Method := { name := "<init>", desc := "()V", sig := { parameters := [], returnType := none }, accessFlags := 1, code := some k0c0 }
/-- java/lang/Object -/
def k0 : Class := { plain "java/lang/Object" none with
  accessFlags := 33
  interfaces := #[]
  cf := some (fileOf pool0 8 #[] #[{ accessFlags := 1, nameIndex := 5, descriptorIndex := 6, attributes := #[] }] 33 0 #[] #[])
  fields := #[]
  methods := #[k0m0]
  instanceTypes := #[]
  staticTypes := #[]
  resolved := Array.replicate 124 none
  statics := none }

def pool1 : Array CpInfo := pool [(2, .class_ 4), (0, .nameAndType 5 6), (0, u "java/lang/Object"), (0, u "<init>"), (0, u "()V"), (0, .class_ 8), (0, u "com/example/crisp_haptics/crisphaptics/SampleBlocks"), (0, .methodref 7 3), (0, .methodref 7 11), (0, .nameAndType 12 13), (0, u "add"), (0, u "(D)V"), (0, .methodref 7 15), (0, .nameAndType 16 6), (0, u "fitToCount"), (0, .methodref 7 18), (0, .nameAndType 19 20), (0, u "get"), (0, u "(I)D"), (0, .methodref 7 22), (0, .nameAndType 23 24), (0, u "moveToArray"), (0, u "()[D"), (0, .class_ 26), (0, u "com/example/crisp_haptics/crisphaptics/SampleBlocksFitToCountPinLaw"), (2, u "law"), (0, u "(IIII)Z")] 5

def k1m0 : Method := { name := "<init>", desc := "()V", sig := { parameters := [], returnType := none }, accessFlags := 1, code := none }
def k1c1 : Code := { maxStack := 4, maxLocals := 14, code := code, exceptionTable := #[], attributes := #[] }
def k1m1 : Method := { name := "law", desc := "(IIII)Z", sig := { parameters := [.int, .int, .int, .int], returnType := some .boolean }, accessFlags := 9, code := some k1c1 }
/-- com/example/crisp_haptics/crisphaptics/SampleBlocksFitToCountPinLaw -/
def k1 : Class := { plain "com/example/crisp_haptics/crisphaptics/SampleBlocksFitToCountPinLaw" (some 0) with
  accessFlags := 49
  interfaces := #[]
  cf := some (fileOf pool1 25 #[] #[{ accessFlags := 1, nameIndex := 5, descriptorIndex := 6, attributes := #[] }, { accessFlags := 9, nameIndex := 29, descriptorIndex := 30, attributes := #[] }] 49 2 #[] #[])
  fields := #[]
  methods := #[k1m0, k1m1]
  instanceTypes := #[]
  staticTypes := #[]
  resolved := Array.replicate 36 none
  statics := none }

def pool2 : Array CpInfo := pool [(1, .class_ 2), (0, u "com/example/crisp_haptics/crisphaptics/SampleBlocks"), (0, .methodref 4 5), (0, .class_ 6), (0, .nameAndType 7 8), (0, u "java/lang/Object"), (0, u "<init>"), (0, u "()V"), (0, .class_ 10), (0, u "java/util/ArrayList"), (0, .methodref 9 5), (0, .fieldref 1 13), (0, .nameAndType 14 15), (0, u "fullBlocks"), (0, u "Ljava/util/List;"), (0, .integer 32768), (0, .fieldref 1 18), (0, .nameAndType 19 20), (0, u "block"), (0, u "[D"), (0, .fieldref 1 22), (0, .nameAndType 23 24), (0, u "inBlock"), (0, u "I"), (1, .class_ 28), (1, u "java/util/List"), (0, u "add"), (1, .interfaceMethodref 26 32), (0, .nameAndType 33 34), (0, u "size"), (0, u "()I"), (2, u "get"), (2, .methodref 41 42), (0, .class_ 43), (0, .nameAndType 44 45), (0, u "java/util/Arrays"), (0, u "copyOf"), (0, u "([DI)[D"), (0, .interfaceMethodref 26 47), (0, .nameAndType 48 49), (0, u "iterator"), (0, u "()Ljava/util/Iterator;"), (0, .interfaceMethodref 51 52), (0, .class_ 53), (0, .nameAndType 54 55), (0, u "java/util/Iterator"), (0, u "hasNext"), (0, u "()Z"), (4, .methodref 61 62), (0, .class_ 63), (0, .nameAndType 64 65), (0, u "java/lang/System"), (0, u "arraycopy"), (0, u "(Ljava/lang/Object;ILjava/lang/Object;II)V"), (0, .interfaceMethodref 26 67), (0, .nameAndType 68 8), (0, u "clear"), (0, u "BLOCK_BITS"), (2, u "BLOCK"), (4, u "(D)V"), (1, u "(I)D"), (0, u "fitToCount"), (0, u "moveToArray"), (0, u "()[D")] 2

def k2c0 : Code := { maxStack := 3, maxLocals := 1, code := prog_82_method_1_code, exceptionTable := #[], attributes := #[] }
def k2m0 : Method := { name := "<init>", desc := "()V", sig := { parameters := [], returnType := none }, accessFlags := 0, code := some k2c0 }
def k2c1 : Code := { maxStack := 4, maxLocals := 3, code := prog_82_method_2_code, exceptionTable := #[], attributes := #[] }
def k2m1 : Method := { name := "add", desc := "(D)V", sig := { parameters := [.double], returnType := none }, accessFlags := 0, code := some k2c1 }
def k2c2 : Code := { maxStack := 3, maxLocals := 4, code := prog_82_method_3_code, exceptionTable := #[], attributes := #[] }
def k2m2 : Method := { name := "get", desc := "(I)D", sig := { parameters := [.int], returnType := some .double }, accessFlags := 0, code := some k2c2 }
def k2c3 : Code := { maxStack := 3, maxLocals := 1, code := prog_82_method_4_code, exceptionTable := #[], attributes := #[] }
def k2m3 : Method := { name := "fitToCount", desc := "()V", sig := { parameters := [], returnType := none }, accessFlags := 0, code := some k2c3 }
def k2c4 : Code := { maxStack := 5, maxLocals := 5, code := prog_82_method_5_code, exceptionTable := #[], attributes := #[] }
def k2m4 : Method := { name := "moveToArray", desc := "()[D", sig := { parameters := [], returnType := some (.array .double) }, accessFlags := 0, code := some k2c4 }
/-- com/example/crisp_haptics/crisphaptics/SampleBlocks -/
def k2 : Class := { plain "com/example/crisp_haptics/crisphaptics/SampleBlocks" (some 0) with
  accessFlags := 48
  interfaces := #[]
  cf := some (fileOf pool2 1 #[] #[{ accessFlags := 0, nameIndex := 7, descriptorIndex := 8, attributes := #[] }, { accessFlags := 0, nameIndex := 29, descriptorIndex := 77, attributes := #[] }, { accessFlags := 0, nameIndex := 37, descriptorIndex := 79, attributes := #[] }, { accessFlags := 0, nameIndex := 80, descriptorIndex := 8, attributes := #[] }, { accessFlags := 0, nameIndex := 81, descriptorIndex := 82, attributes := #[] }] 48 4 #[] #[{ accessFlags := 26, nameIndex := 69, descriptorIndex := 24, attributes := #[] }, { accessFlags := 26, nameIndex := 72, descriptorIndex := 24, attributes := #[] }, { accessFlags := 18, nameIndex := 14, descriptorIndex := 15, attributes := #[] }, { accessFlags := 2, nameIndex := 19, descriptorIndex := 20, attributes := #[] }, { accessFlags := 2, nameIndex := 23, descriptorIndex := 24, attributes := #[] }])
  fields := #[{ name := "BLOCK_BITS", type := .int, accessFlags := 26, slot := 0, constantValue := 0 }, { name := "BLOCK", type := .int, accessFlags := 26, slot := 1, constantValue := 0 }, { name := "fullBlocks", type := (.object "java/util/List"), accessFlags := 18, slot := 0, constantValue := 0 }, { name := "block", type := (.array .double), accessFlags := 2, slot := 1, constantValue := 0 }, { name := "inBlock", type := .int, accessFlags := 2, slot := 2, constantValue := 0 }]
  methods := #[k2m0, k2m1, k2m2, k2m3, k2m4]
  instanceTypes := #[(.object "java/util/List"), (.array .double), .int]
  staticTypes := #[.int, .int]
  resolved := Array.replicate 85 none
  statics := none }

def pool3 : Array CpInfo := pool [(8, .class_ 10), (1, u "java/lang/Iterable"), (24, .class_ 36), (0, u "java/lang/Object")] 25

/-- java/lang/Iterable -/
def k3 : Class := { plain "java/lang/Iterable" (some 0) with
  accessFlags := 1537
  interfaces := #[]
  cf := some (fileOf pool3 8 #[] #[] 1537 35 #[] #[])
  fields := #[]
  methods := #[]
  instanceTypes := #[]
  staticTypes := #[]
  resolved := Array.replicate 62 none
  statics := none }

def pool4 : Array CpInfo := pool [(10, .class_ 12), (1, u "java/util/Collection"), (47, .class_ 61), (0, u "java/lang/Object"), (0, .class_ 63), (0, u "java/lang/Iterable")] 51

/-- java/util/Collection -/
def k4 : Class := { plain "java/util/Collection" (some 0) with
  accessFlags := 1537
  interfaces := #[3]
  cf := some (fileOf pool4 10 #[] #[] 1537 60 #[62] #[])
  fields := #[]
  methods := #[]
  instanceTypes := #[]
  staticTypes := #[]
  resolved := Array.replicate 115 none
  statics := none }

def pool5 : Array CpInfo := pool [(1, .methodref 2 3), (0, .class_ 4), (0, .nameAndType 5 6), (0, u "java/lang/Object"), (0, u "<init>"), (0, u "()V"), (1, .class_ 10), (1, u "java/util/AbstractCollection"), (66, .class_ 78), (0, u "java/util/Collection")] 81

def k5c0 : Code := { maxStack := 1, maxLocals := 1, code := jdk_22_method_1_code, exceptionTable := #[], attributes := #[] }
def k5m0 : Method := { name := "<init>", desc := "()V", sig := { parameters := [], returnType := none }, accessFlags := 4, code := some k5c0 }
/-- java/util/AbstractCollection -/
def k5 : Class := { plain "java/util/AbstractCollection" (some 0) with
  accessFlags := 1057
  interfaces := #[4]
  cf := some (fileOf pool5 8 #[] #[{ accessFlags := 4, nameIndex := 5, descriptorIndex := 6, attributes := #[] }] 1057 2 #[77] #[])
  fields := #[]
  methods := #[k5m0]
  instanceTypes := #[]
  staticTypes := #[]
  resolved := Array.replicate 160 none
  statics := none }

def pool6 : Array CpInfo := pool [(8, .class_ 10), (1, u "java/util/SequencedCollection"), (15, .class_ 27), (0, u "java/lang/Object"), (0, .class_ 29), (0, u "java/util/Collection")] 27

/-- java/util/SequencedCollection -/
def k6 : Class := { plain "java/util/SequencedCollection" (some 0) with
  accessFlags := 1537
  interfaces := #[4]
  cf := some (fileOf pool6 8 #[] #[] 1537 26 #[28] #[])
  fields := #[]
  methods := #[]
  instanceTypes := #[]
  staticTypes := #[]
  resolved := Array.replicate 57 none
  statics := none }

def pool7 : Array CpInfo := pool [(8, .class_ 10), (1, u "java/util/List"), (61, u "()V"), (6, u "size"), (0, u "()I"), (22, .class_ 104), (0, u "java/lang/Object"), (15, .class_ 121), (0, u "java/util/SequencedCollection"), (1, u "iterator"), (0, u "()Ljava/util/Iterator;"), (44, u "clear")] 81

def k7m0 : Method := { name := "size", desc := "()I", sig := { parameters := [], returnType := some .int }, accessFlags := 1025, code := none }
def k7m1 : Method := { name := "iterator", desc := "()Ljava/util/Iterator;", sig := { parameters := [], returnType := some (.object "java/util/Iterator") }, accessFlags := 1025, code := none }
def k7m2 : Method := { name := "clear", desc := "()V", sig := { parameters := [], returnType := none }, accessFlags := 1025, code := none }
/-- java/util/List -/
def k7 : Class := { plain "java/util/List" (some 0) with
  accessFlags := 1537
  interfaces := #[6]
  cf := some (fileOf pool7 8 #[] #[{ accessFlags := 1025, nameIndex := 79, descriptorIndex := 80, attributes := #[] }, { accessFlags := 1025, nameIndex := 123, descriptorIndex := 124, attributes := #[] }, { accessFlags := 1025, nameIndex := 169, descriptorIndex := 72, attributes := #[] }] 1537 103 #[120] #[])
  fields := #[]
  methods := #[k7m0, k7m1, k7m2]
  instanceTypes := #[]
  staticTypes := #[]
  resolved := Array.replicate 251 none
  statics := none }

def pool8 : Array CpInfo := pool [(1, .methodref 2 3), (0, .class_ 4), (0, .nameAndType 5 6), (0, u "java/util/AbstractCollection"), (0, u "<init>"), (0, u "()V"), (0, .fieldref 8 9), (0, .class_ 10), (0, .nameAndType 11 12), (0, u "java/util/AbstractList"), (0, u "modCount"), (0, u "I"), (64, .class_ 78), (0, u "java/util/AbstractList$Itr"), (3, .class_ 83), (0, u "java/util/AbstractList$ListItr"), (9, .class_ 94), (0, u "java/util/AbstractList$RandomAccessSubList"), (3, .class_ 99), (0, u "java/util/AbstractList$SubList"), (33, .class_ 134), (0, u "java/util/List"), (73, .class_ 209), (0, u "java/util/AbstractList$SubList$1"), (0, .class_ 211), (0, u "java/util/AbstractList$RandomAccessSpliterator")] 6

def k8c0 : Code := { maxStack := 2, maxLocals := 1, code := jdk_39_method_1_code, exceptionTable := #[], attributes := #[] }
def k8m0 : Method := { name := "<init>", desc := "()V", sig := { parameters := [], returnType := none }, accessFlags := 4, code := some k8c0 }
/-- java/util/AbstractList -/
def k8 : Class := { plain "java/util/AbstractList" (some 5) with
  accessFlags := 1057
  interfaces := #[7]
  cf := some (fileOf pool8 8 #[.nestMembers #[93, 98, 208, 210, 82, 77]] #[{ accessFlags := 4, nameIndex := 5, descriptorIndex := 6, attributes := #[] }] 1057 2 #[133] #[{ accessFlags := 132, nameIndex := 11, descriptorIndex := 12, attributes := #[] }])
  fields := #[{ name := "modCount", type := .int, accessFlags := 132, slot := 0, constantValue := 0 }]
  methods := #[k8m0]
  instanceTypes := #[.int]
  staticTypes := #[]
  resolved := Array.replicate 218 none
  statics := none }

def pool9 : Array CpInfo := pool [(1, .class_ 2), (0, u "java/util/RandomAccess"), (0, .class_ 4), (0, u "java/lang/Object")] 2

/-- java/util/RandomAccess -/
def k9 : Class := { plain "java/util/RandomAccess" (some 0) with
  accessFlags := 1537
  interfaces := #[]
  cf := some (fileOf pool9 1 #[] #[] 1537 3 #[] #[])
  fields := #[]
  methods := #[]
  instanceTypes := #[]
  staticTypes := #[]
  resolved := Array.replicate 7 none
  statics := none }

def pool10 : Array CpInfo := pool [(1, .class_ 2), (0, u "java/lang/Cloneable"), (0, .class_ 4), (0, u "java/lang/Object")] 2

/-- java/lang/Cloneable -/
def k10 : Class := { plain "java/lang/Cloneable" (some 0) with
  accessFlags := 1537
  interfaces := #[]
  cf := some (fileOf pool10 1 #[] #[] 1537 3 #[] #[])
  fields := #[]
  methods := #[]
  instanceTypes := #[]
  staticTypes := #[]
  resolved := Array.replicate 7 none
  statics := none }

def pool11 : Array CpInfo := pool [(1, .class_ 2), (0, u "java/io/Serializable"), (0, .class_ 4), (0, u "java/lang/Object")] 2

/-- java/io/Serializable -/
def k11 : Class := { plain "java/io/Serializable" (some 0) with
  accessFlags := 1537
  interfaces := #[]
  cf := some (fileOf pool11 1 #[] #[] 1537 3 #[] #[])
  fields := #[]
  methods := #[]
  instanceTypes := #[]
  staticTypes := #[]
  resolved := Array.replicate 7 none
  statics := none }

def pool12 : Array CpInfo := pool [(1, .methodref 2 3), (0, .class_ 4), (0, .nameAndType 5 6), (0, u "java/util/AbstractList"), (0, u "<init>"), (0, u "()V"), (2, .fieldref 10 11), (0, .class_ 12), (0, .nameAndType 13 14), (0, u "java/util/ArrayList"), (0, u "elementData"), (0, u "[Ljava/lang/Object;"), (2, u "EMPTY_ELEMENTDATA"), (21, .fieldref 10 40), (0, .nameAndType 41 14), (0, u "DEFAULTCAPACITY_EMPTY_ELEMENTDATA"), (6, .fieldref 10 49), (0, .nameAndType 50 51), (0, u "size"), (0, u "I"), (11, .fieldref 10 64), (0, .nameAndType 65 51), (0, u "modCount"), (82, .class_ 149), (0, u "java/util/List"), (16, u "iterator"), (0, u "()Ljava/util/Iterator;"), (18, u "()I"), (75, .class_ 263), (0, u "java/util/ArrayList$ListItr"), (3, .class_ 268), (0, u "java/util/ArrayList$Itr"), (0, .methodref 267 270), (0, .nameAndType 5 271), (0, u "(Ljava/util/ArrayList;)V"), (4, .class_ 277), (0, u "java/util/ArrayList$SubList"), (12, .class_ 291), (0, u "java/util/ArrayList$ArrayListSpliterator"), (37, .class_ 330), (0, u "java/util/RandomAccess"), (0, .class_ 332), (0, u "java/lang/Cloneable"), (0, .class_ 334), (0, u "java/io/Serializable"), (0, u "serialVersionUID"), (0, u "J"), (3, u "DEFAULT_CAPACITY"), (78, u "clear"), (80, .class_ 501), (0, u "java/util/ArrayList$SubList$2"), (0, .class_ 503), (0, u "java/util/ArrayList$SubList$1")] 5

def k12c0 : Code := { maxStack := 2, maxLocals := 1, code := jdk_38_method_2_code, exceptionTable := #[], attributes := #[] }
def k12m0 : Method := { name := "<init>", desc := "()V", sig := { parameters := [], returnType := none }, accessFlags := 1, code := some k12c0 }
def k12c1 : Code := { maxStack := 1, maxLocals := 1, code := jdk_38_method_8_code, exceptionTable := #[], attributes := #[] }
def k12m1 : Method := { name := "size", desc := "()I", sig := { parameters := [], returnType := some .int }, accessFlags := 1, code := some k12c1 }
def k12c2 : Code := { maxStack := 3, maxLocals := 4, code := jdk_38_method_40_code, exceptionTable := #[], attributes := #[] }
def k12m2 : Method := { name := "clear", desc := "()V", sig := { parameters := [], returnType := none }, accessFlags := 1, code := some k12c2 }
def k12c3 : Code := { maxStack := 3, maxLocals := 1, code := jdk_38_method_55_code, exceptionTable := #[], attributes := #[] }
def k12m3 : Method := { name := "iterator", desc := "()Ljava/util/Iterator;", sig := { parameters := [], returnType := some (.object "java/util/Iterator") }, accessFlags := 1, code := some k12c3 }
/-- java/util/ArrayList -/
def k12 : Class := { plain "java/util/ArrayList" (some 8) with
  accessFlags := 33
  interfaces := #[7, 9, 10, 11]
  cf := some (fileOf pool12 10 #[.nestMembers #[290, 276, 500, 502, 262, 267]] #[{ accessFlags := 1, nameIndex := 5, descriptorIndex := 6, attributes := #[] }, { accessFlags := 1, nameIndex := 50, descriptorIndex := 186, attributes := #[] }, { accessFlags := 1, nameIndex := 419, descriptorIndex := 6, attributes := #[] }, { accessFlags := 1, nameIndex := 166, descriptorIndex := 167, attributes := #[] }] 33 2 #[148, 329, 331, 333] #[{ accessFlags := 26, nameIndex := 335, descriptorIndex := 336, attributes := #[] }, { accessFlags := 26, nameIndex := 340, descriptorIndex := 51, attributes := #[] }, { accessFlags := 26, nameIndex := 17, descriptorIndex := 14, attributes := #[] }, { accessFlags := 26, nameIndex := 41, descriptorIndex := 14, attributes := #[] }, { accessFlags := 128, nameIndex := 13, descriptorIndex := 14, attributes := #[] }, { accessFlags := 2, nameIndex := 50, descriptorIndex := 51, attributes := #[] }])
  fields := #[{ name := "serialVersionUID", type := .long, accessFlags := 26, slot := 0, constantValue := 0 }, { name := "DEFAULT_CAPACITY", type := .int, accessFlags := 26, slot := 1, constantValue := 0 }, { name := "EMPTY_ELEMENTDATA", type := (.array (.object "java/lang/Object")), accessFlags := 26, slot := 2, constantValue := 0 }, { name := "DEFAULTCAPACITY_EMPTY_ELEMENTDATA", type := (.array (.object "java/lang/Object")), accessFlags := 26, slot := 3, constantValue := 0 }, { name := "elementData", type := (.array (.object "java/lang/Object")), accessFlags := 128, slot := 1, constantValue := 0 }, { name := "size", type := .int, accessFlags := 2, slot := 2, constantValue := 0 }]
  methods := #[k12m0, k12m1, k12m2, k12m3]
  instanceTypes := #[.int, (.array (.object "java/lang/Object")), .int]
  staticTypes := #[.long, .int, (.array (.object "java/lang/Object")), (.array (.object "java/lang/Object"))]
  resolved := Array.replicate 509 none
  statics := some 0 }

def pool13 : Array CpInfo := pool [(2, .class_ 4), (1, u "java/lang/Object"), (0, u "<init>"), (0, u "()V"), (7, .class_ 16), (1, u "java/util/Arrays"), (57, .class_ 76), (1, u "java/util/Arrays$NaturalOrder"), (36, .class_ 115), (1, u "java/util/Arrays$LegacyMergeSort"), (1, u "Z"), (32, .methodref 151 152), (0, .class_ 153), (0, .nameAndType 154 155), (0, u "java/lang/System"), (0, u "arraycopy"), (0, u "(Ljava/lang/Object;ILjava/lang/Object;II)V"), (146, u "copyOf"), (1, .methodref 305 306), (0, .class_ 307), (0, .nameAndType 308 309), (0, u "java/lang/Math"), (0, u "min"), (0, u "(II)I"), (65, .class_ 376), (0, u "java/util/Arrays$ArrayList"), (68, u "$assertionsDisabled"), (269, u "MIN_ARRAY_SORT_GRAN"), (0, u "I"), (2, u "INSERTIONSORT_THRESHOLD"), (155, u "([DI)[D"), (99, .class_ 976), (0, u "java/util/Arrays$ArrayItr")] 52

def k13m0 : Method := { name := "<init>", desc := "()V", sig := { parameters := [], returnType := none }, accessFlags := 2, code := none }
def k13c1 : Code := { maxStack := 6, maxLocals := 3, code := jdk_65_method_127_code, exceptionTable := #[], attributes := #[] }
def k13m1 : Method := { name := "copyOf", desc := "([DI)[D", sig := { parameters := [(.array .double), .int], returnType := some (.array .double) }, accessFlags := 9, code := some k13c1 }
/-- java/util/Arrays -/
def k13 : Class := { plain "java/util/Arrays" (some 0) with
  accessFlags := 49
  interfaces := #[]
  cf := some (fileOf pool13 14 #[.nestMembers #[975, 375, 113, 74]] #[{ accessFlags := 2, nameIndex := 5, descriptorIndex := 6, attributes := #[] }, { accessFlags := 9, nameIndex := 302, descriptorIndex := 875, attributes := #[] }] 49 2 #[] #[{ accessFlags := 26, nameIndex := 715, descriptorIndex := 716, attributes := #[] }, { accessFlags := 26, nameIndex := 719, descriptorIndex := 716, attributes := #[] }, { accessFlags := 4120, nameIndex := 445, descriptorIndex := 117, attributes := #[] }])
  fields := #[{ name := "MIN_ARRAY_SORT_GRAN", type := .int, accessFlags := 26, slot := 0, constantValue := 0 }, { name := "INSERTIONSORT_THRESHOLD", type := .int, accessFlags := 26, slot := 1, constantValue := 0 }, { name := "$assertionsDisabled", type := .boolean, accessFlags := 4120, slot := 2, constantValue := 0 }]
  methods := #[k13m0, k13m1]
  instanceTypes := #[]
  staticTypes := #[.int, .int, .boolean]
  resolved := Array.replicate 1029 none
  statics := none }

def pool14 : Array CpInfo := pool [(1, .class_ 2), (0, u "java/lang/Math"), (1, .class_ 6), (1, u "java/lang/Object"), (0, u "<init>"), (0, u "()V"), (89, .class_ 100), (1, u "java/lang/Math$RandomNumberGeneratorHolder"), (71, u "negativeZeroFloatBits"), (0, u "J"), (2, u "negativeZeroDoubleBits"), (24, u "min"), (43, u "$assertionsDisabled"), (0, u "Z"), (88, u "(II)I"), (2, u "twoToTheDoubleScaleDown"), (0, u "D"), (4, u "twoToTheDoubleScaleUp"), (9, u "E"), (3, u "PI"), (2, u "TAU"), (2, u "DEGREES_TO_RADIANS"), (0, u "RADIANS_TO_DEGREES")] 94

def k14m0 : Method := { name := "<init>", desc := "()V", sig := { parameters := [], returnType := none }, accessFlags := 2, code := none }
def k14c1 : Code := { maxStack := 2, maxLocals := 2, code := jdk_29_method_69_code, exceptionTable := #[], attributes := #[] }
def k14m1 : Method := { name := "min", desc := "(II)I", sig := { parameters := [.int, .int], returnType := some .int }, accessFlags := 9, code := some k14c1 }
/-- java/lang/Math -/
def k14 : Class := { plain "java/lang/Math" (some 0) with
  accessFlags := 49
  interfaces := #[]
  cf := some (fileOf pool14 1 #[.nestMembers #[98]] #[{ accessFlags := 2, nameIndex := 7, descriptorIndex := 8, attributes := #[] }, { accessFlags := 9, nameIndex := 201, descriptorIndex := 335, attributes := #[] }] 49 4 #[] #[{ accessFlags := 25, nameIndex := 354, descriptorIndex := 339, attributes := #[] }, { accessFlags := 25, nameIndex := 358, descriptorIndex := 339, attributes := #[] }, { accessFlags := 25, nameIndex := 361, descriptorIndex := 339, attributes := #[] }, { accessFlags := 26, nameIndex := 364, descriptorIndex := 339, attributes := #[] }, { accessFlags := 26, nameIndex := 365, descriptorIndex := 339, attributes := #[] }, { accessFlags := 26, nameIndex := 172, descriptorIndex := 173, attributes := #[] }, { accessFlags := 26, nameIndex := 176, descriptorIndex := 173, attributes := #[] }, { accessFlags := 8, nameIndex := 344, descriptorIndex := 339, attributes := #[] }, { accessFlags := 8, nameIndex := 338, descriptorIndex := 339, attributes := #[] }, { accessFlags := 4120, nameIndex := 245, descriptorIndex := 246, attributes := #[] }])
  fields := #[{ name := "E", type := .double, accessFlags := 25, slot := 0, constantValue := 0 }, { name := "PI", type := .double, accessFlags := 25, slot := 1, constantValue := 0 }, { name := "TAU", type := .double, accessFlags := 25, slot := 2, constantValue := 0 }, { name := "DEGREES_TO_RADIANS", type := .double, accessFlags := 26, slot := 3, constantValue := 0 }, { name := "RADIANS_TO_DEGREES", type := .double, accessFlags := 26, slot := 4, constantValue := 0 }, { name := "negativeZeroFloatBits", type := .long, accessFlags := 26, slot := 5, constantValue := 0 }, { name := "negativeZeroDoubleBits", type := .long, accessFlags := 26, slot := 6, constantValue := 0 }, { name := "twoToTheDoubleScaleUp", type := .double, accessFlags := 8, slot := 7, constantValue := 0 }, { name := "twoToTheDoubleScaleDown", type := .double, accessFlags := 8, slot := 8, constantValue := 0 }, { name := "$assertionsDisabled", type := .boolean, accessFlags := 4120, slot := 9, constantValue := 0 }]
  methods := #[k14m0, k14m1]
  instanceTypes := #[]
  staticTypes := #[.double, .double, .double, .double, .double, .long, .long, .double, .double, .boolean]
  resolved := Array.replicate 460 none
  statics := none }

def pool15 : Array CpInfo := pool [(2, .class_ 4), (1, u "java/lang/Object"), (0, u "<init>"), (0, u "()V"), (1, .class_ 10), (1, u "java/lang/System"), (0, u "allowSecurityManager"), (0, u "I"), (16, u "cons"), (0, u "Ljava/io/Console;"), (77, .class_ 110), (1, u "java/lang/System$CallersHolder"), (43, u "initialErrStream"), (0, u "Ljava/io/PrintStream;"), (19, u "security"), (0, u "Ljava/lang/SecurityManager;"), (31, .class_ 209), (0, u "java/lang/System$1"), (7, u "props"), (0, u "Ljava/util/Properties;"), (2, u "lineSeparator"), (0, u "Ljava/lang/String;"), (96, .class_ 321), (1, u "java/lang/System$LoggerFinder"), (5, .class_ 328), (0, u "java/lang/System$Logger"), (67, u "err"), (2, u "out"), (91, u "notSupportedJnuEncoding"), (15, u "in"), (17, u "initialIn"), (0, u "Ljava/io/InputStream;"), (35, u "bootLayer"), (0, u "Ljava/lang/ModuleLayer;"), (99, .class_ 664), (0, u "java/lang/System$2"), (9, u "NEVER"), (2, u "MAYBE"), (49, u "arraycopy"), (0, u "(Ljava/lang/Object;ILjava/lang/Object;II)V"), (72, .class_ 802), (0, u "java/lang/System$Logger$Level")] 31

def k15m0 : Method := { name := "<init>", desc := "()V", sig := { parameters := [], returnType := none }, accessFlags := 2, code := none }
def k15m1 : Method := { name := "arraycopy", desc := "(Ljava/lang/Object;ILjava/lang/Object;II)V", sig := { parameters := [(.object "java/lang/Object"), .int, (.object "java/lang/Object"), .int, .int], returnType := none }, accessFlags := 265, code := none }
/-- java/lang/System -/
def k15 : Class := { plain "java/lang/System" (some 0) with
  accessFlags := 49
  interfaces := #[]
  cf := some (fileOf pool15 8 #[.nestMembers #[319, 327, 801, 108, 663, 208]] #[{ accessFlags := 2, nameIndex := 5, descriptorIndex := 6, attributes := #[] }, { accessFlags := 265, nameIndex := 727, descriptorIndex := 728, attributes := #[] }] 49 2 #[] #[{ accessFlags := 25, nameIndex := 507, descriptorIndex := 526, attributes := #[] }, { accessFlags := 25, nameIndex := 399, descriptorIndex := 155, attributes := #[] }, { accessFlags := 25, nameIndex := 396, descriptorIndex := 155, attributes := #[] }, { accessFlags := 10, nameIndex := 525, descriptorIndex := 526, attributes := #[] }, { accessFlags := 26, nameIndex := 674, descriptorIndex := 12, attributes := #[] }, { accessFlags := 26, nameIndex := 677, descriptorIndex := 12, attributes := #[] }, { accessFlags := 10, nameIndex := 11, descriptorIndex := 12, attributes := #[] }, { accessFlags := 74, nameIndex := 175, descriptorIndex := 176, attributes := #[] }, { accessFlags := 10, nameIndex := 491, descriptorIndex := 222, attributes := #[] }, { accessFlags := 74, nameIndex := 29, descriptorIndex := 30, attributes := #[] }, { accessFlags := 74, nameIndex := 154, descriptorIndex := 155, attributes := #[] }, { accessFlags := 10, nameIndex := 217, descriptorIndex := 218, attributes := #[] }, { accessFlags := 10, nameIndex := 221, descriptorIndex := 222, attributes := #[] }, { accessFlags := 8, nameIndex := 562, descriptorIndex := 563, attributes := #[] }])
  fields := #[{ name := "in", type := (.object "java/io/InputStream"), accessFlags := 25, slot := 0, constantValue := 0 }, { name := "out", type := (.object "java/io/PrintStream"), accessFlags := 25, slot := 1, constantValue := 0 }, { name := "err", type := (.object "java/io/PrintStream"), accessFlags := 25, slot := 2, constantValue := 0 }, { name := "initialIn", type := (.object "java/io/InputStream"), accessFlags := 10, slot := 3, constantValue := 0 }, { name := "NEVER", type := .int, accessFlags := 26, slot := 4, constantValue := 0 }, { name := "MAYBE", type := .int, accessFlags := 26, slot := 5, constantValue := 0 }, { name := "allowSecurityManager", type := .int, accessFlags := 10, slot := 6, constantValue := 0 }, { name := "security", type := (.object "java/lang/SecurityManager"), accessFlags := 74, slot := 7, constantValue := 0 }, { name := "notSupportedJnuEncoding", type := (.object "java/lang/String"), accessFlags := 10, slot := 8, constantValue := 0 }, { name := "cons", type := (.object "java/io/Console"), accessFlags := 74, slot := 9, constantValue := 0 }, { name := "initialErrStream", type := (.object "java/io/PrintStream"), accessFlags := 74, slot := 10, constantValue := 0 }, { name := "props", type := (.object "java/util/Properties"), accessFlags := 10, slot := 11, constantValue := 0 }, { name := "lineSeparator", type := (.object "java/lang/String"), accessFlags := 10, slot := 12, constantValue := 0 }, { name := "bootLayer", type := (.object "java/lang/ModuleLayer"), accessFlags := 8, slot := 13, constantValue := 0 }]
  methods := #[k15m0, k15m1]
  instanceTypes := #[]
  staticTypes := #[(.object "java/io/InputStream"), (.object "java/io/PrintStream"), (.object "java/io/PrintStream"), (.object "java/io/InputStream"), .int, .int, .int, (.object "java/lang/SecurityManager"), (.object "java/lang/String"), (.object "java/io/Console"), (.object "java/io/PrintStream"), (.object "java/util/Properties"), (.object "java/lang/String"), (.object "java/lang/ModuleLayer")]
  resolved := Array.replicate 834 none
  statics := none }

def pool16 : Array CpInfo := pool [(16, .class_ 18), (1, u "java/util/Iterator"), (0, u "hasNext"), (0, u "()Z"), (10, .class_ 32), (0, u "java/lang/Object")] 20

def k16m0 : Method := { name := "hasNext", desc := "()Z", sig := { parameters := [], returnType := some .boolean }, accessFlags := 1025, code := none }
/-- java/util/Iterator -/
def k16 : Class := { plain "java/util/Iterator" (some 0) with
  accessFlags := 1537
  interfaces := #[]
  cf := some (fileOf pool16 16 #[] #[{ accessFlags := 1025, nameIndex := 19, descriptorIndex := 20, attributes := #[] }] 1537 31 #[] #[])
  fields := #[]
  methods := #[k16m0]
  instanceTypes := #[]
  staticTypes := #[]
  resolved := Array.replicate 53 none
  statics := none }

def pool17 : Array CpInfo := pool [(1, .fieldref 2 3), (0, .class_ 4), (0, .nameAndType 5 6), (0, u "java/util/ArrayList$Itr"), (0, u "this$0"), (0, u "Ljava/util/ArrayList;"), (0, .methodref 8 9), (0, .class_ 10), (0, .nameAndType 11 12), (0, u "java/lang/Object"), (0, u "<init>"), (0, u "()V"), (0, .fieldref 2 14), (0, .nameAndType 15 16), (0, u "lastRet"), (0, u "I"), (0, .fieldref 18 19), (0, .class_ 20), (0, .nameAndType 21 16), (0, u "java/util/ArrayList"), (0, u "modCount"), (0, .fieldref 2 23), (0, .nameAndType 24 16), (0, u "expectedModCount"), (0, .fieldref 2 26), (0, .nameAndType 27 16), (0, u "cursor"), (0, .fieldref 18 29), (0, .nameAndType 30 16), (0, u "size"), (38, .class_ 70), (0, u "java/util/Iterator"), (0, u "(Ljava/util/ArrayList;)V"), (8, u "hasNext"), (0, u "()Z")] 22

def k17c0 : Code := { maxStack := 2, maxLocals := 2, code := jdk_49_method_1_code, exceptionTable := #[], attributes := #[] }
def k17m0 : Method := { name := "<init>", desc := "(Ljava/util/ArrayList;)V", sig := { parameters := [(.object "java/util/ArrayList")], returnType := none }, accessFlags := 0, code := some k17c0 }
def k17c1 : Code := { maxStack := 2, maxLocals := 1, code := jdk_49_method_2_code, exceptionTable := #[], attributes := #[] }
def k17m1 : Method := { name := "hasNext", desc := "()Z", sig := { parameters := [], returnType := some .boolean }, accessFlags := 1, code := some k17c1 }
/-- java/util/ArrayList$Itr -/
def k17 : Class := { plain "java/util/ArrayList$Itr" (some 0) with
  accessFlags := 32
  interfaces := #[16]
  cf := some (fileOf pool17 2 #[.nestHost 18] #[{ accessFlags := 0, nameIndex := 11, descriptorIndex := 71, attributes := #[] }, { accessFlags := 1, nameIndex := 80, descriptorIndex := 81, attributes := #[] }] 32 8 #[69] #[{ accessFlags := 0, nameIndex := 27, descriptorIndex := 16, attributes := #[] }, { accessFlags := 0, nameIndex := 15, descriptorIndex := 16, attributes := #[] }, { accessFlags := 0, nameIndex := 24, descriptorIndex := 16, attributes := #[] }, { accessFlags := 4112, nameIndex := 5, descriptorIndex := 6, attributes := #[] }])
  fields := #[{ name := "cursor", type := .int, accessFlags := 0, slot := 0, constantValue := 0 }, { name := "lastRet", type := .int, accessFlags := 0, slot := 1, constantValue := 0 }, { name := "expectedModCount", type := .int, accessFlags := 0, slot := 2, constantValue := 0 }, { name := "this$0", type := (.object "java/util/ArrayList"), accessFlags := 4112, slot := 3, constantValue := 0 }]
  methods := #[k17m0, k17m1]
  instanceTypes := #[.int, .int, .int, (.object "java/util/ArrayList")]
  staticTypes := #[]
  resolved := Array.replicate 104 none
  statics := none }

/-- the primitive byte -/
def k18 : Class := { plain "byte" none with kind := .primitive 'B', accessFlags := 0x411 }
/-- [B -/
def k19 : Class := { plain "[B" (some 0) with kind := .array 18 .byte, interfaces := #[10, 11], accessFlags := 1041 }

/-- the primitive int -/
def k20 : Class := { plain "int" none with kind := .primitive 'I', accessFlags := 0x411 }
/-- [I -/
def k21 : Class := { plain "[I" (some 0) with kind := .array 20 .int, interfaces := #[10, 11], accessFlags := 1041 }
/-- the primitive double -/
def kdd : Class := { plain "double" none with kind := .primitive 'D', accessFlags := 0x411 }
/-- [D -/
def kda : Class := { plain "[D" (some 0) with kind := .array 23 .double, interfaces := #[10, 11], accessFlags := 1041 }

/-- [Ljava/lang/Object; -/
def k22 : Class := { plain "[Ljava/lang/Object;" (some 0) with kind := .array 0 (.object "java/lang/Object"), interfaces := #[10, 11], accessFlags := 1041 }

def heap : Heap := #[{ cls := 12, slots := #[.long 0, .int 0, .ref 1, .ref 2], vm := .statics 12 },
  { cls := 22, slots := #[], vm := .none },
  { cls := 22, slots := #[], vm := .none }]
def classes : Array Class := #[k0, k1, k2, k3, k4, k5, k6, k7, k8, k9, k10, k11, k12, k13, k14, k15, k16, k17, k18, k19, k20, k21, k22, kdd, kda]
def interned : List (Array UInt16 × Addr) := []
def slotsUsed : Nat := 4
def theMethod : MethodId := ⟨1, 1⟩
def args0 : Array Value := #[.int 2, .int 5, .int 6, .int 7]
def aboutOver (below : List Frame) : State where
  vm := { classes := classes, interned := interned.toArray }
  heap := heap
  slotsUsed := slotsUsed
  threads := #[{ frames := .invoking theMethod args0 :: below }]
def below0 : List Frame := [.native { method := ⟨0, 0⟩, args := #[] }]
def about1 : State := aboutOver below0
def p0 : Program := .bare "" "" ""
def e0 : Env := launch0.env 0 0 0
theorem w_frames : about1.frames = Frame.invoking theMethod args0 :: below0 := rfl
set_option maxRecDepth 65536 in
theorem w_args : argsFit about1.vm theMethod args0 = true := by decide +kernel
set_option maxRecDepth 65536 in
theorem w_heap : heapFits about1 = true := by decide +kernel
set_option maxRecDepth 65536 in
theorem w_runnable : about1.curStatus? = some .runnable := by decide +kernel
set_option maxRecDepth 65536 in
theorem w_alone : about1.alone = true := by decide +kernel
set_option maxRecDepth 65536 in
theorem w_named : about1.methodNamed? x = some theMethod := by decide +kernel
set_option maxRecDepth 65536 in
theorem w_hears : about1.hears theMethod below0 = true := by decide +kernel
set_option maxRecDepth 65536 in
theorem w_ripe : about1.ripe theMethod args0 below0 = true := by decide +kernel
theorem w_running : about1.status = .running := rfl
set_option maxRecDepth 65536 in
theorem w_room : about1.hasRoom e0.platform room_1 = true :=
  launch0.hasRoom_least _ room_1 (by decide +kernel) (by decide +kernel) (by decide +kernel) (by decide +kernel) (by decide +kernel) (by decide +kernel)
theorem allAtoms_all (ts : List Jvm.Cond) (a : Array Jvm.Value) (st : Jvm.State) : (allAtoms ts).before a st = ts.all (fun c => c.before a st) := by
  induction ts with
  | nil => rfl
  | cons c t ih =>
    show (Jvm.Cond.and c (allAtoms t)).before a st = _
    rw [Jvm.Cond.before_and, ih, List.all_cons]
def words1 : List Jvm.Cond := Jvm.Cond.code x code maxLocals ret :: tables_1
/-- a 'code' word, met by the world's own term for the bytes: nothing is compared byte by byte -/
theorem code_word {y : MethodName} {bytes : ByteArray} {mx : Nat} {rt : Option FieldType} {a : Array Value} {s : State} {m : MethodId} {meth : Method} {c : Code} (h1 : s.methodNamed? y = some m) (h2 : s.vm.method? m = some meth) (h3 : meth.code = some c) (h4 : c.code = bytes)
    (h5 : (c.maxLocals == mx && c.exceptionTable.isEmpty && decide (c.maxStack ≤ mostOperands) && decide (meth.sig.returnType = rt) && !meth.locks && decide (parseMethodDescriptor y.desc = some meth.sig)) = true) : (Jvm.Cond.code y bytes mx rt).before a s = true := by
  simp only [Bool.and_eq_true, beq_iff_eq, Bool.not_eq_true', decide_eq_true_eq] at h5
  obtain ⟨⟨⟨⟨⟨g1, g2⟩, g3⟩, g4⟩, g5⟩, g6⟩ := h5
  simp [Cond.before, Cond.holds, Cond.value, h1, h2, h3, h4, g1, g2, g3, g4, g5, g6]
def isCode : Jvm.Cond → Bool
  | .code _ _ _ _ => true
  | _ => false
theorem all_split {L : List Jvm.Cond} {P : Jvm.Cond → Bool} (h1 : L.all (fun c => isCode c || P c) = true) (h2 : ∀ c ∈ L.filter isCode, P c = true) : L.all P = true := by
  refine List.all_eq_true.mpr fun c hc => ?_
  have h := List.all_eq_true.mp h1 c hc
  rcases Bool.eq_false_or_eq_true (isCode c) with hi | hi
  · exact h2 c (List.mem_filter.mpr ⟨hc, hi⟩)
  · simpa [hi] using h
set_option maxRecDepth 65536 in
theorem w_c0 : (Jvm.Cond.code x code maxLocals ret).before args0 about1 = true := code_word (m := ⟨1, 1⟩) (meth := k1m1) (c := k1c1) (by decide +kernel) rfl rfl rfl (by decide +kernel)
set_option maxRecDepth 65536 in
theorem w_c1 : (Jvm.Cond.code ({ cls := "com/example/crisp_haptics/crisphaptics/SampleBlocks", name := "<init>", desc := "()V" } : Jvm.MethodName) prog_82_method_1_code (1 : Nat) (Option.none : Option Jvm.ClassFile.FieldType)).before args0 about1 = true := code_word (m := ⟨2, 0⟩) (meth := k2m0) (c := k2c0) (by decide +kernel) rfl rfl rfl (by decide +kernel)
set_option maxRecDepth 65536 in
theorem w_c2 : (Jvm.Cond.code ({ cls := "java/lang/Object", name := "<init>", desc := "()V" } : Jvm.MethodName) object_method_1_code (1 : Nat) (Option.none : Option Jvm.ClassFile.FieldType)).before args0 about1 = true := code_word (m := ⟨0, 0⟩) (meth := k0m0) (c := k0c0) (by decide +kernel) rfl rfl rfl (by decide +kernel)
set_option maxRecDepth 65536 in
theorem w_c3 : (Jvm.Cond.code ({ cls := "java/util/ArrayList", name := "<init>", desc := "()V" } : Jvm.MethodName) jdk_38_method_2_code (1 : Nat) (Option.none : Option Jvm.ClassFile.FieldType)).before args0 about1 = true := code_word (m := ⟨12, 0⟩) (meth := k12m0) (c := k12c0) (by decide +kernel) rfl rfl rfl (by decide +kernel)
set_option maxRecDepth 65536 in
theorem w_c4 : (Jvm.Cond.code ({ cls := "java/util/AbstractList", name := "<init>", desc := "()V" } : Jvm.MethodName) jdk_39_method_1_code (1 : Nat) (Option.none : Option Jvm.ClassFile.FieldType)).before args0 about1 = true := code_word (m := ⟨8, 0⟩) (meth := k8m0) (c := k8c0) (by decide +kernel) rfl rfl rfl (by decide +kernel)
set_option maxRecDepth 65536 in
theorem w_c5 : (Jvm.Cond.code ({ cls := "java/util/AbstractCollection", name := "<init>", desc := "()V" } : Jvm.MethodName) jdk_22_method_1_code (1 : Nat) (Option.none : Option Jvm.ClassFile.FieldType)).before args0 about1 = true := code_word (m := ⟨5, 0⟩) (meth := k5m0) (c := k5c0) (by decide +kernel) rfl rfl rfl (by decide +kernel)
set_option maxRecDepth 65536 in
theorem w_c6 : (Jvm.Cond.code ({ cls := "com/example/crisp_haptics/crisphaptics/SampleBlocks", name := "fitToCount", desc := "()V" } : Jvm.MethodName) prog_82_method_4_code (1 : Nat) (Option.none : Option Jvm.ClassFile.FieldType)).before args0 about1 = true := code_word (m := ⟨2, 3⟩) (meth := k2m3) (c := k2c3) (by decide +kernel) rfl rfl rfl (by decide +kernel)
set_option maxRecDepth 65536 in
theorem w_c7 : (Jvm.Cond.code ({ cls := "java/util/Arrays", name := "copyOf", desc := "([DI)[D" } : Jvm.MethodName) jdk_65_method_127_code (3 : Nat) (Option.some (Jvm.ClassFile.FieldType.array Jvm.ClassFile.FieldType.double))).before args0 about1 = true := code_word (m := ⟨13, 1⟩) (meth := k13m1) (c := k13c1) (by decide +kernel) rfl rfl rfl (by decide +kernel)
set_option maxRecDepth 65536 in
theorem w_c8 : (Jvm.Cond.code ({ cls := "java/lang/Math", name := "min", desc := "(II)I" } : Jvm.MethodName) jdk_29_method_69_code (2 : Nat) (Option.some Jvm.ClassFile.FieldType.int)).before args0 about1 = true := code_word (m := ⟨14, 1⟩) (meth := k14m1) (c := k14c1) (by decide +kernel) rfl rfl rfl (by decide +kernel)
set_option maxRecDepth 65536 in
theorem w_c9 : (Jvm.Cond.code ({ cls := "com/example/crisp_haptics/crisphaptics/SampleBlocks", name := "moveToArray", desc := "()[D" } : Jvm.MethodName) prog_82_method_5_code (5 : Nat) (Option.some (Jvm.ClassFile.FieldType.array Jvm.ClassFile.FieldType.double))).before args0 about1 = true := code_word (m := ⟨2, 4⟩) (meth := k2m4) (c := k2c4) (by decide +kernel) rfl rfl rfl (by decide +kernel)
set_option maxRecDepth 65536 in
theorem w_c10 : (Jvm.Cond.code ({ cls := "java/util/ArrayList", name := "size", desc := "()I" } : Jvm.MethodName) jdk_38_method_8_code (1 : Nat) (Option.some Jvm.ClassFile.FieldType.int)).before args0 about1 = true := code_word (m := ⟨12, 1⟩) (meth := k12m1) (c := k12c1) (by decide +kernel) rfl rfl rfl (by decide +kernel)
set_option maxRecDepth 65536 in
theorem w_c11 : (Jvm.Cond.code ({ cls := "java/util/ArrayList", name := "iterator", desc := "()Ljava/util/Iterator;" } : Jvm.MethodName) jdk_38_method_55_code (1 : Nat) (Option.some (Jvm.ClassFile.FieldType.object "java/util/Iterator"))).before args0 about1 = true := code_word (m := ⟨12, 3⟩) (meth := k12m3) (c := k12c3) (by decide +kernel) rfl rfl rfl (by decide +kernel)
set_option maxRecDepth 65536 in
theorem w_c12 : (Jvm.Cond.code ({ cls := "java/util/ArrayList$Itr", name := "<init>", desc := "(Ljava/util/ArrayList;)V" } : Jvm.MethodName) jdk_49_method_1_code (2 : Nat) (Option.none : Option Jvm.ClassFile.FieldType)).before args0 about1 = true := code_word (m := ⟨17, 0⟩) (meth := k17m0) (c := k17c0) (by decide +kernel) rfl rfl rfl (by decide +kernel)
set_option maxRecDepth 65536 in
theorem w_c13 : (Jvm.Cond.code ({ cls := "java/util/ArrayList$Itr", name := "hasNext", desc := "()Z" } : Jvm.MethodName) jdk_49_method_2_code (1 : Nat) (Option.some Jvm.ClassFile.FieldType.boolean)).before args0 about1 = true := code_word (m := ⟨17, 1⟩) (meth := k17m1) (c := k17c1) (by decide +kernel) rfl rfl rfl (by decide +kernel)
set_option maxRecDepth 65536 in
theorem w_c14 : (Jvm.Cond.code ({ cls := "java/util/ArrayList", name := "clear", desc := "()V" } : Jvm.MethodName) jdk_38_method_40_code (4 : Nat) (Option.none : Option Jvm.ClassFile.FieldType)).before args0 about1 = true := code_word (m := ⟨12, 2⟩) (meth := k12m2) (c := k12c2) (by decide +kernel) rfl rfl rfl (by decide +kernel)
set_option maxRecDepth 65536 in
theorem w_c15 : (Jvm.Cond.code ({ cls := "com/example/crisp_haptics/crisphaptics/SampleBlocks", name := "add", desc := "(D)V" } : Jvm.MethodName) prog_82_method_2_code (3 : Nat) (Option.none : Option Jvm.ClassFile.FieldType)).before args0 about1 = true := code_word (m := ⟨2, 1⟩) (meth := k2m1) (c := k2c1) (by decide +kernel) rfl rfl rfl (by decide +kernel)
set_option maxRecDepth 65536 in
theorem w_c16 : (Jvm.Cond.code ({ cls := "com/example/crisp_haptics/crisphaptics/SampleBlocks", name := "get", desc := "(I)D" } : Jvm.MethodName) prog_82_method_3_code (4 : Nat) (Option.some Jvm.ClassFile.FieldType.double)).before args0 about1 = true := code_word (m := ⟨2, 2⟩) (meth := k2m2) (c := k2c2) (by decide +kernel) rfl rfl rfl (by decide +kernel)
def codes1 : List Jvm.Cond := [Jvm.Cond.code x code maxLocals ret, Jvm.Cond.code ({ cls := "com/example/crisp_haptics/crisphaptics/SampleBlocks", name := "<init>", desc := "()V" } : Jvm.MethodName) prog_82_method_1_code (1 : Nat) (Option.none : Option Jvm.ClassFile.FieldType), Jvm.Cond.code ({ cls := "java/lang/Object", name := "<init>", desc := "()V" } : Jvm.MethodName) object_method_1_code (1 : Nat) (Option.none : Option Jvm.ClassFile.FieldType), Jvm.Cond.code ({ cls := "java/util/ArrayList", name := "<init>", desc := "()V" } : Jvm.MethodName) jdk_38_method_2_code (1 : Nat) (Option.none : Option Jvm.ClassFile.FieldType), Jvm.Cond.code ({ cls := "java/util/AbstractList", name := "<init>", desc := "()V" } : Jvm.MethodName) jdk_39_method_1_code (1 : Nat) (Option.none : Option Jvm.ClassFile.FieldType), Jvm.Cond.code ({ cls := "java/util/AbstractCollection", name := "<init>", desc := "()V" } : Jvm.MethodName) jdk_22_method_1_code (1 : Nat) (Option.none : Option Jvm.ClassFile.FieldType), Jvm.Cond.code ({ cls := "com/example/crisp_haptics/crisphaptics/SampleBlocks", name := "fitToCount", desc := "()V" } : Jvm.MethodName) prog_82_method_4_code (1 : Nat) (Option.none : Option Jvm.ClassFile.FieldType), Jvm.Cond.code ({ cls := "java/util/Arrays", name := "copyOf", desc := "([DI)[D" } : Jvm.MethodName) jdk_65_method_127_code (3 : Nat) (Option.some (Jvm.ClassFile.FieldType.array Jvm.ClassFile.FieldType.double)), Jvm.Cond.code ({ cls := "java/lang/Math", name := "min", desc := "(II)I" } : Jvm.MethodName) jdk_29_method_69_code (2 : Nat) (Option.some Jvm.ClassFile.FieldType.int), Jvm.Cond.code ({ cls := "com/example/crisp_haptics/crisphaptics/SampleBlocks", name := "moveToArray", desc := "()[D" } : Jvm.MethodName) prog_82_method_5_code (5 : Nat) (Option.some (Jvm.ClassFile.FieldType.array Jvm.ClassFile.FieldType.double)), Jvm.Cond.code ({ cls := "java/util/ArrayList", name := "size", desc := "()I" } : Jvm.MethodName) jdk_38_method_8_code (1 : Nat) (Option.some Jvm.ClassFile.FieldType.int), Jvm.Cond.code ({ cls := "java/util/ArrayList", name := "iterator", desc := "()Ljava/util/Iterator;" } : Jvm.MethodName) jdk_38_method_55_code (1 : Nat) (Option.some (Jvm.ClassFile.FieldType.object "java/util/Iterator")), Jvm.Cond.code ({ cls := "java/util/ArrayList$Itr", name := "<init>", desc := "(Ljava/util/ArrayList;)V" } : Jvm.MethodName) jdk_49_method_1_code (2 : Nat) (Option.none : Option Jvm.ClassFile.FieldType), Jvm.Cond.code ({ cls := "java/util/ArrayList$Itr", name := "hasNext", desc := "()Z" } : Jvm.MethodName) jdk_49_method_2_code (1 : Nat) (Option.some Jvm.ClassFile.FieldType.boolean), Jvm.Cond.code ({ cls := "java/util/ArrayList", name := "clear", desc := "()V" } : Jvm.MethodName) jdk_38_method_40_code (4 : Nat) (Option.none : Option Jvm.ClassFile.FieldType), Jvm.Cond.code ({ cls := "com/example/crisp_haptics/crisphaptics/SampleBlocks", name := "add", desc := "(D)V" } : Jvm.MethodName) prog_82_method_2_code (3 : Nat) (Option.none : Option Jvm.ClassFile.FieldType), Jvm.Cond.code ({ cls := "com/example/crisp_haptics/crisphaptics/SampleBlocks", name := "get", desc := "(I)D" } : Jvm.MethodName) prog_82_method_3_code (4 : Nat) (Option.some Jvm.ClassFile.FieldType.double)]
set_option maxRecDepth 65536 in
theorem codes_eq : words1.filter isCode = codes1 := rfl
theorem w_codes : ∀ c ∈ words1.filter isCode, c.before args0 about1 = true := by
  rw [codes_eq]
  intro c hc
  simp only [codes1, List.mem_cons, List.not_mem_nil, or_false] at hc
  rcases hc with rfl | rfl | rfl | rfl | rfl | rfl | rfl | rfl | rfl | rfl | rfl | rfl | rfl | rfl | rfl | rfl | rfl
  · exact w_c0
  · exact w_c1
  · exact w_c2
  · exact w_c3
  · exact w_c4
  · exact w_c5
  · exact w_c6
  · exact w_c7
  · exact w_c8
  · exact w_c9
  · exact w_c10
  · exact w_c11
  · exact w_c12
  · exact w_c13
  · exact w_c14
  · exact w_c15
  · exact w_c16
set_option maxRecDepth 65536 in
theorem w_t1 : (words1.take 24).all (fun c => isCode c || c.before args0 about1) = true := by decide +kernel
set_option maxRecDepth 65536 in
theorem w_t2 : ((words1.drop 24).take 24).all (fun c => isCode c || c.before args0 about1) = true := by decide +kernel
set_option maxRecDepth 65536 in
theorem w_t3 : (((words1.drop 24).drop 24).take 24).all (fun c => isCode c || c.before args0 about1) = true := by decide +kernel
set_option maxRecDepth 65536 in
theorem w_t4 : ((((words1.drop 24).drop 24).drop 24).take 24).all (fun c => isCode c || c.before args0 about1) = true := by decide +kernel
set_option maxRecDepth 65536 in
theorem w_t5 : (((((words1.drop 24).drop 24).drop 24).drop 24).take 24).all (fun c => isCode c || c.before args0 about1) = true := by decide +kernel
set_option maxRecDepth 65536 in
theorem w_t6 : (((((words1.drop 24).drop 24).drop 24).drop 24).drop 24).all (fun c => isCode c || c.before args0 about1) = true := by decide +kernel
theorem w_tables : (allAtoms (Jvm.Cond.code x code maxLocals ret :: tables_1)).before args0 about1 = true := by
  rw [allAtoms_all]
  show words1.all (fun c => c.before args0 about1) = true
  refine all_split ?_ w_codes
  rw [← List.take_append_drop 24 words1, List.all_append, w_t1, ← List.take_append_drop 24 (words1.drop 24), List.all_append, w_t2, ← List.take_append_drop 24 ((words1.drop 24).drop 24), List.all_append, w_t3, ← List.take_append_drop 24 (((words1.drop 24).drop 24).drop 24), List.all_append, w_t4, ← List.take_append_drop 24 ((((words1.drop 24).drop 24).drop 24).drop 24), List.all_append, w_t5, w_t6]
  rfl
set_option maxRecDepth 65536 in
theorem w_rest : rest_1_c.before args0 about1 = true := by decide +kernel
set_option maxRecDepth 65536 in
theorem w_case : (Jvm.Cond.and given_1 narrow_1).before args0 about1 = true := by decide +kernel
theorem w_applies : (headSpec (Jvm.Cond.code x code maxLocals ret :: tables_1) room_1).applies x e0.platform about1 = true :=
  (Spec.applies_iff w_frames).mpr ⟨w_running, w_runnable, w_alone, w_named, w_hears, w_ripe, w_room, w_tables⟩
theorem atStart : AtStart classFile x code maxLocals ret World_1 tables_1 room_1 Calls_1 rest_1 Pre_1 launch0 p0 e0 about1 theMethod args0 below0 :=
  ⟨lists_1, trivial, launch0.admits_env _ _ _, launch0.least_env, fairChoices_fair.cas, fairChoices_fair.clock, w_frames, w_args, w_heap, w_applies, trivial, w_rest, w_case⟩
end start1
theorem witness_1 : WitnessClaimed_1 := ⟨start1.p0, start1.e0, start1.about1, start1.theMethod, start1.args0, start1.below0, start1.atStart⟩
end Jvm.Pilot.@@N@@
