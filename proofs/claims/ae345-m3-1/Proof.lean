import JvmDerived
import JvmDerived.Pilot.@@N@@Statement
import JvmDerived.Pilot.@@N@@Code
set_option linter.unusedVariables false
set_option linter.unusedSimpArgs false
@@BLOCK:NumsL.lean.txt@@
namespace Jvm.RoadKit
open Sem ClassFile Op Lib Jvm.Stand Jvm.Free Jvm.LawKit
section New
variable {p : Program} {l : Launch} {e : Env} {R : Room} {s : State} {m : MethodId} {args : Array Value} {below : List Frame} {meth : Method} {c : Code} {T : State} {locs : List Loc} {cells slots : Nat}
theorem retI (X : Stand p l e R s m args below meth c T locs cells slots) (hx : p.tables.exec = Jvm.exec) {pc : Nat} {Ls : Array Slot} {z : Int32} {rest : List Value} (hret : meth.sig.returnType = some .int) (hd : decode c.code pc = .ok (.ireturn, 1)) {fs : List Frame}
    (hl : ∀ (f : JFrame) (acts : List Action), f.method = m → f.locked = none → f.entered = [] → (doReturn e (T.setTop f) acts (some (.int z))).1 = T.setFrames fs) : Steps p.tables e below (T.setTop (mkF m pc Ls (.int z :: rest))) (T.setFrames fs) := by
  have hm' : T.vm.method? m = some meth := X.method'
  have hn : narrow .int (.int z) = .int z := rfl
  show Steps p.tables e below (T.setTop { method := m, pc := pc, locals := Ls, stack := _ :: rest, locked := none }) _
  jvm_step X.here [X.here.top, hx, hd, hm', hret, hn]
  first | (intro acts; rw [hl _ acts rfl rfl rfl]) | rw [hl _ _ rfl rfl rfl]
  exact Steps.refl _
theorem retD (X : Stand p l e R s m args below meth c T locs cells slots) (hx : p.tables.exec = Jvm.exec) {pc : Nat} {Ls : Array Slot} {z : UInt64} {rest : List Value} (hret : meth.sig.returnType = some .double) (hd : decode c.code pc = .ok (.dreturn, 1)) {fs : List Frame}
    (hl : ∀ (f : JFrame) (acts : List Action), f.method = m → f.locked = none → f.entered = [] → (doReturn e (T.setTop f) acts (some (.double z))).1 = T.setFrames fs) : Steps p.tables e below (T.setTop (mkF m pc Ls (.double z :: rest))) (T.setFrames fs) := by
  have hm' : T.vm.method? m = some meth := X.method'
  show Steps p.tables e below (T.setTop { method := m, pc := pc, locals := Ls, stack := _ :: rest, locked := none }) _
  jvm_step X.here [X.here.top, hx, hd, hm', hret]
  first | (intro acts; rw [hl _ acts rfl rfl rfl]) | rw [hl _ _ rfl rfl rfl]
  exact Steps.refl _
end New
end Jvm.RoadKit
namespace Jvm.Pilot.@@N@@
open Jvm Jvm.ClassFile Sem Op Lib Jvm.Free Jvm.Stand Jvm.LawKit Jvm.RoadKit Bundle Jvm.Pilot.@@N@@.Jvm.D
theorem jtlt {x y : Int64} (h : x < y) : ifCond.holds .lt (lcmpW x y) = true ∧ ifCond.holds .ge (lcmpW x y) = false ∧ ifCond.holds .gt (lcmpW y x) = true ∧ ifCond.holds .le (lcmpW y x) = false := by
  have h1 : ¬ y < x := by rw [Int64.lt_iff_toInt_lt] at h ⊢; omega
  have h2 : ¬ x = y := by rintro rfl; exact h1 h
  have h3 : ¬ y = x := fun q => h2 q.symm
  simp [ifCond.holds, lcmpW, h, h1, h2, h3]
theorem jflt {x y : Int64} (h : ¬ x < y) : ifCond.holds .lt (lcmpW x y) = false ∧ ifCond.holds .ge (lcmpW x y) = true ∧ ifCond.holds .gt (lcmpW y x) = false ∧ ifCond.holds .le (lcmpW y x) = true := by
  by_cases h2 : x = y
  · subst h2; simp [ifCond.holds, lcmpW, h]
  · have h1 : y < x := by rw [Int64.lt_iff_toInt_lt] at h ⊢; rw [← Int64.toInt_inj] at h2; omega
    have h3 : ¬ y = x := fun q => h2 q.symm
    simp [ifCond.holds, lcmpW, h, h1, h2, h3]
theorem jteq {x y : Int64} (h : x = y) : ifCond.holds .eq (lcmpW x y) = true ∧ ifCond.holds .ne (lcmpW x y) = false := by
  subst h
  have h1 : ¬ x < x := by rw [Int64.lt_iff_toInt_lt]; omega
  simp [ifCond.holds, lcmpW, h1]
theorem jfeq {x y : Int64} (h : ¬ x = y) : ifCond.holds .eq (lcmpW x y) = false ∧ ifCond.holds .ne (lcmpW x y) = true := by
  by_cases h1 : y < x <;> simp [ifCond.holds, lcmpW, h, h1]
theorem own_sta_keep {Z : State} {h h' : Heap} {C n d : String} {v : Value} {ws : List Addr} (F : Sta Z h C n d v) (K : Keep h h' ws) (q : ∀ x ∈ ws, ∃ c : Cell, h[x]? = some c ∧ c.vm.isStatics = false) : Sta Z h' C n d v := by
  obtain ⟨cf, i, k, f, st, cell, h1, h2, h3, h4, h5, h6, h7⟩ := F
  refine ⟨cf, i, k, f, st, cell, h1, h2, h3, h4, K.2.1 st cell h5 (fun hm => ?_), h6, h7⟩
  obtain ⟨c, e1, e2⟩ := q st hm
  rw [h5] at e1; cases e1; rw [h6] at e2; cases e2
theorem own_nostat {Z : State} {h : Heap} {a : Addr} {C : String} (E : Exa Z h a C) : ∃ c : Cell, h[a]? = some c ∧ c.vm.isStatics = false := by
  obtain ⟨cell, k, h1, -, -, h4, -⟩ := E
  exact ⟨cell, h1, h4⟩

/-! body 3 -/
theorem d3_0 : decode prog_27_method_1_code 0 = .ok (.aload_n 0, 1) := by decide +kernel
theorem d3_1 : decode prog_27_method_1_code 1 = .ok (.invokespecial 1, 3) := by decide +kernel
theorem d3_4 : decode prog_27_method_1_code 4 = .ok (.aload_n 0, 1) := by decide +kernel
theorem d3_5 : decode prog_27_method_1_code 5 = .ok (.iconst 4, 1) := by decide +kernel
theorem d3_6 : decode prog_27_method_1_code 6 = .ok (.newarray .int, 2) := by decide +kernel
theorem d3_8 : decode prog_27_method_1_code 8 = .ok (.putfield 7, 3) := by decide +kernel
theorem d3_11 : decode prog_27_method_1_code 11 = .ok (.return_, 1) := by decide +kernel
theorem pn_3 : plainName "com/example/latchwork/latchwork/history/IntList" = true := by first | (simp [plainName, overriddenIn]; done) | decide +kernel
theorem ef_3 (m : MethodId) (a1 : Addr) : entryFrame m #[(.ref a1)] 1 = mkF m 0 #[.val (.ref a1)] [] := by first | (simp [entryFrame, mkF, argsToLocals, Value.category]; done) | rfl
def Q3 (Z : State) (a1 : Addr) (h0 : Heap) (n0 : Nat) (v : Option Value) (h : Heap) (L : List Loc) : Prop := ∃ x : Addr, ∃ k : ClassId, v = none ∧ Fr n0 L ∧ Keep h0 h [a1] ∧ Fld Z h a1 "com/example/latchwork/latchwork/history/IntList" "values" "[I" (.ref x) ∧ Fld Z h a1 "com/example/latchwork/latchwork/history/IntList" "size" "I" (.int (0 : Int32)) ∧ Arv Z h x k .int (4 : Int32) [(.int (0 : Int32)), (.int (0 : Int32)), (.int (0 : Int32)), (.int (0 : Int32))] (.int (0 : Int32)) ∧ h0.size ≤ x ∧ (True)
set_option maxRecDepth 65536 in
set_option maxHeartbeats 40000000 in
theorem rm3 (l : Launch) (Z : State) (a0 : Array Value) (hw : ∀ d ∈ tables_1, d.before a0 Z = true) (ws : List Jvm.Cond) (a1 : Addr) (h0 : Heap) (n0 : Nat) (Z0 : n0 ≤ h0.size) (E_a1 : Exa Z h0 a1 "com/example/latchwork/latchwork/history/IntList") (F_values_a1 : Fld Z h0 a1 "com/example/latchwork/latchwork/history/IntList" "values" "[I" .null) (F_size_a1 : Fld Z h0 a1 "com/example/latchwork/latchwork/history/IntList" "size" "I" (.int (0 : Int32))) (g_a1 : n0 ≤ a1) :
    MetFree l (⟨"com/example/latchwork/latchwork/history/IntList", "<init>", "()V"⟩ : MethodName) (head1 (Jvm.Cond.code (⟨"com/example/latchwork/latchwork/history/IntList", "<init>", "()V"⟩ : MethodName) prog_27_method_1_code 1 none :: ws) ({ frames := 1, cells := 1, slots := 4, locals := 12 } : Room)) (fun a U => a = #[(.ref a1)] ∧ Z.Warmed39 U.vm ∧ U.heap = h0) (fun _ _ _ _ _ => True) (fun _ U o U' => ∃ v L, o = .returned v ∧ Q3 Z a1 h0 n0 v U'.heap L ∧ FrameEnd U o U' L ({ frames := 1, cells := 1, slots := 4, locals := 12 } : Room).cells ({ frames := 1, cells := 1, slots := 4, locals := 12 } : Room).slots) := by
  refine MetFree.of_bodySF (plainFor_of_name pn_3) hisR ?_
  intro p e s m args below meth c s₁ Bd hml0 hP hK
  obtain ⟨rfl, hZ, hh⟩ := hP
  have hx := Bd.exec
  have hby := Bd.bytes
  have hml : c.maxLocals = 1 := hml0
  have hown : s.vm.findClass "com/example/latchwork/latchwork/history/IntList" = some m.cls := findClass_of_methodNamed Bd.named
  have hnm := (name_of_methodNamed Bd.named Bd.method).1
  have X0 : Stand p l e ({ frames := 1, cells := 1, slots := 4, locals := 12 } : Room) s m #[(.ref a1)] below meth c s₁ [] 0 0 := Stand.of_body Bd
  have e0 : s₁.heap = h0 := by rw [← hh, Bd.state]; rfl
  have N0 := Fr.nil n0
  have pre0 : ∀ tq, Steps p.tables e below (s₁.setTop (mkF m 0 #[.val (.ref a1)] [])) tq → Steps p.tables e below (s₁.setTop (entryFrame m #[(.ref a1)] 1)) tq := fun tq kq => castTop (ef_3 m a1) kq
  have pre1 : ∀ tq, Steps p.tables e below (s₁.setTop (mkF m 1 #[.val (.ref a1)] [(.ref a1)])) tq → Steps p.tables e below (s₁.setTop (entryFrame m #[(.ref a1)] 1)) tq := by
    refine fun tq kq => pre0 tq ?_
    show Steps p.tables e below (s₁.setTop (mkF m 0 #[.val (.ref a1)] [])) _
    refine XS.aloadN X0.here hx rfl (hb hby d3_0) rfl rfl ?_
    exact kq
  obtain ⟨T2, X2, e2, st2⟩ := initO X0 hx hZ hown (hw _ (List.mem_of_getElem? (i := 16) rfl)) (hw _ (List.mem_of_getElem? (i := 8) rfl)) (hw _ (List.mem_of_getElem? (i := 9) rfl)) e0 (g := (mkF m 1 #[.val (.ref a1)] [(.ref a1)])) rfl (by rw [hml]; rfl) rfl (hb hby d3_1) (by decide) (W := 0) (by show 2 * 0 + _ ≤ _; exact Nat.le_of_eq rfl) (by decide)
  have pre3 : ∀ tq, Steps p.tables e below (T2.setTop (mkF m 4 #[.val (.ref a1)] [])) tq → Steps p.tables e below (s₁.setTop (entryFrame m #[(.ref a1)] 1)) tq := fun tq kq => pre1 tq (st2 _ kq)
  have pre4 : ∀ tq, Steps p.tables e below (T2.setTop (mkF m 6 #[.val (.ref a1)] [(.int (4 : Int32)), (.ref a1)])) tq → Steps p.tables e below (s₁.setTop (entryFrame m #[(.ref a1)] 1)) tq := by
    refine fun tq kq => pre3 tq ?_
    show Steps p.tables e below (T2.setTop (mkF m 4 #[.val (.ref a1)] [])) _
    refine XS.aloadN X2.here hx rfl (hb hby d3_4) rfl rfl ?_
    show Steps p.tables e below (T2.setTop (mkF m 5 #[.val (.ref a1)] [(.ref a1)])) _
    refine XS.iconst X2.here hx rfl (hb hby d3_5) ?_
    exact kq
  obtain ⟨T5, h5, k5, X5, e5, E5, A5, st5⟩ := newP X2 hx hZ (hw _ (List.mem_of_getElem? (i := 17) rfl)) e2 (g := (mkF m 6 #[.val (.ref a1)] [(.int (4 : Int32)), (.ref a1)])) rfl (hb hby d3_6) rfl (by decide) (cap := 4) (by decide) (by decide) (by decide) (by decide)
  obtain ⟨b5, g5⟩ : ∃ z, z = h0.size := ⟨_, rfl⟩
  rw [← g5] at A5 st5
  have g_b5 : n0 ≤ b5 := Nat.le_trans Z0 (Nat.le_of_eq g5.symm)
  have sz_b5 : h0.size ≤ b5 := Nat.le_trans (Nat.le_refl h0.size) (Nat.le_of_eq g5.symm)
  have ne6 : a1 ≠ b5 := Nat.ne_of_lt (Nat.lt_of_lt_of_le E_a1.lt (Nat.le_of_eq g5.symm))
  have pre7 : ∀ tq, Steps p.tables e below (T5.setTop (mkF m 8 #[.val (.ref a1)] [(.ref b5), (.ref a1)])) tq → Steps p.tables e below (s₁.setTop (entryFrame m #[(.ref a1)] 1)) tq := fun tq kq => pre4 tq (st5 _ kq)
  have f8 := E_a1.ext E5
  have f9 := F_values_a1.ext E5
  have f10 := F_size_a1.ext E5
  have K5 : Keep h0 h5 [a1] := Keep.ext (Keep.refl h0 [a1]) E5
  have f11 : Arv Z h5 b5 k5 .int (4 : Int32) [(.int (0 : Int32)), (.int (0 : Int32)), (.int (0 : Int32)), (.int (0 : Int32))] (.int (0 : Int32)) := (Arv.new A5 (by decide)).pad (pad_rep [] (.int (0 : Int32)) 4)
  obtain ⟨T12, h12, X12, e12, W12, st12⟩ := putF X5 hx hZ hown (host := "") (Or.inl (hw _ (List.mem_of_getElem? (i := 18) rfl))) Via.refl e5 f9 f8 (Or.inl (hw _ (List.mem_of_getElem? (i := 19) rfl))) (hw _ (List.mem_of_getElem? (i := 11) rfl)) (ty := (.array .int)) (by decide) rfl rfl (g := (mkF m 8 #[.val (.ref a1)] [(.ref b5), (.ref a1)])) rfl rfl (hb hby d3_8)
  have pre13 : ∀ tq, Steps p.tables e below (T12.setTop (mkF m 11 #[.val (.ref a1)] [])) tq → Steps p.tables e below (s₁.setTop (entryFrame m #[(.ref a1)] 1)) tq := fun tq kq => pre7 tq (st12 _ kq)
  have N12 := Fr.snoc X12 N0 g_a1
  have K12 : Keep h0 h12 [a1] := Keep.wr K5 W12 (Or.inl (List.mem_of_getElem? (i := 0) rfl))
  have f14 := f8.wr W12
  have f15 := f10.other W12 (Or.inr (slot_ne (Or.inl (hw _ (List.mem_of_getElem? (i := 37) rfl))) (Or.inl (hw _ (List.mem_of_getElem? (i := 19) rfl))) (by decide) (t := .int) (t' := (.array .int)) (by decide) (by decide)))
  have f16 := f11.other W12 (Ne.symm ne6)
  have f17 := f9.same W12
  obtain ⟨fs, hr, hrun, hended, hW, hsame⟩ := X12.leave (v := none) (fun _ => rfl)
  refine ⟨_, _, pre13 _ ?_, hrun, hended, _, _, rfl, ?_, ⟨_, rfl⟩, hW, hsame.mono (by decide) (by decide)⟩
  · skip
    show Steps p.tables e below (T12.setTop (mkF m 11 #[.val (.ref a1)] [])) _
    exact X12.returnOut hx Bd.returns (hb hby d3_11) hr
  · show Q3 Z a1 h0 n0 _ T12.heap _
    rw [e12]
    refine ⟨b5, k5, rfl, N12, K12, f17, f15, f16, sz_b5, ?_⟩
    trivial
/-! body 1 -/
theorem d1_0 : decode prog_22_method_1_code 0 = .ok (.aload_n 0, 1) := by decide +kernel
theorem d1_1 : decode prog_22_method_1_code 1 = .ok (.invokespecial 1, 3) := by decide +kernel
theorem d1_4 : decode prog_22_method_1_code 4 = .ok (.aload_n 0, 1) := by decide +kernel
theorem d1_5 : decode prog_22_method_1_code 5 = .ok (.new 7, 3) := by decide +kernel
theorem d1_8 : decode prog_22_method_1_code 8 = .ok (.dup, 1) := by decide +kernel
theorem d1_9 : decode prog_22_method_1_code 9 = .ok (.invokespecial 9, 3) := by decide +kernel
theorem d1_12 : decode prog_22_method_1_code 12 = .ok (.putfield 10, 3) := by decide +kernel
theorem d1_15 : decode prog_22_method_1_code 15 = .ok (.aload_n 0, 1) := by decide +kernel
theorem d1_16 : decode prog_22_method_1_code 16 = .ok (.new 7, 3) := by decide +kernel
theorem d1_19 : decode prog_22_method_1_code 19 = .ok (.dup, 1) := by decide +kernel
theorem d1_20 : decode prog_22_method_1_code 20 = .ok (.invokespecial 9, 3) := by decide +kernel
theorem d1_23 : decode prog_22_method_1_code 23 = .ok (.putfield 16, 3) := by decide +kernel
theorem d1_26 : decode prog_22_method_1_code 26 = .ok (.aload_n 0, 1) := by decide +kernel
theorem d1_27 : decode prog_22_method_1_code 27 = .ok (.iload_n 1, 1) := by decide +kernel
theorem d1_28 : decode prog_22_method_1_code 28 = .ok (.putfield 19, 3) := by decide +kernel
theorem d1_31 : decode prog_22_method_1_code 31 = .ok (.return_, 1) := by decide +kernel
theorem pn_1 : plainName "com/example/latchwork/latchwork/history/EdgeList" = true := by first | (simp [plainName, overriddenIn]; done) | decide +kernel
theorem pd1_0 : parseMethodDescriptor "()V" = some ⟨[], none⟩ := by decide +kernel
theorem ef_1 (m : MethodId) (a1 : Addr) (p2 : Int32) : entryFrame m #[(.ref a1), (.int p2)] 2 = mkF m 0 #[.val (.ref a1), .val (.int p2)] [] := by first | (simp [entryFrame, mkF, argsToLocals, Value.category]; done) | rfl
def Q1 (Z : State) (a1 : Addr) (p2 : Int32) (h0 : Heap) (n0 : Nat) (v : Option Value) (h : Heap) (L : List Loc) : Prop := ∃ t : Addr, ∃ hl : Addr, ∃ x1 : Addr, ∃ k1 : ClassId, ∃ x2 : Addr, ∃ k2 : ClassId, v = none ∧ Fr n0 L ∧ Keep h0 h [a1] ∧ Fld Z h a1 "com/example/latchwork/latchwork/history/EdgeList" "tails" "Lcom/example/latchwork/latchwork/history/IntList;" (.ref t) ∧ Fld Z h a1 "com/example/latchwork/latchwork/history/EdgeList" "heads" "Lcom/example/latchwork/latchwork/history/IntList;" (.ref hl) ∧ Fld Z h a1 "com/example/latchwork/latchwork/history/EdgeList" "vertices" "I" (.int p2) ∧ Exa Z h t "com/example/latchwork/latchwork/history/IntList" ∧ Fld Z h t "com/example/latchwork/latchwork/history/IntList" "values" "[I" (.ref x1) ∧ Fld Z h t "com/example/latchwork/latchwork/history/IntList" "size" "I" (.int (0 : Int32)) ∧ Arv Z h x1 k1 .int (4 : Int32) [(.int (0 : Int32)), (.int (0 : Int32)), (.int (0 : Int32)), (.int (0 : Int32))] (.int (0 : Int32)) ∧ Exa Z h hl "com/example/latchwork/latchwork/history/IntList" ∧ Fld Z h hl "com/example/latchwork/latchwork/history/IntList" "values" "[I" (.ref x2) ∧ Fld Z h hl "com/example/latchwork/latchwork/history/IntList" "size" "I" (.int (0 : Int32)) ∧ Arv Z h x2 k2 .int (4 : Int32) [(.int (0 : Int32)), (.int (0 : Int32)), (.int (0 : Int32)), (.int (0 : Int32))] (.int (0 : Int32)) ∧ h0.size ≤ t ∧ h0.size ≤ hl ∧ h0.size ≤ x1 ∧ h0.size ≤ x2 ∧ t ≠ x1 ∧ t ≠ hl ∧ t ≠ x2 ∧ x1 ≠ hl ∧ x1 ≠ x2 ∧ hl ≠ x2 ∧ (True)
set_option maxRecDepth 65536 in
set_option maxHeartbeats 40000000 in
theorem rm1 (l : Launch) (Z : State) (a0 : Array Value) (hw : ∀ d ∈ tables_1, d.before a0 Z = true) (ws : List Jvm.Cond) (a1 : Addr) (p2 : Int32) (h0 : Heap) (n0 : Nat) (Z0 : n0 ≤ h0.size) (E_a1 : Exa Z h0 a1 "com/example/latchwork/latchwork/history/EdgeList") (F_tails_a1 : Fld Z h0 a1 "com/example/latchwork/latchwork/history/EdgeList" "tails" "Lcom/example/latchwork/latchwork/history/IntList;" .null) (F_heads_a1 : Fld Z h0 a1 "com/example/latchwork/latchwork/history/EdgeList" "heads" "Lcom/example/latchwork/latchwork/history/IntList;" .null) (F_vertices_a1 : Fld Z h0 a1 "com/example/latchwork/latchwork/history/EdgeList" "vertices" "I" (.int (0 : Int32))) (g_a1 : n0 ≤ a1) :
    MetFree l (⟨"com/example/latchwork/latchwork/history/EdgeList", "<init>", "(I)V"⟩ : MethodName) (head1 (Jvm.Cond.code (⟨"com/example/latchwork/latchwork/history/EdgeList", "<init>", "(I)V"⟩ : MethodName) prog_22_method_1_code 2 none :: ws) ({ frames := 2, cells := 4, slots := 12, locals := 26 } : Room)) (fun a U => a = #[(.ref a1), (.int p2)] ∧ Z.Warmed39 U.vm ∧ U.heap = h0) (fun _ _ _ _ _ => True) (fun _ U o U' => ∃ v L, o = .returned v ∧ Q1 Z a1 p2 h0 n0 v U'.heap L ∧ FrameEnd U o U' L ({ frames := 2, cells := 4, slots := 12, locals := 26 } : Room).cells ({ frames := 2, cells := 4, slots := 12, locals := 26 } : Room).slots) := by
  refine MetFree.of_bodySF (plainFor_of_name pn_1) hisR ?_
  intro p e s m args below meth c s₁ Bd hml0 hP hK
  obtain ⟨rfl, hZ, hh⟩ := hP
  have hx := Bd.exec
  have hby := Bd.bytes
  have hml : c.maxLocals = 2 := hml0
  have hown : s.vm.findClass "com/example/latchwork/latchwork/history/EdgeList" = some m.cls := findClass_of_methodNamed Bd.named
  have hnm := (name_of_methodNamed Bd.named Bd.method).1
  have X0 : Stand p l e ({ frames := 2, cells := 4, slots := 12, locals := 26 } : Room) s m #[(.ref a1), (.int p2)] below meth c s₁ [] 0 0 := Stand.of_body Bd
  have e0 : s₁.heap = h0 := by rw [← hh, Bd.state]; rfl
  have N0 := Fr.nil n0
  have pre0 : ∀ tq, Steps p.tables e below (s₁.setTop (mkF m 0 #[.val (.ref a1), .val (.int p2)] [])) tq → Steps p.tables e below (s₁.setTop (entryFrame m #[(.ref a1), (.int p2)] 2)) tq := fun tq kq => castTop (ef_1 m a1 p2) kq
  have pre1 : ∀ tq, Steps p.tables e below (s₁.setTop (mkF m 1 #[.val (.ref a1), .val (.int p2)] [(.ref a1)])) tq → Steps p.tables e below (s₁.setTop (entryFrame m #[(.ref a1), (.int p2)] 2)) tq := by
    refine fun tq kq => pre0 tq ?_
    show Steps p.tables e below (s₁.setTop (mkF m 0 #[.val (.ref a1), .val (.int p2)] [])) _
    refine XS.aloadN X0.here hx rfl (hb hby d1_0) rfl rfl ?_
    exact kq
  obtain ⟨T2, X2, e2, st2⟩ := initO X0 hx hZ hown (hw _ (List.mem_of_getElem? (i := 7) rfl)) (hw _ (List.mem_of_getElem? (i := 8) rfl)) (hw _ (List.mem_of_getElem? (i := 9) rfl)) e0 (g := (mkF m 1 #[.val (.ref a1), .val (.int p2)] [(.ref a1)])) rfl (by rw [hml]; rfl) rfl (hb hby d1_1) (by decide) (W := 0) (by show 2 * 0 + _ ≤ _; exact Nat.le_of_eq rfl) (by decide)
  have pre3 : ∀ tq, Steps p.tables e below (T2.setTop (mkF m 4 #[.val (.ref a1), .val (.int p2)] [])) tq → Steps p.tables e below (s₁.setTop (entryFrame m #[(.ref a1), (.int p2)] 2)) tq := fun tq kq => pre1 tq (st2 _ kq)
  have pre4 : ∀ tq, Steps p.tables e below (T2.setTop (mkF m 5 #[.val (.ref a1), .val (.int p2)] [(.ref a1)])) tq → Steps p.tables e below (s₁.setTop (entryFrame m #[(.ref a1), (.int p2)] 2)) tq := by
    refine fun tq kq => pre3 tq ?_
    show Steps p.tables e below (T2.setTop (mkF m 4 #[.val (.ref a1), .val (.int p2)] [])) _
    refine XS.aloadN X2.here hx rfl (hb hby d1_4) rfl rfl ?_
    exact kq
  obtain ⟨T5, h5, X5, e5, E5, A5, D5, -, st5⟩ := newO X2 hx hZ hown (hw _ (List.mem_of_getElem? (i := 10) rfl)) (hw _ (List.mem_of_getElem? (i := 11) rfl)) (hw _ (List.mem_of_getElem? (i := 12) rfl)) e2 (g := (mkF m 5 #[.val (.ref a1), .val (.int p2)] [(.ref a1)])) rfl (hb hby d1_5) (by decide) (by decide)
  obtain ⟨b5, g5⟩ : ∃ z, z = h0.size := ⟨_, rfl⟩
  rw [← g5] at A5 D5 st5
  have g_b5 : n0 ≤ b5 := Nat.le_trans Z0 (Nat.le_of_eq g5.symm)
  have sz_b5 : h0.size ≤ b5 := Nat.le_trans (Nat.le_refl h0.size) (Nat.le_of_eq g5.symm)
  have ne6 : a1 ≠ b5 := Nat.ne_of_lt (Nat.lt_of_lt_of_le E_a1.lt (Nat.le_of_eq g5.symm))
  have pre7 : ∀ tq, Steps p.tables e below (T5.setTop (mkF m 8 #[.val (.ref a1), .val (.int p2)] [(.ref b5), (.ref a1)])) tq → Steps p.tables e below (s₁.setTop (entryFrame m #[(.ref a1), (.int p2)] 2)) tq := fun tq kq => pre4 tq (st5 _ kq)
  have f8 := E_a1.ext E5
  have f9 := F_tails_a1.ext E5
  have f10 := F_heads_a1.ext E5
  have f11 := F_vertices_a1.ext E5
  have K5 : Keep h0 h5 [a1] := Keep.ext (Keep.refl h0 [a1]) E5
  have f12 : Fld Z h5 b5 "com/example/latchwork/latchwork/history/IntList" "values" "[I" .null := D5 (Or.inl (hw _ (List.mem_of_getElem? (i := 19) rfl))) (ty := (.array .int)) (by decide)
  have f13 : Fld Z h5 b5 "com/example/latchwork/latchwork/history/IntList" "size" "I" (.int (0 : Int32)) := D5 (Or.inl (hw _ (List.mem_of_getElem? (i := 37) rfl))) (ty := .int) (by decide)
  have pre14 : ∀ tq, Steps p.tables e below (T5.setTop (mkF m 9 #[.val (.ref a1), .val (.int p2)] [(.ref b5), (.ref b5), (.ref a1)])) tq → Steps p.tables e below (s₁.setTop (entryFrame m #[(.ref a1), (.int p2)] 2)) tq := by
    refine fun tq kq => pre7 tq ?_
    show Steps p.tables e below (T5.setTop (mkF m 8 #[.val (.ref a1), .val (.int p2)] [(.ref b5), (.ref a1)])) _
    refine XS.dup X5.here hx rfl (hb hby d1_8) rfl rfl ?_
    exact kq
  have Z15 : n0 ≤ h5.size := (Nat.le_trans Z0 E5.1)
  obtain ⟨_, _, ⟨T15, L15, k15, n15⟩, -, X15, ⟨Lc15, hQ15, l15, y15, z15⟩, st15⟩ := X5.specialBack hx (y := (⟨"com/example/latchwork/latchwork/history/IntList", "<init>", "()V"⟩ : MethodName)) rfl hown (mvT hZ (hw _ (List.mem_of_getElem? (i := 13) rfl))) (mvT hZ (hw _ (List.mem_of_getElem? (i := 14) rfl))) (mvT hZ (hw _ (List.mem_of_getElem? (i := 15) rfl))) (by decide) (backOf (W := 2) (rm3 l Z a0 hw [] b5  h5 n0 Z15 A5 f12 f13 g_b5) hZ (hw _ (List.mem_of_getElem? (i := 15) rfl)) (hw _ (List.mem_of_getElem? (i := 12) rfl)) (by decide) (by decide)) (g := (mkF m 9 #[.val (.ref a1), .val (.int p2)] [(.ref b5), (.ref b5), (.ref a1)])) rfl (by rw [hml]; rfl) (Steps.refl _) (a := b5) (argsL := []) (rest := [(.ref b5), (.ref a1)]) (lenOf pd1_0 rfl) rfl (by show 2 * 0 + _ ≤ _; exact Nat.le_of_eq rfl) (hb hby d1_9) (fun _ _ => ⟨rfl, e5, (by decide : (0 + 1) + 1 ≤ _), (by decide : (0 + 2) + 4 ≤ _)⟩)
  dsimp only [Pt.U, Pt.locs, Pt.cells, Pt.slots] at X15 l15 y15 z15 st15 hQ15
  subst l15 y15 z15
  obtain ⟨u20, u21, rfl, Nq15, Kq15, f16, f17, f18, f19, hq15⟩ := hQ15
  have N15 := Fr.app N0 Nq15
  have pre22 : ∀ tq, Steps p.tables e below (T15.setTop (mkF m 12 #[.val (.ref a1), .val (.int p2)] [(.ref b5), (.ref a1)])) tq → Steps p.tables e below (s₁.setTop (entryFrame m #[(.ref a1), (.int p2)] 2)) tq := fun tq kq => pre14 tq (st15.trans kq)
  have K15 : Keep h0 T15.heap [a1] := Keep.trans K5 Kq15 (allS (Or.inr sz_b5) all0)
  have f23 := f8.keep Kq15
  have f24 := f9.keep Kq15 (by simp only [List.mem_cons, List.not_mem_nil, or_false, not_or]; exact ne6)
  have f25 := f10.keep Kq15 (by simp only [List.mem_cons, List.not_mem_nil, or_false, not_or]; exact ne6)
  have f26 := f11.keep Kq15 (by simp only [List.mem_cons, List.not_mem_nil, or_false, not_or]; exact ne6)
  have f27 := A5.keep Kq15
  have g_u20 : n0 ≤ u20 := Nat.le_trans Z15 f19
  have sz_u20 : h0.size ≤ u20 := Nat.le_trans (Nat.le_trans (Nat.le_refl h0.size) E5.1) f19
  have ne28 : a1 ≠ u20 := Nat.ne_of_lt (Nat.lt_of_lt_of_le f8.lt f19)
  have ne29 : b5 ≠ u20 := Nat.ne_of_lt (Nat.lt_of_lt_of_le A5.lt f19)
  obtain ⟨T30, h30, X30, e30, W30, st30⟩ := putF X15 hx hZ hown (host := "") (Or.inl (hw _ (List.mem_of_getElem? (i := 20) rfl))) Via.refl rfl f24 f23 (Or.inr ⟨(hw _ (List.mem_of_getElem? (i := 21) rfl)), rfl, hnm⟩) (hw _ (List.mem_of_getElem? (i := 2) rfl)) (ty := (.object "com/example/latchwork/latchwork/history/IntList")) (by decide) rfl rfl (g := (mkF m 12 #[.val (.ref a1), .val (.int p2)] [(.ref b5), (.ref a1)])) rfl rfl (hb hby d1_12)
  have pre31 : ∀ tq, Steps p.tables e below (T30.setTop (mkF m 15 #[.val (.ref a1), .val (.int p2)] [])) tq → Steps p.tables e below (s₁.setTop (entryFrame m #[(.ref a1), (.int p2)] 2)) tq := fun tq kq => pre22 tq (st30 _ kq)
  have N30 := Fr.snoc X30 N15 g_a1
  have K30 : Keep h0 h30 [a1] := Keep.wr K15 W30 (Or.inl (List.mem_of_getElem? (i := 0) rfl))
  have f32 := f23.wr W30
  have f33 := f25.other W30 (Or.inr (slot_ne (Or.inr (hw _ (List.mem_of_getElem? (i := 23) rfl))) (Or.inr (hw _ (List.mem_of_getElem? (i := 21) rfl))) (by decide) (t := (.object "com/example/latchwork/latchwork/history/IntList")) (t' := (.object "com/example/latchwork/latchwork/history/IntList")) (by decide) (by decide)))
  have f34 := f26.other W30 (Or.inr (slot_ne (Or.inl (hw _ (List.mem_of_getElem? (i := 25) rfl))) (Or.inr (hw _ (List.mem_of_getElem? (i := 21) rfl))) (by decide) (t := .int) (t' := (.object "com/example/latchwork/latchwork/history/IntList")) (by decide) (by decide)))
  have f35 := f27.wr W30
  have f36 := f16.other W30 (Or.inl (Ne.symm ne6))
  have f37 := f17.other W30 (Or.inl (Ne.symm ne6))
  have f38 := f18.other W30 (Ne.symm ne28)
  have f39 := f24.same W30
  have pre40 : ∀ tq, Steps p.tables e below (T30.setTop (mkF m 16 #[.val (.ref a1), .val (.int p2)] [(.ref a1)])) tq → Steps p.tables e below (s₁.setTop (entryFrame m #[(.ref a1), (.int p2)] 2)) tq := by
    refine fun tq kq => pre31 tq ?_
    show Steps p.tables e below (T30.setTop (mkF m 15 #[.val (.ref a1), .val (.int p2)] [])) _
    refine XS.aloadN X30.here hx rfl (hb hby d1_15) rfl rfl ?_
    exact kq
  obtain ⟨T41, h41, X41, e41, E41, A41, D41, -, st41⟩ := newO X30 hx hZ hown (hw _ (List.mem_of_getElem? (i := 10) rfl)) (hw _ (List.mem_of_getElem? (i := 11) rfl)) (hw _ (List.mem_of_getElem? (i := 12) rfl)) e30 (g := (mkF m 16 #[.val (.ref a1), .val (.int p2)] [(.ref a1)])) rfl (hb hby d1_16) (by decide) (by decide)
  obtain ⟨b41, g41⟩ : ∃ z, z = h30.size := ⟨_, rfl⟩
  rw [← g41] at A41 D41 st41
  have g_b41 : n0 ≤ b41 := Nat.le_trans (Nat.le_trans (Nat.le_trans Z15 Kq15.1) (Keep.of_wr W30).1) (Nat.le_of_eq g41.symm)
  have sz_b41 : h0.size ≤ b41 := Nat.le_trans (Nat.le_trans (Nat.le_trans (Nat.le_trans (Nat.le_refl h0.size) E5.1) Kq15.1) (Keep.of_wr W30).1) (Nat.le_of_eq g41.symm)
  have ne42 : a1 ≠ b41 := Nat.ne_of_lt (Nat.lt_of_lt_of_le f32.lt (Nat.le_of_eq g41.symm))
  have ne43 : b5 ≠ b41 := Nat.ne_of_lt (Nat.lt_of_lt_of_le f35.lt (Nat.le_of_eq g41.symm))
  have ne44 : u20 ≠ b41 := Nat.ne_of_lt (Nat.lt_of_lt_of_le f38.lt (Nat.le_of_eq g41.symm))
  have pre45 : ∀ tq, Steps p.tables e below (T41.setTop (mkF m 19 #[.val (.ref a1), .val (.int p2)] [(.ref b41), (.ref a1)])) tq → Steps p.tables e below (s₁.setTop (entryFrame m #[(.ref a1), (.int p2)] 2)) tq := fun tq kq => pre40 tq (st41 _ kq)
  have f46 := f32.ext E41
  have f47 := f33.ext E41
  have f48 := f34.ext E41
  have f49 := f35.ext E41
  have f50 := f36.ext E41
  have f51 := f37.ext E41
  have f52 := f38.ext E41
  have f53 := f39.ext E41
  have K41 : Keep h0 h41 [a1] := Keep.ext K30 E41
  have f54 : Fld Z h41 b41 "com/example/latchwork/latchwork/history/IntList" "values" "[I" .null := D41 (Or.inl (hw _ (List.mem_of_getElem? (i := 19) rfl))) (ty := (.array .int)) (by decide)
  have f55 : Fld Z h41 b41 "com/example/latchwork/latchwork/history/IntList" "size" "I" (.int (0 : Int32)) := D41 (Or.inl (hw _ (List.mem_of_getElem? (i := 37) rfl))) (ty := .int) (by decide)
  have pre56 : ∀ tq, Steps p.tables e below (T41.setTop (mkF m 20 #[.val (.ref a1), .val (.int p2)] [(.ref b41), (.ref b41), (.ref a1)])) tq → Steps p.tables e below (s₁.setTop (entryFrame m #[(.ref a1), (.int p2)] 2)) tq := by
    refine fun tq kq => pre45 tq ?_
    show Steps p.tables e below (T41.setTop (mkF m 19 #[.val (.ref a1), .val (.int p2)] [(.ref b41), (.ref a1)])) _
    refine XS.dup X41.here hx rfl (hb hby d1_19) rfl rfl ?_
    exact kq
  have Z57 : n0 ≤ h41.size := (Nat.le_trans (Nat.le_trans (Nat.le_trans Z15 Kq15.1) (Keep.of_wr W30).1) E41.1)
  obtain ⟨_, _, ⟨T57, L57, k57, n57⟩, -, X57, ⟨Lc57, hQ57, l57, y57, z57⟩, st57⟩ := X41.specialBack hx (y := (⟨"com/example/latchwork/latchwork/history/IntList", "<init>", "()V"⟩ : MethodName)) rfl hown (mvT hZ (hw _ (List.mem_of_getElem? (i := 13) rfl))) (mvT hZ (hw _ (List.mem_of_getElem? (i := 14) rfl))) (mvT hZ (hw _ (List.mem_of_getElem? (i := 15) rfl))) (by decide) (backOf (W := 2) (rm3 l Z a0 hw [] b41  h41 n0 Z57 A41 f54 f55 g_b41) hZ (hw _ (List.mem_of_getElem? (i := 15) rfl)) (hw _ (List.mem_of_getElem? (i := 12) rfl)) (by decide) (by decide)) (g := (mkF m 20 #[.val (.ref a1), .val (.int p2)] [(.ref b41), (.ref b41), (.ref a1)])) rfl (by rw [hml]; rfl) (Steps.refl _) (a := b41) (argsL := []) (rest := [(.ref b41), (.ref a1)]) (lenOf pd1_0 rfl) rfl (by show 2 * 0 + _ ≤ _; exact Nat.le_of_eq rfl) (hb hby d1_20) (fun _ _ => ⟨rfl, e41, (by decide : (((0 + 1) + 1) + 1) + 1 ≤ _), (by decide : (((0 + 2) + 4) + 2) + 4 ≤ _)⟩)
  dsimp only [Pt.U, Pt.locs, Pt.cells, Pt.slots] at X57 l57 y57 z57 st57 hQ57
  subst l57 y57 z57
  obtain ⟨u62, u63, rfl, Nq57, Kq57, f58, f59, f60, f61, hq57⟩ := hQ57
  have N57 := Fr.app N30 Nq57
  have pre64 : ∀ tq, Steps p.tables e below (T57.setTop (mkF m 23 #[.val (.ref a1), .val (.int p2)] [(.ref b41), (.ref a1)])) tq → Steps p.tables e below (s₁.setTop (entryFrame m #[(.ref a1), (.int p2)] 2)) tq := fun tq kq => pre56 tq (st57.trans kq)
  have K57 : Keep h0 T57.heap [a1] := Keep.trans K41 Kq57 (allS (Or.inr sz_b41) all0)
  have f65 := f46.keep Kq57
  have f66 := f47.keep Kq57 (by simp only [List.mem_cons, List.not_mem_nil, or_false, not_or]; exact ne42)
  have f67 := f48.keep Kq57 (by simp only [List.mem_cons, List.not_mem_nil, or_false, not_or]; exact ne42)
  have f68 := f49.keep Kq57
  have f69 := f50.keep Kq57 (by simp only [List.mem_cons, List.not_mem_nil, or_false, not_or]; exact ne43)
  have f70 := f51.keep Kq57 (by simp only [List.mem_cons, List.not_mem_nil, or_false, not_or]; exact ne43)
  have f71 := f52.keep Kq57 (by simp only [List.mem_cons, List.not_mem_nil, or_false, not_or]; exact ne44)
  have f72 := f53.keep Kq57 (by simp only [List.mem_cons, List.not_mem_nil, or_false, not_or]; exact ne42)
  have f73 := A41.keep Kq57
  have g_u62 : n0 ≤ u62 := Nat.le_trans Z57 f61
  have sz_u62 : h0.size ≤ u62 := Nat.le_trans (Nat.le_trans (Nat.le_trans (Nat.le_trans (Nat.le_trans (Nat.le_refl h0.size) E5.1) Kq15.1) (Keep.of_wr W30).1) E41.1) f61
  have ne74 : a1 ≠ u62 := Nat.ne_of_lt (Nat.lt_of_lt_of_le f46.lt f61)
  have ne75 : b5 ≠ u62 := Nat.ne_of_lt (Nat.lt_of_lt_of_le f49.lt f61)
  have ne76 : u20 ≠ u62 := Nat.ne_of_lt (Nat.lt_of_lt_of_le f52.lt f61)
  have ne77 : b41 ≠ u62 := Nat.ne_of_lt (Nat.lt_of_lt_of_le A41.lt f61)
  obtain ⟨T78, h78, X78, e78, W78, st78⟩ := putF X57 hx hZ hown (host := "") (Or.inl (hw _ (List.mem_of_getElem? (i := 22) rfl))) Via.refl rfl f66 f65 (Or.inr ⟨(hw _ (List.mem_of_getElem? (i := 23) rfl)), rfl, hnm⟩) (hw _ (List.mem_of_getElem? (i := 2) rfl)) (ty := (.object "com/example/latchwork/latchwork/history/IntList")) (by decide) rfl rfl (g := (mkF m 23 #[.val (.ref a1), .val (.int p2)] [(.ref b41), (.ref a1)])) rfl rfl (hb hby d1_23)
  have pre79 : ∀ tq, Steps p.tables e below (T78.setTop (mkF m 26 #[.val (.ref a1), .val (.int p2)] [])) tq → Steps p.tables e below (s₁.setTop (entryFrame m #[(.ref a1), (.int p2)] 2)) tq := fun tq kq => pre64 tq (st78 _ kq)
  have N78 := Fr.snoc X78 N57 g_a1
  have K78 : Keep h0 h78 [a1] := Keep.wr K57 W78 (Or.inl (List.mem_of_getElem? (i := 0) rfl))
  have f80 := f65.wr W78
  have f81 := f67.other W78 (Or.inr (slot_ne (Or.inl (hw _ (List.mem_of_getElem? (i := 25) rfl))) (Or.inr (hw _ (List.mem_of_getElem? (i := 23) rfl))) (by decide) (t := .int) (t' := (.object "com/example/latchwork/latchwork/history/IntList")) (by decide) (by decide)))
  have f82 := f68.wr W78
  have f83 := f69.other W78 (Or.inl (Ne.symm ne6))
  have f84 := f70.other W78 (Or.inl (Ne.symm ne6))
  have f85 := f71.other W78 (Ne.symm ne28)
  have f86 := f72.other W78 (Or.inr (slot_ne (Or.inr (hw _ (List.mem_of_getElem? (i := 21) rfl))) (Or.inr (hw _ (List.mem_of_getElem? (i := 23) rfl))) (by decide) (t := (.object "com/example/latchwork/latchwork/history/IntList")) (t' := (.object "com/example/latchwork/latchwork/history/IntList")) (by decide) (by decide)))
  have f87 := f73.wr W78
  have f88 := f58.other W78 (Or.inl (Ne.symm ne42))
  have f89 := f59.other W78 (Or.inl (Ne.symm ne42))
  have f90 := f60.other W78 (Ne.symm ne74)
  have f91 := f66.same W78
  have pre92 : ∀ tq, Steps p.tables e below (T78.setTop (mkF m 28 #[.val (.ref a1), .val (.int p2)] [(.int p2), (.ref a1)])) tq → Steps p.tables e below (s₁.setTop (entryFrame m #[(.ref a1), (.int p2)] 2)) tq := by
    refine fun tq kq => pre79 tq ?_
    show Steps p.tables e below (T78.setTop (mkF m 26 #[.val (.ref a1), .val (.int p2)] [])) _
    refine XS.aloadN X78.here hx rfl (hb hby d1_26) rfl rfl ?_
    show Steps p.tables e below (T78.setTop (mkF m 27 #[.val (.ref a1), .val (.int p2)] [(.ref a1)])) _
    refine XS.iloadN X78.here hx rfl (hb hby d1_27) rfl ?_
    exact kq
  obtain ⟨T93, h93, X93, e93, W93, st93⟩ := putF X78 hx hZ hown (host := "") (Or.inl (hw _ (List.mem_of_getElem? (i := 24) rfl))) Via.refl e78 f81 f80 (Or.inl (hw _ (List.mem_of_getElem? (i := 25) rfl))) (hw _ (List.mem_of_getElem? (i := 2) rfl)) (ty := .int) (by decide) rfl rfl (g := (mkF m 28 #[.val (.ref a1), .val (.int p2)] [(.int p2), (.ref a1)])) rfl rfl (hb hby d1_28)
  have pre94 : ∀ tq, Steps p.tables e below (T93.setTop (mkF m 31 #[.val (.ref a1), .val (.int p2)] [])) tq → Steps p.tables e below (s₁.setTop (entryFrame m #[(.ref a1), (.int p2)] 2)) tq := fun tq kq => pre92 tq (st93 _ kq)
  have N93 := Fr.snoc X93 N78 g_a1
  have K93 : Keep h0 h93 [a1] := Keep.wr K78 W93 (Or.inl (List.mem_of_getElem? (i := 0) rfl))
  have f95 := f80.wr W93
  have f96 := f82.wr W93
  have f97 := f83.other W93 (Or.inl (Ne.symm ne6))
  have f98 := f84.other W93 (Or.inl (Ne.symm ne6))
  have f99 := f85.other W93 (Ne.symm ne28)
  have f100 := f86.other W93 (Or.inr (slot_ne (Or.inr (hw _ (List.mem_of_getElem? (i := 21) rfl))) (Or.inl (hw _ (List.mem_of_getElem? (i := 25) rfl))) (by decide) (t := (.object "com/example/latchwork/latchwork/history/IntList")) (t' := .int) (by decide) (by decide)))
  have f101 := f87.wr W93
  have f102 := f88.other W93 (Or.inl (Ne.symm ne42))
  have f103 := f89.other W93 (Or.inl (Ne.symm ne42))
  have f104 := f90.other W93 (Ne.symm ne74)
  have f105 := f91.other W93 (Or.inr (slot_ne (Or.inr (hw _ (List.mem_of_getElem? (i := 23) rfl))) (Or.inl (hw _ (List.mem_of_getElem? (i := 25) rfl))) (by decide) (t := (.object "com/example/latchwork/latchwork/history/IntList")) (t' := .int) (by decide) (by decide)))
  have f106 := f81.same W93
  obtain ⟨fs, hr, hrun, hended, hW, hsame⟩ := X93.leave (v := none) (fun _ => rfl)
  refine ⟨_, _, pre94 _ ?_, hrun, hended, _, _, rfl, ?_, ⟨_, rfl⟩, hW, hsame.mono (by decide) (by decide)⟩
  · skip
    show Steps p.tables e below (T93.setTop (mkF m 31 #[.val (.ref a1), .val (.int p2)] [])) _
    exact X93.returnOut hx Bd.returns (hb hby d1_31) hr
  · show Q1 Z a1 p2 h0 n0 _ T93.heap _
    rw [e93]
    refine ⟨b5, b41, u20, u21, u62, u63, rfl, N93, K93, f100, f105, f106, f96, f97, f98, f99, f101, f102, f103, f104, sz_b5, sz_b41, sz_u20, sz_u62, ne29, ne43, ne75, ne44, ne76, ne77, ?_⟩
    trivial
/-! body 5 -/
theorem d5_0 : decode prog_27_method_2_code 0 = .ok (.aload_n 0, 1) := by decide +kernel
theorem d5_1 : decode prog_27_method_2_code 1 = .ok (.getfield 13, 3) := by decide +kernel
theorem d5_4 : decode prog_27_method_2_code 4 = .ok (.aload_n 0, 1) := by decide +kernel
theorem d5_5 : decode prog_27_method_2_code 5 = .ok (.getfield 7, 3) := by decide +kernel
theorem d5_8 : decode prog_27_method_2_code 8 = .ok (.arraylength, 1) := by decide +kernel
theorem d5_9 : decode prog_27_method_2_code 9 = .ok (.if_icmp .ne 20, 3) := by decide +kernel
theorem d5_29 : decode prog_27_method_2_code 29 = .ok (.aload_n 0, 1) := by decide +kernel
theorem d5_30 : decode prog_27_method_2_code 30 = .ok (.getfield 7, 3) := by decide +kernel
theorem d5_33 : decode prog_27_method_2_code 33 = .ok (.aload_n 0, 1) := by decide +kernel
theorem d5_34 : decode prog_27_method_2_code 34 = .ok (.getfield 13, 3) := by decide +kernel
theorem d5_37 : decode prog_27_method_2_code 37 = .ok (.iload_n 1, 1) := by decide +kernel
theorem d5_38 : decode prog_27_method_2_code 38 = .ok (.iastore, 1) := by decide +kernel
theorem d5_39 : decode prog_27_method_2_code 39 = .ok (.aload_n 0, 1) := by decide +kernel
theorem d5_40 : decode prog_27_method_2_code 40 = .ok (.dup, 1) := by decide +kernel
theorem d5_41 : decode prog_27_method_2_code 41 = .ok (.getfield 13, 3) := by decide +kernel
theorem d5_44 : decode prog_27_method_2_code 44 = .ok (.iconst 1, 1) := by decide +kernel
theorem d5_45 : decode prog_27_method_2_code 45 = .ok (.iadd, 1) := by decide +kernel
theorem d5_46 : decode prog_27_method_2_code 46 = .ok (.putfield 13, 3) := by decide +kernel
theorem d5_49 : decode prog_27_method_2_code 49 = .ok (.return_, 1) := by decide +kernel
theorem pn_5 : plainName "com/example/latchwork/latchwork/history/IntList" = true := by first | (simp [plainName, overriddenIn]; done) | decide +kernel
theorem ef_5 (m : MethodId) (a1 : Addr) (p2 : Int32) : entryFrame m #[(.ref a1), (.int p2)] 2 = mkF m 0 #[.val (.ref a1), .val (.int p2)] [] := by first | (simp [entryFrame, mkF, argsToLocals, Value.category]; done) | rfl
def Q5 (Z : State) (a1 : Addr) (p2 : Int32) (x : Addr) (k : ClassId) (h0 : Heap) (n0 : Nat) (v : Option Value) (h : Heap) (L : List Loc) : Prop := v = none ∧ Fr n0 L ∧ Keep h0 h [a1, x] ∧ Fld Z h a1 "com/example/latchwork/latchwork/history/IntList" "size" "I" (.int (1 : Int32)) ∧ (True)
set_option maxRecDepth 65536 in
set_option maxHeartbeats 40000000 in
theorem rm5 (l : Launch) (Z : State) (a0 : Array Value) (hw : ∀ d ∈ tables_1, d.before a0 Z = true) (ws : List Jvm.Cond) (a1 : Addr) (p2 : Int32) (x : Addr) (k : ClassId) (h0 : Heap) (n0 : Nat) (Z0 : n0 ≤ h0.size) (E_a1 : Exa Z h0 a1 "com/example/latchwork/latchwork/history/IntList") (F_size_a1 : Fld Z h0 a1 "com/example/latchwork/latchwork/history/IntList" "size" "I" (.int (0 : Int32))) (F_values_a1 : Fld Z h0 a1 "com/example/latchwork/latchwork/history/IntList" "values" "[I" (.ref x)) (V_x : Arv Z h0 x k .int (4 : Int32) [(.int (0 : Int32)), (.int (0 : Int32)), (.int (0 : Int32)), (.int (0 : Int32))] (.int (0 : Int32))) (g_a1 : n0 ≤ a1) (g_x : n0 ≤ x) (ne_a1_x : a1 ≠ x) :
    MetFree l (⟨"com/example/latchwork/latchwork/history/IntList", "add", "(I)V"⟩ : MethodName) (head1 (Jvm.Cond.code (⟨"com/example/latchwork/latchwork/history/IntList", "add", "(I)V"⟩ : MethodName) prog_27_method_2_code 2 none :: ws) ({ frames := 0, cells := 0, slots := 0, locals := 0 } : Room)) (fun a U => a = #[(.ref a1), (.int p2)] ∧ Z.Warmed39 U.vm ∧ U.heap = h0) (fun _ _ _ _ _ => True) (fun _ U o U' => ∃ v L, o = .returned v ∧ Q5 Z a1 p2 x k h0 n0 v U'.heap L ∧ FrameEnd U o U' L ({ frames := 0, cells := 0, slots := 0, locals := 0 } : Room).cells ({ frames := 0, cells := 0, slots := 0, locals := 0 } : Room).slots) := by
  refine MetFree.of_bodySF (plainFor_of_name pn_5) hisR ?_
  intro p e s m args below meth c s₁ Bd hml0 hP hK
  obtain ⟨rfl, hZ, hh⟩ := hP
  have hx := Bd.exec
  have hby := Bd.bytes
  have hml : c.maxLocals = 2 := hml0
  have hown : s.vm.findClass "com/example/latchwork/latchwork/history/IntList" = some m.cls := findClass_of_methodNamed Bd.named
  have hnm := (name_of_methodNamed Bd.named Bd.method).1
  have X0 : Stand p l e ({ frames := 0, cells := 0, slots := 0, locals := 0 } : Room) s m #[(.ref a1), (.int p2)] below meth c s₁ [] 0 0 := Stand.of_body Bd
  have e0 : s₁.heap = h0 := by rw [← hh, Bd.state]; rfl
  have N0 := Fr.nil n0
  have pre0 : ∀ tq, Steps p.tables e below (s₁.setTop (mkF m 0 #[.val (.ref a1), .val (.int p2)] [])) tq → Steps p.tables e below (s₁.setTop (entryFrame m #[(.ref a1), (.int p2)] 2)) tq := fun tq kq => castTop (ef_5 m a1 p2) kq
  have pre1 : ∀ tq, Steps p.tables e below (s₁.setTop (mkF m 1 #[.val (.ref a1), .val (.int p2)] [(.ref a1)])) tq → Steps p.tables e below (s₁.setTop (entryFrame m #[(.ref a1), (.int p2)] 2)) tq := by
    refine fun tq kq => pre0 tq ?_
    show Steps p.tables e below (s₁.setTop (mkF m 0 #[.val (.ref a1), .val (.int p2)] [])) _
    refine XS.aloadN X0.here hx rfl (hb hby d5_0) rfl rfl ?_
    exact kq
  obtain ⟨T2, X2, e2, st2⟩ := getF X0 hx hZ hown (host := "") (Or.inl (hw _ (List.mem_of_getElem? (i := 36) rfl))) Via.refl e0 F_size_a1 (g := (mkF m 1 #[.val (.ref a1), .val (.int p2)] [(.ref a1)])) rfl rfl (hb hby d5_1)
  have pre3 : ∀ tq, Steps p.tables e below (T2.setTop (mkF m 4 #[.val (.ref a1), .val (.int p2)] [(.int (0 : Int32))])) tq → Steps p.tables e below (s₁.setTop (entryFrame m #[(.ref a1), (.int p2)] 2)) tq := fun tq kq => pre1 tq (st2 _ kq)
  have pre4 : ∀ tq, Steps p.tables e below (T2.setTop (mkF m 5 #[.val (.ref a1), .val (.int p2)] [(.ref a1), (.int (0 : Int32))])) tq → Steps p.tables e below (s₁.setTop (entryFrame m #[(.ref a1), (.int p2)] 2)) tq := by
    refine fun tq kq => pre3 tq ?_
    show Steps p.tables e below (T2.setTop (mkF m 4 #[.val (.ref a1), .val (.int p2)] [(.int (0 : Int32))])) _
    refine XS.aloadN X2.here hx rfl (hb hby d5_4) rfl rfl ?_
    exact kq
  obtain ⟨T5, X5, e5, st5⟩ := getF X2 hx hZ hown (host := "") (Or.inl (hw _ (List.mem_of_getElem? (i := 18) rfl))) Via.refl e2 F_values_a1 (g := (mkF m 5 #[.val (.ref a1), .val (.int p2)] [(.ref a1), (.int (0 : Int32))])) rfl rfl (hb hby d5_5)
  have pre6 : ∀ tq, Steps p.tables e below (T5.setTop (mkF m 8 #[.val (.ref a1), .val (.int p2)] [(.ref x), (.int (0 : Int32))])) tq → Steps p.tables e below (s₁.setTop (entryFrame m #[(.ref a1), (.int p2)] 2)) tq := fun tq kq => pre4 tq (st5 _ kq)
  have Vc7 := V_x
  obtain ⟨cl7, Ar7, Aq7, As7, An7, Ah7, Ag7⟩ := Vc7
  have pre8 : ∀ tq, Steps p.tables e below (T5.setTop (mkF m 9 #[.val (.ref a1), .val (.int p2)] [(.int (4 : Int32)), (.int (0 : Int32))])) tq → Steps p.tables e below (s₁.setTop (entryFrame m #[(.ref a1), (.int p2)] 2)) tq := fun tq kq => pre6 tq (X5.arraylength hx (by rw [e5]; exact Ar7.1) (State.isArrayOf_alike hZ.alike Ar7.2.1) (g := (mkF m 8 #[.val (.ref a1), .val (.int p2)] [(.ref x), (.int (0 : Int32))])) rfl rfl (hb hby d5_8) _ (by rw [len_of As7 An7]; exact kq))
  have pre9 : ∀ tq, Steps p.tables e below (T5.setTop (mkF m 29 #[.val (.ref a1), .val (.int p2)] [])) tq → Steps p.tables e below (s₁.setTop (entryFrame m #[(.ref a1), (.int p2)] 2)) tq := by
    refine fun tq kq => pre8 tq ?_
    show Steps p.tables e below (T5.setTop (mkF m 9 #[.val (.ref a1), .val (.int p2)] [(.int (4 : Int32)), (.int (0 : Int32))])) _
    refine XS.icmpYes X5.here hx rfl (pc0 := 9) (pc' := 29) rfl (hb hby d5_9) rfl (feq (by decide : ¬ ((0 : Int32) = (4 : Int32)))).2 (by decide) (by decide) ?_
    exact kq
  have pre10 : ∀ tq, Steps p.tables e below (T5.setTop (mkF m 30 #[.val (.ref a1), .val (.int p2)] [(.ref a1)])) tq → Steps p.tables e below (s₁.setTop (entryFrame m #[(.ref a1), (.int p2)] 2)) tq := by
    refine fun tq kq => pre9 tq ?_
    show Steps p.tables e below (T5.setTop (mkF m 29 #[.val (.ref a1), .val (.int p2)] [])) _
    refine XS.aloadN X5.here hx rfl (hb hby d5_29) rfl rfl ?_
    exact kq
  obtain ⟨T11, X11, e11, st11⟩ := getF X5 hx hZ hown (host := "") (Or.inl (hw _ (List.mem_of_getElem? (i := 18) rfl))) Via.refl e5 F_values_a1 (g := (mkF m 30 #[.val (.ref a1), .val (.int p2)] [(.ref a1)])) rfl rfl (hb hby d5_30)
  have pre12 : ∀ tq, Steps p.tables e below (T11.setTop (mkF m 33 #[.val (.ref a1), .val (.int p2)] [(.ref x)])) tq → Steps p.tables e below (s₁.setTop (entryFrame m #[(.ref a1), (.int p2)] 2)) tq := fun tq kq => pre10 tq (st11 _ kq)
  have pre13 : ∀ tq, Steps p.tables e below (T11.setTop (mkF m 34 #[.val (.ref a1), .val (.int p2)] [(.ref a1), (.ref x)])) tq → Steps p.tables e below (s₁.setTop (entryFrame m #[(.ref a1), (.int p2)] 2)) tq := by
    refine fun tq kq => pre12 tq ?_
    show Steps p.tables e below (T11.setTop (mkF m 33 #[.val (.ref a1), .val (.int p2)] [(.ref x)])) _
    refine XS.aloadN X11.here hx rfl (hb hby d5_33) rfl rfl ?_
    exact kq
  obtain ⟨T14, X14, e14, st14⟩ := getF X11 hx hZ hown (host := "") (Or.inl (hw _ (List.mem_of_getElem? (i := 36) rfl))) Via.refl e11 F_size_a1 (g := (mkF m 34 #[.val (.ref a1), .val (.int p2)] [(.ref a1), (.ref x)])) rfl rfl (hb hby d5_34)
  have pre15 : ∀ tq, Steps p.tables e below (T14.setTop (mkF m 37 #[.val (.ref a1), .val (.int p2)] [(.int (0 : Int32)), (.ref x)])) tq → Steps p.tables e below (s₁.setTop (entryFrame m #[(.ref a1), (.int p2)] 2)) tq := fun tq kq => pre13 tq (st14 _ kq)
  have pre16 : ∀ tq, Steps p.tables e below (T14.setTop (mkF m 38 #[.val (.ref a1), .val (.int p2)] [(.int p2), (.int (0 : Int32)), (.ref x)])) tq → Steps p.tables e below (s₁.setTop (entryFrame m #[(.ref a1), (.int p2)] 2)) tq := by
    refine fun tq kq => pre15 tq ?_
    show Steps p.tables e below (T14.setTop (mkF m 37 #[.val (.ref a1), .val (.int p2)] [(.int (0 : Int32)), (.ref x)])) _
    refine XS.iloadN X14.here hx rfl (hb hby d5_37) rfl ?_
    exact kq
  have Vc17 := V_x
  obtain ⟨cl17, Ar17, Aq17, As17, An17, Ah17, Ag17⟩ := Vc17
  have hin17 : ¬ ((0 : Int32) < 0 ∨ cl17.slots.size ≤ ((0 : Int32)).toNatClampNeg) := inb_of As17 ⟨by decide, by decide⟩
  obtain ⟨T17, h17, X17, e17, W17, st17⟩ := stI X14 hx hZ e14 Ar17 (j := (0 : Int32)) hin17 (g := (mkF m 38 #[.val (.ref a1), .val (.int p2)] [(.int p2), (.int (0 : Int32)), (.ref x)])) rfl rfl (hb hby d5_38)
  have pre18 : ∀ tq, Steps p.tables e below (T17.setTop (mkF m 39 #[.val (.ref a1), .val (.int p2)] [])) tq → Steps p.tables e below (s₁.setTop (entryFrame m #[(.ref a1), (.int p2)] 2)) tq := fun tq kq => pre16 tq (st17 _ kq)
  have N17 := Fr.snoc X17 N0 g_x
  have K17 : Keep h0 h17 [a1, x] := Keep.wr (Keep.refl h0 [a1, x]) W17 (Or.inl (List.mem_of_getElem? (i := 1) rfl))
  have f19 := E_a1.wr W17
  have f20 := F_size_a1.other W17 (Or.inl ne_a1_x)
  have f21 := F_values_a1.other W17 (Or.inl ne_a1_x)
  have f22 : Arv Z h17 x k .int (4 : Int32) [(.int p2), (.int (0 : Int32)), (.int (0 : Int32)), (.int (0 : Int32))] (.int (0 : Int32)) := Arv.set Ar17 Aq17 As17 An17 Ah17 Ag17 rfl W17 0 rfl (Nat.le_of_ble_eq_true rfl)
  have pre23 : ∀ tq, Steps p.tables e below (T17.setTop (mkF m 41 #[.val (.ref a1), .val (.int p2)] [(.ref a1), (.ref a1)])) tq → Steps p.tables e below (s₁.setTop (entryFrame m #[(.ref a1), (.int p2)] 2)) tq := by
    refine fun tq kq => pre18 tq ?_
    show Steps p.tables e below (T17.setTop (mkF m 39 #[.val (.ref a1), .val (.int p2)] [])) _
    refine XS.aloadN X17.here hx rfl (hb hby d5_39) rfl rfl ?_
    show Steps p.tables e below (T17.setTop (mkF m 40 #[.val (.ref a1), .val (.int p2)] [(.ref a1)])) _
    refine XS.dup X17.here hx rfl (hb hby d5_40) rfl rfl ?_
    exact kq
  obtain ⟨T24, X24, e24, st24⟩ := getF X17 hx hZ hown (host := "") (Or.inl (hw _ (List.mem_of_getElem? (i := 36) rfl))) Via.refl e17 f20 (g := (mkF m 41 #[.val (.ref a1), .val (.int p2)] [(.ref a1), (.ref a1)])) rfl rfl (hb hby d5_41)
  have pre25 : ∀ tq, Steps p.tables e below (T24.setTop (mkF m 44 #[.val (.ref a1), .val (.int p2)] [(.int (0 : Int32)), (.ref a1)])) tq → Steps p.tables e below (s₁.setTop (entryFrame m #[(.ref a1), (.int p2)] 2)) tq := fun tq kq => pre23 tq (st24 _ kq)
  have pre26 : ∀ tq, Steps p.tables e below (T24.setTop (mkF m 46 #[.val (.ref a1), .val (.int p2)] [(.int (1 : Int32)), (.ref a1)])) tq → Steps p.tables e below (s₁.setTop (entryFrame m #[(.ref a1), (.int p2)] 2)) tq := by
    refine fun tq kq => pre25 tq ?_
    show Steps p.tables e below (T24.setTop (mkF m 44 #[.val (.ref a1), .val (.int p2)] [(.int (0 : Int32)), (.ref a1)])) _
    refine XS.iconst X24.here hx rfl (hb hby d5_44) ?_
    show Steps p.tables e below (T24.setTop (mkF m 45 #[.val (.ref a1), .val (.int p2)] [(.int (1 : Int32)), (.int (0 : Int32)), (.ref a1)])) _
    refine XS.iadd X24.here hx rfl (hb hby d5_45) rfl ?_
    exact kq
  obtain ⟨T27, h27, X27, e27, W27, st27⟩ := putF X24 hx hZ hown (host := "") (Or.inl (hw _ (List.mem_of_getElem? (i := 36) rfl))) Via.refl e24 f20 f19 (Or.inl (hw _ (List.mem_of_getElem? (i := 37) rfl))) (hw _ (List.mem_of_getElem? (i := 11) rfl)) (ty := .int) (by decide) rfl rfl (g := (mkF m 46 #[.val (.ref a1), .val (.int p2)] [(.int (1 : Int32)), (.ref a1)])) rfl rfl (hb hby d5_46)
  have pre28 : ∀ tq, Steps p.tables e below (T27.setTop (mkF m 49 #[.val (.ref a1), .val (.int p2)] [])) tq → Steps p.tables e below (s₁.setTop (entryFrame m #[(.ref a1), (.int p2)] 2)) tq := fun tq kq => pre26 tq (st27 _ kq)
  have N27 := Fr.snoc X27 N17 g_a1
  have K27 : Keep h0 h27 [a1, x] := Keep.wr K17 W27 (Or.inl (List.mem_of_getElem? (i := 0) rfl))
  have f29 := f19.wr W27
  have f30 := f21.other W27 (Or.inr (slot_ne (Or.inl (hw _ (List.mem_of_getElem? (i := 19) rfl))) (Or.inl (hw _ (List.mem_of_getElem? (i := 37) rfl))) (by decide) (t := (.array .int)) (t' := .int) (by decide) (by decide)))
  have f31 := f22.other W27 (Ne.symm ne_a1_x)
  have f32 := f20.same W27
  obtain ⟨fs, hr, hrun, hended, hW, hsame⟩ := X27.leave (v := none) (fun _ => rfl)
  refine ⟨_, _, pre28 _ ?_, hrun, hended, _, _, rfl, ?_, ⟨_, rfl⟩, hW, hsame.mono (by decide) (by decide)⟩
  · skip
    show Steps p.tables e below (T27.setTop (mkF m 49 #[.val (.ref a1), .val (.int p2)] [])) _
    exact X27.returnOut hx Bd.returns (hb hby d5_49) hr
  · show Q5 Z a1 p2 x k h0 n0 _ T27.heap _
    rw [e27]
    refine ⟨rfl, N27, K27, f32, ?_⟩
    trivial
/-! body 4 -/
theorem d4_0 : decode prog_22_method_3_code 0 = .ok (.aload_n 0, 1) := by decide +kernel
theorem d4_1 : decode prog_22_method_3_code 1 = .ok (.getfield 10, 3) := by decide +kernel
theorem d4_4 : decode prog_22_method_3_code 4 = .ok (.iload_n 1, 1) := by decide +kernel
theorem d4_5 : decode prog_22_method_3_code 5 = .ok (.invokevirtual 23, 3) := by decide +kernel
theorem d4_8 : decode prog_22_method_3_code 8 = .ok (.aload_n 0, 1) := by decide +kernel
theorem d4_9 : decode prog_22_method_3_code 9 = .ok (.getfield 16, 3) := by decide +kernel
theorem d4_12 : decode prog_22_method_3_code 12 = .ok (.iload_n 2, 1) := by decide +kernel
theorem d4_13 : decode prog_22_method_3_code 13 = .ok (.invokevirtual 23, 3) := by decide +kernel
theorem d4_16 : decode prog_22_method_3_code 16 = .ok (.return_, 1) := by decide +kernel
theorem pn_4 : plainName "com/example/latchwork/latchwork/history/EdgeList" = true := by first | (simp [plainName, overriddenIn]; done) | decide +kernel
theorem pd4_0 : parseMethodDescriptor "(I)V" = some ⟨[.int], none⟩ := by decide +kernel
theorem ef_4 (m : MethodId) (a1 : Addr) (p2 : Int32) (p3 : Int32) : entryFrame m #[(.ref a1), (.int p2), (.int p3)] 3 = mkF m 0 #[.val (.ref a1), .val (.int p2), .val (.int p3)] [] := by first | (simp [entryFrame, mkF, argsToLocals, Value.category]; done) | rfl
def Q4 (Z : State) (a1 : Addr) (p2 : Int32) (p3 : Int32) (t : Addr) (hl : Addr) (x1 : Addr) (k1 : ClassId) (x2 : Addr) (k2 : ClassId) (h0 : Heap) (n0 : Nat) (v : Option Value) (h : Heap) (L : List Loc) : Prop := v = none ∧ Fr n0 L ∧ Keep h0 h [t, x1, hl, x2] ∧ Fld Z h t "com/example/latchwork/latchwork/history/IntList" "size" "I" (.int (1 : Int32)) ∧ (True)
set_option maxRecDepth 65536 in
set_option maxHeartbeats 40000000 in
theorem rm4 (l : Launch) (Z : State) (a0 : Array Value) (hw : ∀ d ∈ tables_1, d.before a0 Z = true) (ws : List Jvm.Cond) (a1 : Addr) (p2 : Int32) (p3 : Int32) (t : Addr) (hl : Addr) (x1 : Addr) (k1 : ClassId) (x2 : Addr) (k2 : ClassId) (h0 : Heap) (n0 : Nat) (Z0 : n0 ≤ h0.size) (F_tails_a1 : Fld Z h0 a1 "com/example/latchwork/latchwork/history/EdgeList" "tails" "Lcom/example/latchwork/latchwork/history/IntList;" (.ref t)) (F_heads_a1 : Fld Z h0 a1 "com/example/latchwork/latchwork/history/EdgeList" "heads" "Lcom/example/latchwork/latchwork/history/IntList;" (.ref hl)) (E_t : Exa Z h0 t "com/example/latchwork/latchwork/history/IntList") (F_values_t : Fld Z h0 t "com/example/latchwork/latchwork/history/IntList" "values" "[I" (.ref x1)) (F_size_t : Fld Z h0 t "com/example/latchwork/latchwork/history/IntList" "size" "I" (.int (0 : Int32))) (V_x1 : Arv Z h0 x1 k1 .int (4 : Int32) [(.int (0 : Int32)), (.int (0 : Int32)), (.int (0 : Int32)), (.int (0 : Int32))] (.int (0 : Int32))) (E_hl : Exa Z h0 hl "com/example/latchwork/latchwork/history/IntList") (F_values_hl : Fld Z h0 hl "com/example/latchwork/latchwork/history/IntList" "values" "[I" (.ref x2)) (F_size_hl : Fld Z h0 hl "com/example/latchwork/latchwork/history/IntList" "size" "I" (.int (0 : Int32))) (V_x2 : Arv Z h0 x2 k2 .int (4 : Int32) [(.int (0 : Int32)), (.int (0 : Int32)), (.int (0 : Int32)), (.int (0 : Int32))] (.int (0 : Int32))) (g_t : n0 ≤ t) (g_x1 : n0 ≤ x1) (g_hl : n0 ≤ hl) (g_x2 : n0 ≤ x2) (ne_a1_t : a1 ≠ t) (ne_a1_x1 : a1 ≠ x1) (ne_a1_hl : a1 ≠ hl) (ne_a1_x2 : a1 ≠ x2) (ne_t_x1 : t ≠ x1) (ne_t_hl : t ≠ hl) (ne_t_x2 : t ≠ x2) (ne_x1_hl : x1 ≠ hl) (ne_x1_x2 : x1 ≠ x2) (ne_hl_x2 : hl ≠ x2) :
    MetFree l (⟨"com/example/latchwork/latchwork/history/EdgeList", "add", "(II)V"⟩ : MethodName) (head1 (Jvm.Cond.code (⟨"com/example/latchwork/latchwork/history/EdgeList", "add", "(II)V"⟩ : MethodName) prog_22_method_3_code 3 none :: ws) ({ frames := 1, cells := 0, slots := 0, locals := 13 } : Room)) (fun a U => a = #[(.ref a1), (.int p2), (.int p3)] ∧ Z.Warmed39 U.vm ∧ U.heap = h0) (fun _ _ _ _ _ => True) (fun _ U o U' => ∃ v L, o = .returned v ∧ Q4 Z a1 p2 p3 t hl x1 k1 x2 k2 h0 n0 v U'.heap L ∧ FrameEnd U o U' L ({ frames := 1, cells := 0, slots := 0, locals := 13 } : Room).cells ({ frames := 1, cells := 0, slots := 0, locals := 13 } : Room).slots) := by
  refine MetFree.of_bodySF (plainFor_of_name pn_4) hisR ?_
  intro p e s m args below meth c s₁ Bd hml0 hP hK
  obtain ⟨rfl, hZ, hh⟩ := hP
  have hx := Bd.exec
  have hby := Bd.bytes
  have hml : c.maxLocals = 3 := hml0
  have hown : s.vm.findClass "com/example/latchwork/latchwork/history/EdgeList" = some m.cls := findClass_of_methodNamed Bd.named
  have hnm := (name_of_methodNamed Bd.named Bd.method).1
  have X0 : Stand p l e ({ frames := 1, cells := 0, slots := 0, locals := 13 } : Room) s m #[(.ref a1), (.int p2), (.int p3)] below meth c s₁ [] 0 0 := Stand.of_body Bd
  have e0 : s₁.heap = h0 := by rw [← hh, Bd.state]; rfl
  have N0 := Fr.nil n0
  have pre0 : ∀ tq, Steps p.tables e below (s₁.setTop (mkF m 0 #[.val (.ref a1), .val (.int p2), .val (.int p3)] [])) tq → Steps p.tables e below (s₁.setTop (entryFrame m #[(.ref a1), (.int p2), (.int p3)] 3)) tq := fun tq kq => castTop (ef_4 m a1 p2 p3) kq
  have pre1 : ∀ tq, Steps p.tables e below (s₁.setTop (mkF m 1 #[.val (.ref a1), .val (.int p2), .val (.int p3)] [(.ref a1)])) tq → Steps p.tables e below (s₁.setTop (entryFrame m #[(.ref a1), (.int p2), (.int p3)] 3)) tq := by
    refine fun tq kq => pre0 tq ?_
    show Steps p.tables e below (s₁.setTop (mkF m 0 #[.val (.ref a1), .val (.int p2), .val (.int p3)] [])) _
    refine XS.aloadN X0.here hx rfl (hb hby d4_0) rfl rfl ?_
    exact kq
  obtain ⟨T2, X2, e2, st2⟩ := getF X0 hx hZ hown (host := "") (Or.inl (hw _ (List.mem_of_getElem? (i := 20) rfl))) Via.refl e0 F_tails_a1 (g := (mkF m 1 #[.val (.ref a1), .val (.int p2), .val (.int p3)] [(.ref a1)])) rfl rfl (hb hby d4_1)
  have pre3 : ∀ tq, Steps p.tables e below (T2.setTop (mkF m 4 #[.val (.ref a1), .val (.int p2), .val (.int p3)] [(.ref t)])) tq → Steps p.tables e below (s₁.setTop (entryFrame m #[(.ref a1), (.int p2), (.int p3)] 3)) tq := fun tq kq => pre1 tq (st2 _ kq)
  have pre4 : ∀ tq, Steps p.tables e below (T2.setTop (mkF m 5 #[.val (.ref a1), .val (.int p2), .val (.int p3)] [(.int p2), (.ref t)])) tq → Steps p.tables e below (s₁.setTop (entryFrame m #[(.ref a1), (.int p2), (.int p3)] 3)) tq := by
    refine fun tq kq => pre3 tq ?_
    show Steps p.tables e below (T2.setTop (mkF m 4 #[.val (.ref a1), .val (.int p2), .val (.int p3)] [(.ref t)])) _
    refine XS.iloadN X2.here hx rfl (hb hby d4_4) rfl ?_
    exact kq
  have Z5 : n0 ≤ h0.size := Z0
  obtain ⟨cq5, kq5, q5a, q5b, q5c⟩ := isOf hZ e2 E_t
  obtain ⟨_, _, ⟨T5, L5, k5, n5⟩, -, X5, ⟨Lc5, hQ5, l5, y5, z5⟩, st5⟩ := X2.virtualBack hx (y := (⟨"com/example/latchwork/latchwork/history/IntList", "add", "(I)V"⟩ : MethodName)) (z := (⟨"com/example/latchwork/latchwork/history/IntList", "add", "(I)V"⟩ : MethodName)) hown (mvT hZ (hw _ (List.mem_of_getElem? (i := 31) rfl))) (mvT hZ (hw _ (List.mem_of_getElem? (i := 32) rfl))) (notFace_of_selects (args := #[]) (mvT hZ (hw _ (List.mem_of_getElem? (i := 34) rfl)))) (mvT hZ (hw _ (List.mem_of_getElem? (i := 34) rfl))) (mvT hZ (hw _ (List.mem_of_getElem? (i := 33) rfl))) (by decide) (backOf (W := 0) (rm5 l Z a0 hw [] t p2 x1 k1 h0 n0 Z5 E_t F_size_t F_values_t V_x1 g_t g_x1 ne_t_x1) hZ (hw _ (List.mem_of_getElem? (i := 35) rfl)) (hw _ (List.mem_of_getElem? (i := 12) rfl)) (by decide) (by decide)) q5a q5c (g := (mkF m 5 #[.val (.ref a1), .val (.int p2), .val (.int p3)] [(.int p2), (.ref t)])) rfl (by rw [hml]; rfl) (Steps.refl _) (argsL := [(.int p2)]) (rest := []) (lenOf pd4_0 rfl) rfl (by show 2 * 0 + _ ≤ _; exact Nat.le_of_eq rfl) (hb hby d4_5) (fun _ _ => ⟨rfl, e2, (by decide : 0 + 0 ≤ _), (by decide : 0 + 0 ≤ _)⟩)
  dsimp only [Pt.U, Pt.locs, Pt.cells, Pt.slots] at X5 l5 y5 z5 st5 hQ5
  subst l5 y5 z5
  obtain ⟨rfl, Nq5, Kq5, f6, hq5⟩ := hQ5
  have N5 := Fr.app N0 Nq5
  have pre7 : ∀ tq, Steps p.tables e below (T5.setTop (mkF m 8 #[.val (.ref a1), .val (.int p2), .val (.int p3)] [])) tq → Steps p.tables e below (s₁.setTop (entryFrame m #[(.ref a1), (.int p2), (.int p3)] 3)) tq := fun tq kq => pre4 tq (st5.trans kq)
  have K5 : Keep h0 T5.heap [t, x1, hl, x2] := Keep.trans (Keep.refl h0 [t, x1, hl, x2]) Kq5 (allS (Or.inl (List.mem_of_getElem? (i := 0) rfl)) (allS (Or.inl (List.mem_of_getElem? (i := 1) rfl)) all0))
  have f8 := F_tails_a1.keep Kq5 (by simp only [List.mem_cons, List.not_mem_nil, or_false, not_or]; exact ⟨ne_a1_t, ne_a1_x1⟩)
  have f9 := F_heads_a1.keep Kq5 (by simp only [List.mem_cons, List.not_mem_nil, or_false, not_or]; exact ⟨ne_a1_t, ne_a1_x1⟩)
  have f10 := E_t.keep Kq5
  have f11 := E_hl.keep Kq5
  have f12 := F_values_hl.keep Kq5 (by simp only [List.mem_cons, List.not_mem_nil, or_false, not_or]; exact ⟨(Ne.symm ne_t_hl), (Ne.symm ne_x1_hl)⟩)
  have f13 := F_size_hl.keep Kq5 (by simp only [List.mem_cons, List.not_mem_nil, or_false, not_or]; exact ⟨(Ne.symm ne_t_hl), (Ne.symm ne_x1_hl)⟩)
  have f14 := V_x2.keep Kq5 (by simp only [List.mem_cons, List.not_mem_nil, or_false, not_or]; exact ⟨(Ne.symm ne_t_x2), (Ne.symm ne_x1_x2)⟩)
  have pre15 : ∀ tq, Steps p.tables e below (T5.setTop (mkF m 9 #[.val (.ref a1), .val (.int p2), .val (.int p3)] [(.ref a1)])) tq → Steps p.tables e below (s₁.setTop (entryFrame m #[(.ref a1), (.int p2), (.int p3)] 3)) tq := by
    refine fun tq kq => pre7 tq ?_
    show Steps p.tables e below (T5.setTop (mkF m 8 #[.val (.ref a1), .val (.int p2), .val (.int p3)] [])) _
    refine XS.aloadN X5.here hx rfl (hb hby d4_8) rfl rfl ?_
    exact kq
  obtain ⟨T16, X16, e16, st16⟩ := getF X5 hx hZ hown (host := "") (Or.inl (hw _ (List.mem_of_getElem? (i := 22) rfl))) Via.refl rfl f9 (g := (mkF m 9 #[.val (.ref a1), .val (.int p2), .val (.int p3)] [(.ref a1)])) rfl rfl (hb hby d4_9)
  have pre17 : ∀ tq, Steps p.tables e below (T16.setTop (mkF m 12 #[.val (.ref a1), .val (.int p2), .val (.int p3)] [(.ref hl)])) tq → Steps p.tables e below (s₁.setTop (entryFrame m #[(.ref a1), (.int p2), (.int p3)] 3)) tq := fun tq kq => pre15 tq (st16 _ kq)
  have pre18 : ∀ tq, Steps p.tables e below (T16.setTop (mkF m 13 #[.val (.ref a1), .val (.int p2), .val (.int p3)] [(.int p3), (.ref hl)])) tq → Steps p.tables e below (s₁.setTop (entryFrame m #[(.ref a1), (.int p2), (.int p3)] 3)) tq := by
    refine fun tq kq => pre17 tq ?_
    show Steps p.tables e below (T16.setTop (mkF m 12 #[.val (.ref a1), .val (.int p2), .val (.int p3)] [(.ref hl)])) _
    refine XS.iloadN X16.here hx rfl (hb hby d4_12) rfl ?_
    exact kq
  have Z19 : n0 ≤ T5.heap.size := (Nat.le_trans Z5 Kq5.1)
  obtain ⟨cq19, kq19, q19a, q19b, q19c⟩ := isOf hZ e16 f11
  obtain ⟨_, _, ⟨T19, L19, k19, n19⟩, -, X19, ⟨Lc19, hQ19, l19, y19, z19⟩, st19⟩ := X16.virtualBack hx (y := (⟨"com/example/latchwork/latchwork/history/IntList", "add", "(I)V"⟩ : MethodName)) (z := (⟨"com/example/latchwork/latchwork/history/IntList", "add", "(I)V"⟩ : MethodName)) hown (mvT hZ (hw _ (List.mem_of_getElem? (i := 31) rfl))) (mvT hZ (hw _ (List.mem_of_getElem? (i := 32) rfl))) (notFace_of_selects (args := #[]) (mvT hZ (hw _ (List.mem_of_getElem? (i := 34) rfl)))) (mvT hZ (hw _ (List.mem_of_getElem? (i := 34) rfl))) (mvT hZ (hw _ (List.mem_of_getElem? (i := 33) rfl))) (by decide) (backOf (W := 0) (rm5 l Z a0 hw [] hl p3 x2 k2 T5.heap n0 Z19 f11 f13 f12 f14 g_hl g_x2 ne_hl_x2) hZ (hw _ (List.mem_of_getElem? (i := 35) rfl)) (hw _ (List.mem_of_getElem? (i := 12) rfl)) (by decide) (by decide)) q19a q19c (g := (mkF m 13 #[.val (.ref a1), .val (.int p2), .val (.int p3)] [(.int p3), (.ref hl)])) rfl (by rw [hml]; rfl) (Steps.refl _) (argsL := [(.int p3)]) (rest := []) (lenOf pd4_0 rfl) rfl (by show 2 * 0 + _ ≤ _; exact Nat.le_of_eq rfl) (hb hby d4_13) (fun _ _ => ⟨rfl, e16, (by decide : (0 + 0) + 0 ≤ _), (by decide : (0 + 0) + 0 ≤ _)⟩)
  dsimp only [Pt.U, Pt.locs, Pt.cells, Pt.slots] at X19 l19 y19 z19 st19 hQ19
  subst l19 y19 z19
  obtain ⟨rfl, Nq19, Kq19, f20, hq19⟩ := hQ19
  have N19 := Fr.app N5 Nq19
  have pre21 : ∀ tq, Steps p.tables e below (T19.setTop (mkF m 16 #[.val (.ref a1), .val (.int p2), .val (.int p3)] [])) tq → Steps p.tables e below (s₁.setTop (entryFrame m #[(.ref a1), (.int p2), (.int p3)] 3)) tq := fun tq kq => pre18 tq (st19.trans kq)
  have K19 : Keep h0 T19.heap [t, x1, hl, x2] := Keep.trans K5 Kq19 (allS (Or.inl (List.mem_of_getElem? (i := 2) rfl)) (allS (Or.inl (List.mem_of_getElem? (i := 3) rfl)) all0))
  have f22 := f8.keep Kq19 (by simp only [List.mem_cons, List.not_mem_nil, or_false, not_or]; exact ⟨ne_a1_hl, ne_a1_x2⟩)
  have f23 := f9.keep Kq19 (by simp only [List.mem_cons, List.not_mem_nil, or_false, not_or]; exact ⟨ne_a1_hl, ne_a1_x2⟩)
  have f24 := f10.keep Kq19
  have f25 := f11.keep Kq19
  have f26 := f6.keep Kq19 (by simp only [List.mem_cons, List.not_mem_nil, or_false, not_or]; exact ⟨ne_t_hl, ne_t_x2⟩)
  obtain ⟨fs, hr, hrun, hended, hW, hsame⟩ := X19.leave (v := none) (fun _ => rfl)
  refine ⟨_, _, pre21 _ ?_, hrun, hended, _, _, rfl, ?_, ⟨_, rfl⟩, hW, hsame.mono (by decide) (by decide)⟩
  · skip
    show Steps p.tables e below (T19.setTop (mkF m 16 #[.val (.ref a1), .val (.int p2), .val (.int p3)] [])) _
    exact X19.returnOut hx Bd.returns (hb hby d4_16) hr
  · show Q4 Z a1 p2 p3 t hl x1 k1 x2 k2 h0 n0 _ T19.heap _
    refine ⟨rfl, N19, K19, f26, ?_⟩
    trivial
/-! body 6 -/
theorem d6_0 : decode prog_22_method_2_code 0 = .ok (.aload_n 0, 1) := by decide +kernel
theorem d6_1 : decode prog_22_method_2_code 1 = .ok (.dup, 1) := by decide +kernel
theorem d6_2 : decode prog_22_method_2_code 2 = .ok (.getfield 19, 3) := by decide +kernel
theorem d6_5 : decode prog_22_method_2_code 5 = .ok (.dup_x1, 1) := by decide +kernel
theorem d6_6 : decode prog_22_method_2_code 6 = .ok (.iconst 1, 1) := by decide +kernel
theorem d6_7 : decode prog_22_method_2_code 7 = .ok (.iadd, 1) := by decide +kernel
theorem d6_8 : decode prog_22_method_2_code 8 = .ok (.putfield 19, 3) := by decide +kernel
theorem d6_11 : decode prog_22_method_2_code 11 = .ok (.ireturn, 1) := by decide +kernel
theorem pn_6 : plainName "com/example/latchwork/latchwork/history/EdgeList" = true := by first | (simp [plainName, overriddenIn]; done) | decide +kernel
theorem ef_6 (m : MethodId) (a1 : Addr) : entryFrame m #[(.ref a1)] 1 = mkF m 0 #[.val (.ref a1)] [] := by first | (simp [entryFrame, mkF, argsToLocals, Value.category]; done) | rfl
def Q6 (Z : State) (a1 : Addr) (w1 : Int32) (t : Addr) (h0 : Heap) (n0 : Nat) (v : Option Value) (h : Heap) (L : List Loc) : Prop := ∃ r : Int32, v = some (.int r) ∧ Fr n0 L ∧ Keep h0 h [a1] ∧ Fld Z h a1 "com/example/latchwork/latchwork/history/EdgeList" "vertices" "I" (.int (w1 + (1 : Int32))) ∧ Fld Z h a1 "com/example/latchwork/latchwork/history/EdgeList" "tails" "Lcom/example/latchwork/latchwork/history/IntList;" (.ref t) ∧ (r = w1)
set_option maxRecDepth 65536 in
set_option maxHeartbeats 40000000 in
theorem rm6 (l : Launch) (Z : State) (a0 : Array Value) (hw : ∀ d ∈ tables_1, d.before a0 Z = true) (ws : List Jvm.Cond) (a1 : Addr) (w1 : Int32) (t : Addr) (h0 : Heap) (n0 : Nat) (Z0 : n0 ≤ h0.size) (E_a1 : Exa Z h0 a1 "com/example/latchwork/latchwork/history/EdgeList") (F_vertices_a1 : Fld Z h0 a1 "com/example/latchwork/latchwork/history/EdgeList" "vertices" "I" (.int w1)) (F_tails_a1 : Fld Z h0 a1 "com/example/latchwork/latchwork/history/EdgeList" "tails" "Lcom/example/latchwork/latchwork/history/IntList;" (.ref t)) (g_a1 : n0 ≤ a1) :
    MetFree l (⟨"com/example/latchwork/latchwork/history/EdgeList", "addVertex", "()I"⟩ : MethodName) (head1 (Jvm.Cond.code (⟨"com/example/latchwork/latchwork/history/EdgeList", "addVertex", "()I"⟩ : MethodName) prog_22_method_2_code 1 (some .int) :: ws) ({ frames := 0, cells := 0, slots := 0, locals := 0 } : Room)) (fun a U => a = #[(.ref a1)] ∧ Z.Warmed39 U.vm ∧ U.heap = h0) (fun _ _ _ _ _ => True) (fun _ U o U' => ∃ v L, o = .returned v ∧ Q6 Z a1 w1 t h0 n0 v U'.heap L ∧ FrameEnd U o U' L ({ frames := 0, cells := 0, slots := 0, locals := 0 } : Room).cells ({ frames := 0, cells := 0, slots := 0, locals := 0 } : Room).slots) := by
  refine MetFree.of_bodySF (plainFor_of_name pn_6) hisR ?_
  intro p e s m args below meth c s₁ Bd hml0 hP hK
  obtain ⟨rfl, hZ, hh⟩ := hP
  have hx := Bd.exec
  have hby := Bd.bytes
  have hml : c.maxLocals = 1 := hml0
  have hown : s.vm.findClass "com/example/latchwork/latchwork/history/EdgeList" = some m.cls := findClass_of_methodNamed Bd.named
  have hnm := (name_of_methodNamed Bd.named Bd.method).1
  have X0 : Stand p l e ({ frames := 0, cells := 0, slots := 0, locals := 0 } : Room) s m #[(.ref a1)] below meth c s₁ [] 0 0 := Stand.of_body Bd
  have e0 : s₁.heap = h0 := by rw [← hh, Bd.state]; rfl
  have N0 := Fr.nil n0
  have pre0 : ∀ tq, Steps p.tables e below (s₁.setTop (mkF m 0 #[.val (.ref a1)] [])) tq → Steps p.tables e below (s₁.setTop (entryFrame m #[(.ref a1)] 1)) tq := fun tq kq => castTop (ef_6 m a1) kq
  have pre1 : ∀ tq, Steps p.tables e below (s₁.setTop (mkF m 2 #[.val (.ref a1)] [(.ref a1), (.ref a1)])) tq → Steps p.tables e below (s₁.setTop (entryFrame m #[(.ref a1)] 1)) tq := by
    refine fun tq kq => pre0 tq ?_
    show Steps p.tables e below (s₁.setTop (mkF m 0 #[.val (.ref a1)] [])) _
    refine XS.aloadN X0.here hx rfl (hb hby d6_0) rfl rfl ?_
    show Steps p.tables e below (s₁.setTop (mkF m 1 #[.val (.ref a1)] [(.ref a1)])) _
    refine XS.dup X0.here hx rfl (hb hby d6_1) rfl rfl ?_
    exact kq
  obtain ⟨T2, X2, e2, st2⟩ := getF X0 hx hZ hown (host := "") (Or.inl (hw _ (List.mem_of_getElem? (i := 24) rfl))) Via.refl e0 F_vertices_a1 (g := (mkF m 2 #[.val (.ref a1)] [(.ref a1), (.ref a1)])) rfl rfl (hb hby d6_2)
  have pre3 : ∀ tq, Steps p.tables e below (T2.setTop (mkF m 5 #[.val (.ref a1)] [(.int w1), (.ref a1)])) tq → Steps p.tables e below (s₁.setTop (entryFrame m #[(.ref a1)] 1)) tq := fun tq kq => pre1 tq (st2 _ kq)
  have pre4 : ∀ tq, Steps p.tables e below (T2.setTop (mkF m 8 #[.val (.ref a1)] [(.int (w1 + (1 : Int32))), (.ref a1), (.int w1)])) tq → Steps p.tables e below (s₁.setTop (entryFrame m #[(.ref a1)] 1)) tq := by
    refine fun tq kq => pre3 tq ?_
    show Steps p.tables e below (T2.setTop (mkF m 5 #[.val (.ref a1)] [(.int w1), (.ref a1)])) _
    refine XS.dupX1 X2.here hx rfl (hb hby d6_5) rfl rfl rfl ?_
    show Steps p.tables e below (T2.setTop (mkF m 6 #[.val (.ref a1)] [(.int w1), (.ref a1), (.int w1)])) _
    refine XS.iconst X2.here hx rfl (hb hby d6_6) ?_
    show Steps p.tables e below (T2.setTop (mkF m 7 #[.val (.ref a1)] [(.int (1 : Int32)), (.int w1), (.ref a1), (.int w1)])) _
    refine XS.iadd X2.here hx rfl (hb hby d6_7) rfl ?_
    exact kq
  obtain ⟨T5, h5, X5, e5, W5, st5⟩ := putF X2 hx hZ hown (host := "") (Or.inl (hw _ (List.mem_of_getElem? (i := 24) rfl))) Via.refl e2 F_vertices_a1 E_a1 (Or.inl (hw _ (List.mem_of_getElem? (i := 25) rfl))) (hw _ (List.mem_of_getElem? (i := 2) rfl)) (ty := .int) (by decide) rfl rfl (g := (mkF m 8 #[.val (.ref a1)] [(.int (w1 + (1 : Int32))), (.ref a1), (.int w1)])) rfl rfl (hb hby d6_8)
  have pre6 : ∀ tq, Steps p.tables e below (T5.setTop (mkF m 11 #[.val (.ref a1)] [(.int w1)])) tq → Steps p.tables e below (s₁.setTop (entryFrame m #[(.ref a1)] 1)) tq := fun tq kq => pre4 tq (st5 _ kq)
  have N5 := Fr.snoc X5 N0 g_a1
  have K5 : Keep h0 h5 [a1] := Keep.wr (Keep.refl h0 [a1]) W5 (Or.inl (List.mem_of_getElem? (i := 0) rfl))
  have f7 := E_a1.wr W5
  have f8 := F_tails_a1.other W5 (Or.inr (slot_ne (Or.inr (hw _ (List.mem_of_getElem? (i := 21) rfl))) (Or.inl (hw _ (List.mem_of_getElem? (i := 25) rfl))) (by decide) (t := (.object "com/example/latchwork/latchwork/history/IntList")) (t' := .int) (by decide) (by decide)))
  have f9 := F_vertices_a1.same W5
  obtain ⟨fs, hr, hrun, hended, hW, hsame⟩ := X5.leave (v := some (.int w1)) (fun h => by rw [Bd.returns] at h; cases h)
  refine ⟨_, _, pre6 _ ?_, hrun, hended, _, _, rfl, ?_, ⟨_, rfl⟩, hW, hsame.mono (by decide) (by decide)⟩
  · skip
    show Steps p.tables e below (T5.setTop (mkF m 11 #[.val (.ref a1)] [(.int w1)])) _
    exact retI X5 hx Bd.returns (hb hby d6_11) hr
  · show Q6 Z a1 w1 t h0 n0 _ T5.heap _
    rw [e5]
    refine ⟨w1, rfl, N5, K5, f9, f8, ?_⟩
    rfl
/-! body 7 -/
theorem d7_0 : decode prog_22_method_4_code 0 = .ok (.aload_n 0, 1) := by decide +kernel
theorem d7_1 : decode prog_22_method_4_code 1 = .ok (.getfield 19, 3) := by decide +kernel
theorem d7_4 : decode prog_22_method_4_code 4 = .ok (.ireturn, 1) := by decide +kernel
theorem pn_7 : plainName "com/example/latchwork/latchwork/history/EdgeList" = true := by first | (simp [plainName, overriddenIn]; done) | decide +kernel
theorem ef_7 (m : MethodId) (a1 : Addr) : entryFrame m #[(.ref a1)] 1 = mkF m 0 #[.val (.ref a1)] [] := by first | (simp [entryFrame, mkF, argsToLocals, Value.category]; done) | rfl
def Q7 (Z : State) (a1 : Addr) (w1 : Int32) (h0 : Heap) (n0 : Nat) (v : Option Value) (h : Heap) (L : List Loc) : Prop := ∃ r : Int32, v = some (.int r) ∧ Fr n0 L ∧ h = h0 ∧ (r = w1)
set_option maxRecDepth 65536 in
set_option maxHeartbeats 40000000 in
theorem rm7 (l : Launch) (Z : State) (a0 : Array Value) (hw : ∀ d ∈ tables_1, d.before a0 Z = true) (ws : List Jvm.Cond) (a1 : Addr) (w1 : Int32) (h0 : Heap) (n0 : Nat) (Z0 : n0 ≤ h0.size) (F_vertices_a1 : Fld Z h0 a1 "com/example/latchwork/latchwork/history/EdgeList" "vertices" "I" (.int w1)) :
    MetFree l (⟨"com/example/latchwork/latchwork/history/EdgeList", "vertices", "()I"⟩ : MethodName) (head1 (Jvm.Cond.code (⟨"com/example/latchwork/latchwork/history/EdgeList", "vertices", "()I"⟩ : MethodName) prog_22_method_4_code 1 (some .int) :: ws) ({ frames := 0, cells := 0, slots := 0, locals := 0 } : Room)) (fun a U => a = #[(.ref a1)] ∧ Z.Warmed39 U.vm ∧ U.heap = h0) (fun _ _ _ _ _ => True) (fun _ U o U' => ∃ v L, o = .returned v ∧ Q7 Z a1 w1 h0 n0 v U'.heap L ∧ FrameEnd U o U' L ({ frames := 0, cells := 0, slots := 0, locals := 0 } : Room).cells ({ frames := 0, cells := 0, slots := 0, locals := 0 } : Room).slots) := by
  refine MetFree.of_bodySF (plainFor_of_name pn_7) hisR ?_
  intro p e s m args below meth c s₁ Bd hml0 hP hK
  obtain ⟨rfl, hZ, hh⟩ := hP
  have hx := Bd.exec
  have hby := Bd.bytes
  have hml : c.maxLocals = 1 := hml0
  have hown : s.vm.findClass "com/example/latchwork/latchwork/history/EdgeList" = some m.cls := findClass_of_methodNamed Bd.named
  have hnm := (name_of_methodNamed Bd.named Bd.method).1
  have X0 : Stand p l e ({ frames := 0, cells := 0, slots := 0, locals := 0 } : Room) s m #[(.ref a1)] below meth c s₁ [] 0 0 := Stand.of_body Bd
  have e0 : s₁.heap = h0 := by rw [← hh, Bd.state]; rfl
  have N0 := Fr.nil n0
  have pre0 : ∀ tq, Steps p.tables e below (s₁.setTop (mkF m 0 #[.val (.ref a1)] [])) tq → Steps p.tables e below (s₁.setTop (entryFrame m #[(.ref a1)] 1)) tq := fun tq kq => castTop (ef_7 m a1) kq
  have pre1 : ∀ tq, Steps p.tables e below (s₁.setTop (mkF m 1 #[.val (.ref a1)] [(.ref a1)])) tq → Steps p.tables e below (s₁.setTop (entryFrame m #[(.ref a1)] 1)) tq := by
    refine fun tq kq => pre0 tq ?_
    show Steps p.tables e below (s₁.setTop (mkF m 0 #[.val (.ref a1)] [])) _
    refine XS.aloadN X0.here hx rfl (hb hby d7_0) rfl rfl ?_
    exact kq
  obtain ⟨T2, X2, e2, st2⟩ := getF X0 hx hZ hown (host := "") (Or.inl (hw _ (List.mem_of_getElem? (i := 24) rfl))) Via.refl e0 F_vertices_a1 (g := (mkF m 1 #[.val (.ref a1)] [(.ref a1)])) rfl rfl (hb hby d7_1)
  have pre3 : ∀ tq, Steps p.tables e below (T2.setTop (mkF m 4 #[.val (.ref a1)] [(.int w1)])) tq → Steps p.tables e below (s₁.setTop (entryFrame m #[(.ref a1)] 1)) tq := fun tq kq => pre1 tq (st2 _ kq)
  obtain ⟨fs, hr, hrun, hended, hW, hsame⟩ := X2.leave (v := some (.int w1)) (fun h => by rw [Bd.returns] at h; cases h)
  refine ⟨_, _, pre3 _ ?_, hrun, hended, _, _, rfl, ?_, ⟨_, rfl⟩, hW, hsame.mono (by decide) (by decide)⟩
  · skip
    show Steps p.tables e below (T2.setTop (mkF m 4 #[.val (.ref a1)] [(.int w1)])) _
    exact retI X2 hx Bd.returns (hb hby d7_4) hr
  · show Q7 Z a1 w1 h0 n0 _ T2.heap _
    rw [e2]
    exact ⟨w1, rfl, N0, rfl, rfl⟩
/-! body 9 -/
theorem d9_0 : decode prog_27_method_5_code 0 = .ok (.aload_n 0, 1) := by decide +kernel
theorem d9_1 : decode prog_27_method_5_code 1 = .ok (.getfield 13, 3) := by decide +kernel
theorem d9_4 : decode prog_27_method_5_code 4 = .ok (.ireturn, 1) := by decide +kernel
theorem pn_9 : plainName "com/example/latchwork/latchwork/history/IntList" = true := by first | (simp [plainName, overriddenIn]; done) | decide +kernel
theorem ef_9 (m : MethodId) (a1 : Addr) : entryFrame m #[(.ref a1)] 1 = mkF m 0 #[.val (.ref a1)] [] := by first | (simp [entryFrame, mkF, argsToLocals, Value.category]; done) | rfl
def Q9 (Z : State) (a1 : Addr) (w1 : Int32) (h0 : Heap) (n0 : Nat) (v : Option Value) (h : Heap) (L : List Loc) : Prop := ∃ r : Int32, v = some (.int r) ∧ Fr n0 L ∧ h = h0 ∧ (r = w1)
set_option maxRecDepth 65536 in
set_option maxHeartbeats 40000000 in
theorem rm9 (l : Launch) (Z : State) (a0 : Array Value) (hw : ∀ d ∈ tables_1, d.before a0 Z = true) (ws : List Jvm.Cond) (a1 : Addr) (w1 : Int32) (h0 : Heap) (n0 : Nat) (Z0 : n0 ≤ h0.size) (F_size_a1 : Fld Z h0 a1 "com/example/latchwork/latchwork/history/IntList" "size" "I" (.int w1)) :
    MetFree l (⟨"com/example/latchwork/latchwork/history/IntList", "size", "()I"⟩ : MethodName) (head1 (Jvm.Cond.code (⟨"com/example/latchwork/latchwork/history/IntList", "size", "()I"⟩ : MethodName) prog_27_method_5_code 1 (some .int) :: ws) ({ frames := 0, cells := 0, slots := 0, locals := 0 } : Room)) (fun a U => a = #[(.ref a1)] ∧ Z.Warmed39 U.vm ∧ U.heap = h0) (fun _ _ _ _ _ => True) (fun _ U o U' => ∃ v L, o = .returned v ∧ Q9 Z a1 w1 h0 n0 v U'.heap L ∧ FrameEnd U o U' L ({ frames := 0, cells := 0, slots := 0, locals := 0 } : Room).cells ({ frames := 0, cells := 0, slots := 0, locals := 0 } : Room).slots) := by
  refine MetFree.of_bodySF (plainFor_of_name pn_9) hisR ?_
  intro p e s m args below meth c s₁ Bd hml0 hP hK
  obtain ⟨rfl, hZ, hh⟩ := hP
  have hx := Bd.exec
  have hby := Bd.bytes
  have hml : c.maxLocals = 1 := hml0
  have hown : s.vm.findClass "com/example/latchwork/latchwork/history/IntList" = some m.cls := findClass_of_methodNamed Bd.named
  have hnm := (name_of_methodNamed Bd.named Bd.method).1
  have X0 : Stand p l e ({ frames := 0, cells := 0, slots := 0, locals := 0 } : Room) s m #[(.ref a1)] below meth c s₁ [] 0 0 := Stand.of_body Bd
  have e0 : s₁.heap = h0 := by rw [← hh, Bd.state]; rfl
  have N0 := Fr.nil n0
  have pre0 : ∀ tq, Steps p.tables e below (s₁.setTop (mkF m 0 #[.val (.ref a1)] [])) tq → Steps p.tables e below (s₁.setTop (entryFrame m #[(.ref a1)] 1)) tq := fun tq kq => castTop (ef_9 m a1) kq
  have pre1 : ∀ tq, Steps p.tables e below (s₁.setTop (mkF m 1 #[.val (.ref a1)] [(.ref a1)])) tq → Steps p.tables e below (s₁.setTop (entryFrame m #[(.ref a1)] 1)) tq := by
    refine fun tq kq => pre0 tq ?_
    show Steps p.tables e below (s₁.setTop (mkF m 0 #[.val (.ref a1)] [])) _
    refine XS.aloadN X0.here hx rfl (hb hby d9_0) rfl rfl ?_
    exact kq
  obtain ⟨T2, X2, e2, st2⟩ := getF X0 hx hZ hown (host := "") (Or.inl (hw _ (List.mem_of_getElem? (i := 36) rfl))) Via.refl e0 F_size_a1 (g := (mkF m 1 #[.val (.ref a1)] [(.ref a1)])) rfl rfl (hb hby d9_1)
  have pre3 : ∀ tq, Steps p.tables e below (T2.setTop (mkF m 4 #[.val (.ref a1)] [(.int w1)])) tq → Steps p.tables e below (s₁.setTop (entryFrame m #[(.ref a1)] 1)) tq := fun tq kq => pre1 tq (st2 _ kq)
  obtain ⟨fs, hr, hrun, hended, hW, hsame⟩ := X2.leave (v := some (.int w1)) (fun h => by rw [Bd.returns] at h; cases h)
  refine ⟨_, _, pre3 _ ?_, hrun, hended, _, _, rfl, ?_, ⟨_, rfl⟩, hW, hsame.mono (by decide) (by decide)⟩
  · skip
    show Steps p.tables e below (T2.setTop (mkF m 4 #[.val (.ref a1)] [(.int w1)])) _
    exact retI X2 hx Bd.returns (hb hby d9_4) hr
  · show Q9 Z a1 w1 h0 n0 _ T2.heap _
    rw [e2]
    exact ⟨w1, rfl, N0, rfl, rfl⟩
/-! body 8 -/
theorem d8_0 : decode prog_22_method_5_code 0 = .ok (.aload_n 0, 1) := by decide +kernel
theorem d8_1 : decode prog_22_method_5_code 1 = .ok (.getfield 10, 3) := by decide +kernel
theorem d8_4 : decode prog_22_method_5_code 4 = .ok (.invokevirtual 27, 3) := by decide +kernel
theorem d8_7 : decode prog_22_method_5_code 7 = .ok (.ireturn, 1) := by decide +kernel
theorem pn_8 : plainName "com/example/latchwork/latchwork/history/EdgeList" = true := by first | (simp [plainName, overriddenIn]; done) | decide +kernel
theorem pd8_0 : parseMethodDescriptor "()I" = some ⟨[], some .int⟩ := by decide +kernel
theorem ef_8 (m : MethodId) (a1 : Addr) : entryFrame m #[(.ref a1)] 1 = mkF m 0 #[.val (.ref a1)] [] := by first | (simp [entryFrame, mkF, argsToLocals, Value.category]; done) | rfl
def Q8 (Z : State) (a1 : Addr) (t : Addr) (w1 : Int32) (h0 : Heap) (n0 : Nat) (v : Option Value) (h : Heap) (L : List Loc) : Prop := ∃ r : Int32, v = some (.int r) ∧ Fr n0 L ∧ h = h0 ∧ (r = w1)
set_option maxRecDepth 65536 in
set_option maxHeartbeats 40000000 in
theorem rm8 (l : Launch) (Z : State) (a0 : Array Value) (hw : ∀ d ∈ tables_1, d.before a0 Z = true) (ws : List Jvm.Cond) (a1 : Addr) (t : Addr) (w1 : Int32) (h0 : Heap) (n0 : Nat) (Z0 : n0 ≤ h0.size) (F_tails_a1 : Fld Z h0 a1 "com/example/latchwork/latchwork/history/EdgeList" "tails" "Lcom/example/latchwork/latchwork/history/IntList;" (.ref t)) (E_t : Exa Z h0 t "com/example/latchwork/latchwork/history/IntList") (F_size_t : Fld Z h0 t "com/example/latchwork/latchwork/history/IntList" "size" "I" (.int w1)) :
    MetFree l (⟨"com/example/latchwork/latchwork/history/EdgeList", "size", "()I"⟩ : MethodName) (head1 (Jvm.Cond.code (⟨"com/example/latchwork/latchwork/history/EdgeList", "size", "()I"⟩ : MethodName) prog_22_method_5_code 1 (some .int) :: ws) ({ frames := 1, cells := 0, slots := 0, locals := 12 } : Room)) (fun a U => a = #[(.ref a1)] ∧ Z.Warmed39 U.vm ∧ U.heap = h0) (fun _ _ _ _ _ => True) (fun _ U o U' => ∃ v L, o = .returned v ∧ Q8 Z a1 t w1 h0 n0 v U'.heap L ∧ FrameEnd U o U' L ({ frames := 1, cells := 0, slots := 0, locals := 12 } : Room).cells ({ frames := 1, cells := 0, slots := 0, locals := 12 } : Room).slots) := by
  refine MetFree.of_bodySF (plainFor_of_name pn_8) hisR ?_
  intro p e s m args below meth c s₁ Bd hml0 hP hK
  obtain ⟨rfl, hZ, hh⟩ := hP
  have hx := Bd.exec
  have hby := Bd.bytes
  have hml : c.maxLocals = 1 := hml0
  have hown : s.vm.findClass "com/example/latchwork/latchwork/history/EdgeList" = some m.cls := findClass_of_methodNamed Bd.named
  have hnm := (name_of_methodNamed Bd.named Bd.method).1
  have X0 : Stand p l e ({ frames := 1, cells := 0, slots := 0, locals := 12 } : Room) s m #[(.ref a1)] below meth c s₁ [] 0 0 := Stand.of_body Bd
  have e0 : s₁.heap = h0 := by rw [← hh, Bd.state]; rfl
  have N0 := Fr.nil n0
  have pre0 : ∀ tq, Steps p.tables e below (s₁.setTop (mkF m 0 #[.val (.ref a1)] [])) tq → Steps p.tables e below (s₁.setTop (entryFrame m #[(.ref a1)] 1)) tq := fun tq kq => castTop (ef_8 m a1) kq
  have pre1 : ∀ tq, Steps p.tables e below (s₁.setTop (mkF m 1 #[.val (.ref a1)] [(.ref a1)])) tq → Steps p.tables e below (s₁.setTop (entryFrame m #[(.ref a1)] 1)) tq := by
    refine fun tq kq => pre0 tq ?_
    show Steps p.tables e below (s₁.setTop (mkF m 0 #[.val (.ref a1)] [])) _
    refine XS.aloadN X0.here hx rfl (hb hby d8_0) rfl rfl ?_
    exact kq
  obtain ⟨T2, X2, e2, st2⟩ := getF X0 hx hZ hown (host := "") (Or.inl (hw _ (List.mem_of_getElem? (i := 20) rfl))) Via.refl e0 F_tails_a1 (g := (mkF m 1 #[.val (.ref a1)] [(.ref a1)])) rfl rfl (hb hby d8_1)
  have pre3 : ∀ tq, Steps p.tables e below (T2.setTop (mkF m 4 #[.val (.ref a1)] [(.ref t)])) tq → Steps p.tables e below (s₁.setTop (entryFrame m #[(.ref a1)] 1)) tq := fun tq kq => pre1 tq (st2 _ kq)
  have Z4 : n0 ≤ h0.size := Z0
  obtain ⟨cq4, kq4, q4a, q4b, q4c⟩ := isOf hZ e2 E_t
  obtain ⟨_, _, ⟨T4, L4, k4, n4⟩, -, X4, ⟨Lc4, hQ4, l4, y4, z4⟩, st4⟩ := X2.virtualBack hx (y := (⟨"com/example/latchwork/latchwork/history/IntList", "size", "()I"⟩ : MethodName)) (z := (⟨"com/example/latchwork/latchwork/history/IntList", "size", "()I"⟩ : MethodName)) hown (mvT hZ (hw _ (List.mem_of_getElem? (i := 53) rfl))) (mvT hZ (hw _ (List.mem_of_getElem? (i := 54) rfl))) (notFace_of_selects (args := #[]) (mvT hZ (hw _ (List.mem_of_getElem? (i := 56) rfl)))) (mvT hZ (hw _ (List.mem_of_getElem? (i := 56) rfl))) (mvT hZ (hw _ (List.mem_of_getElem? (i := 55) rfl))) (by decide) (backOf (W := 0) (rm9 l Z a0 hw [] t w1 h0 n0 Z4 F_size_t) hZ (hw _ (List.mem_of_getElem? (i := 57) rfl)) (hw _ (List.mem_of_getElem? (i := 12) rfl)) (by decide) (by decide)) q4a q4c (g := (mkF m 4 #[.val (.ref a1)] [(.ref t)])) rfl (by rw [hml]; rfl) (Steps.refl _) (argsL := []) (rest := []) (lenOf pd8_0 rfl) rfl (by show 2 * 0 + _ ≤ _; exact Nat.le_of_eq rfl) (hb hby d8_4) (fun _ _ => ⟨rfl, e2, (by decide : 0 + 0 ≤ _), (by decide : 0 + 0 ≤ _)⟩)
  dsimp only [Pt.U, Pt.locs, Pt.cells, Pt.slots] at X4 l4 y4 z4 st4 hQ4
  subst l4 y4 z4
  obtain ⟨r5, rfl, Nq4, ehq4, hq4⟩ := hQ4
  have N4 := Fr.app N0 Nq4
  have pre6 : ∀ tq, Steps p.tables e below (T4.setTop (mkF m 7 #[.val (.ref a1)] [(.int r5)])) tq → Steps p.tables e below (s₁.setTop (entryFrame m #[(.ref a1)] 1)) tq := fun tq kq => pre3 tq (st4.trans kq)
  obtain ⟨fs, hr, hrun, hended, hW, hsame⟩ := X4.leave (v := some (.int r5)) (fun h => by rw [Bd.returns] at h; cases h)
  refine ⟨_, _, pre6 _ ?_, hrun, hended, _, _, rfl, ?_, ⟨_, rfl⟩, hW, hsame.mono (by decide) (by decide)⟩
  · skip
    show Steps p.tables e below (T4.setTop (mkF m 7 #[.val (.ref a1)] [(.int r5)])) _
    exact retI X4 hx Bd.returns (hb hby d8_7) hr
  · show Q8 Z a1 t w1 h0 n0 _ T4.heap _
    rw [ehq4]
    refine ⟨r5, rfl, N4, rfl, ?_⟩
    exact hq4
/-! body 0 -/
theorem pn_0 : plainName "com/example/latchwork/latchwork/history/EdgeListAddVertexPinLaw" = true := by first | (simp [plainName, overriddenIn]; done) | decide +kernel
theorem pd0_0 : parseMethodDescriptor "(I)V" = some ⟨[.int], none⟩ := by decide +kernel
theorem pd0_1 : parseMethodDescriptor "()I" = some ⟨[], some .int⟩ := by decide +kernel
theorem pd0_2 : parseMethodDescriptor "(II)V" = some ⟨[.int, .int], none⟩ := by decide +kernel
theorem ef_0 (m : MethodId) (p1 : Int32) (p2 : Int32) (p3 : Int32) (p4 : Int32) : entryFrame m #[(.int p1), (.int p2), (.int p3), (.int p4)] maxLocals = mkF m 0 #[.val (.int p1), .val (.int p2), .val (.int p3), .val (.int p4), .unset, .unset, .unset, .unset, .unset, .unset, .unset, .unset] [] := by first | (simp [entryFrame, mkF, argsToLocals, Value.category, maxLocals]; done) | rfl
def Q0 (Z : State) (p1 : Int32) (p2 : Int32) (p3 : Int32) (p4 : Int32) (h0 : Heap) (n0 : Nat) (v : Option Value) (h : Heap) (L : List Loc) : Prop := v = some (.int 1) ∧ Fr n0 L
set_option maxRecDepth 65536 in
set_option maxHeartbeats 40000000 in
theorem rm0 (l : Launch) (Z : State) (a0 : Array Value) (hw : ∀ d ∈ tables_1, d.before a0 Z = true) (ws : List Jvm.Cond) (p1 : Int32) (p2 : Int32) (p3 : Int32) (p4 : Int32) (h0 : Heap) (n0 : Nat) (Z0 : n0 ≤ h0.size)  :
    MetFree l x (head1 (Jvm.Cond.code x code maxLocals ret :: ws) room_1) (fun a U => a = #[(.int p1), (.int p2), (.int p3), (.int p4)] ∧ Z.Warmed39 U.vm ∧ U.heap = h0) (fun _ _ _ _ _ => True) (fun _ U o U' => ∃ v L, o = .returned v ∧ Q0 Z p1 p2 p3 p4 h0 n0 v U'.heap L ∧ FrameEnd U o U' L room_1.cells room_1.slots) := by
  refine MetFree.of_bodySF (plainFor_of_name pn_0) hisR ?_
  intro p e s m args below meth c s₁ Bd hml0 hP hK
  obtain ⟨rfl, hZ, hh⟩ := hP
  have hx := Bd.exec
  have hby := Bd.bytes
  have hml : c.maxLocals = 12 := hml0
  have hown : s.vm.findClass "com/example/latchwork/latchwork/history/EdgeListAddVertexPinLaw" = some m.cls := findClass_of_methodNamed Bd.named
  have hnm := (name_of_methodNamed Bd.named Bd.method).1
  have X0 : Stand p l e room_1 s m #[(.int p1), (.int p2), (.int p3), (.int p4)] below meth c s₁ [] 0 0 := Stand.of_body Bd
  have e0 : s₁.heap = h0 := by rw [← hh, Bd.state]; rfl
  have N0 := Fr.nil n0
  have pre0 : ∀ tq, Steps p.tables e below (s₁.setTop (mkF m 0 #[.val (.int p1), .val (.int p2), .val (.int p3), .val (.int p4), .unset, .unset, .unset, .unset, .unset, .unset, .unset, .unset] [])) tq → Steps p.tables e below (s₁.setTop (entryFrame m #[(.int p1), (.int p2), (.int p3), (.int p4)] maxLocals)) tq := fun tq kq => castTop (ef_0 m p1 p2 p3 p4) kq
  obtain ⟨v2, hv_v2, pre1⟩ : ∃ v2 : Int32, v2 = (p1 &&& (2147483647 : Int32)) ∧ (∀ tq, Steps p.tables e below (s₁.setTop (mkF m 6 #[.val (.int p1), .val (.int p2), .val (.int p3), .val (.int p4), .val (.int v2), .unset, .unset, .unset, .unset, .unset, .unset, .unset] [])) tq → Steps p.tables e below (s₁.setTop (entryFrame m #[(.int p1), (.int p2), (.int p3), (.int p4)] maxLocals)) tq) := by
    refine ⟨_, rfl, fun tq kq => pre0 tq ?_⟩
    show Steps p.tables e below (s₁.setTop (mkF m 0 #[.val (.int p1), .val (.int p2), .val (.int p3), .val (.int p4), .unset, .unset, .unset, .unset, .unset, .unset, .unset, .unset] [])) _
    refine XS.iloadN X0.here hx rfl (hb hby at_0) rfl ?_
    show Steps p.tables e below (s₁.setTop (mkF m 1 #[.val (.int p1), .val (.int p2), .val (.int p3), .val (.int p4), .unset, .unset, .unset, .unset, .unset, .unset, .unset, .unset] [(.int p1)])) _
    refine X0.ldcInt hx hown (mvT hZ (hw _ (List.mem_of_getElem? (i := 0) rfl))) (g := (mkF m 1 #[.val (.int p1), .val (.int p2), .val (.int p3), .val (.int p4), .unset, .unset, .unset, .unset, .unset, .unset, .unset, .unset] [(.int p1)])) rfl (hb hby at_1) _ ?_
    show Steps p.tables e below (s₁.setTop (mkF m 3 #[.val (.int p1), .val (.int p2), .val (.int p3), .val (.int p4), .unset, .unset, .unset, .unset, .unset, .unset, .unset, .unset] [(.int (2147483647 : Int32)), (.int p1)])) _
    refine XS.iand X0.here hx rfl (hb hby at_3) rfl ?_
    show Steps p.tables e below (s₁.setTop (mkF m 4 #[.val (.int p1), .val (.int p2), .val (.int p3), .val (.int p4), .unset, .unset, .unset, .unset, .unset, .unset, .unset, .unset] [(.int (p1 &&& (2147483647 : Int32)))])) _
    refine XS.istore X0.here hx rfl (hb hby at_4) rfl (l' := #[.val (.int p1), .val (.int p2), .val (.int p3), .val (.int p4), .val (.int (p1 &&& (2147483647 : Int32))), .unset, .unset, .unset, .unset, .unset, .unset, .unset]) rfl ?_
    exact kq
  obtain ⟨v3, hj4, pre4⟩ : ∃ v3 : Int32, (((p2 &&& (1 : Int32)) = (0 : Int32) ∧ v3 = (0 : Int32)) ∨ (¬ ((p2 &&& (1 : Int32)) = (0 : Int32)) ∧ v3 = (1 : Int32))) ∧ (∀ tq, Steps p.tables e below (s₁.setTop (mkF m 17 #[.val (.int p1), .val (.int p2), .val (.int p3), .val (.int p4), .val (.int v2), .unset, .unset, .unset, .unset, .unset, .unset, .unset] [(.int v3)])) tq → Steps p.tables e below (s₁.setTop (entryFrame m #[(.int p1), (.int p2), (.int p3), (.int p4)] maxLocals)) tq) := by
    by_cases hb0_9 : (p2 &&& (1 : Int32)) = (0 : Int32)
    · skip
      refine ⟨(0 : Int32), Or.inl (⟨hb0_9, rfl⟩), fun tq kq => pre1 tq ?_⟩
      show Steps p.tables e below (s₁.setTop (mkF m 6 #[.val (.int p1), .val (.int p2), .val (.int p3), .val (.int p4), .val (.int v2), .unset, .unset, .unset, .unset, .unset, .unset, .unset] [])) _
      refine XS.iloadN X0.here hx rfl (hb hby at_6) rfl ?_
      show Steps p.tables e below (s₁.setTop (mkF m 7 #[.val (.int p1), .val (.int p2), .val (.int p3), .val (.int p4), .val (.int v2), .unset, .unset, .unset, .unset, .unset, .unset, .unset] [(.int p2)])) _
      refine XS.iconst X0.here hx rfl (hb hby at_7) ?_
      show Steps p.tables e below (s₁.setTop (mkF m 8 #[.val (.int p1), .val (.int p2), .val (.int p3), .val (.int p4), .val (.int v2), .unset, .unset, .unset, .unset, .unset, .unset, .unset] [(.int (1 : Int32)), (.int p2)])) _
      refine XS.iand X0.here hx rfl (hb hby at_8) rfl ?_
      show Steps p.tables e below (s₁.setTop (mkF m 9 #[.val (.int p1), .val (.int p2), .val (.int p3), .val (.int p4), .val (.int v2), .unset, .unset, .unset, .unset, .unset, .unset, .unset] [(.int (p2 &&& (1 : Int32)))])) _
      refine XS.ifYes X0.here hx rfl (pc0 := 9) (pc' := 16) rfl (hb hby at_9) rfl ((if0 _ _).trans (teq hb0_9).1) (by decide) (by decide) ?_
      show Steps p.tables e below (s₁.setTop (mkF m 16 #[.val (.int p1), .val (.int p2), .val (.int p3), .val (.int p4), .val (.int v2), .unset, .unset, .unset, .unset, .unset, .unset, .unset] [])) _
      refine XS.iconst X0.here hx rfl (hb hby at_16) ?_
      exact kq
    · skip
      refine ⟨(1 : Int32), Or.inr (⟨hb0_9, rfl⟩), fun tq kq => pre1 tq ?_⟩
      show Steps p.tables e below (s₁.setTop (mkF m 6 #[.val (.int p1), .val (.int p2), .val (.int p3), .val (.int p4), .val (.int v2), .unset, .unset, .unset, .unset, .unset, .unset, .unset] [])) _
      refine XS.iloadN X0.here hx rfl (hb hby at_6) rfl ?_
      show Steps p.tables e below (s₁.setTop (mkF m 7 #[.val (.int p1), .val (.int p2), .val (.int p3), .val (.int p4), .val (.int v2), .unset, .unset, .unset, .unset, .unset, .unset, .unset] [(.int p2)])) _
      refine XS.iconst X0.here hx rfl (hb hby at_7) ?_
      show Steps p.tables e below (s₁.setTop (mkF m 8 #[.val (.int p1), .val (.int p2), .val (.int p3), .val (.int p4), .val (.int v2), .unset, .unset, .unset, .unset, .unset, .unset, .unset] [(.int (1 : Int32)), (.int p2)])) _
      refine XS.iand X0.here hx rfl (hb hby at_8) rfl ?_
      show Steps p.tables e below (s₁.setTop (mkF m 9 #[.val (.int p1), .val (.int p2), .val (.int p3), .val (.int p4), .val (.int v2), .unset, .unset, .unset, .unset, .unset, .unset, .unset] [(.int (p2 &&& (1 : Int32)))])) _
      refine XS.ifNo X0.here hx rfl (hb hby at_9) rfl ((if0 _ _).trans (feq hb0_9).1) ?_
      show Steps p.tables e below (s₁.setTop (mkF m 12 #[.val (.int p1), .val (.int p2), .val (.int p3), .val (.int p4), .val (.int v2), .unset, .unset, .unset, .unset, .unset, .unset, .unset] [])) _
      refine XS.iconst X0.here hx rfl (hb hby at_12) ?_
      show Steps p.tables e below (s₁.setTop (mkF m 13 #[.val (.int p1), .val (.int p2), .val (.int p3), .val (.int p4), .val (.int v2), .unset, .unset, .unset, .unset, .unset, .unset, .unset] [(.int (1 : Int32))])) _
      refine XS.goto X0.here hx rfl (pc0 := 13) (pc' := 17) rfl (hb hby at_13) (by decide) (by decide) ?_
      exact kq
  have pre5 : ∀ tq, Steps p.tables e below (s₁.setTop (mkF m 19 #[.val (.int p1), .val (.int p2), .val (.int p3), .val (.int p4), .val (.int v2), .val (.int v3), .unset, .unset, .unset, .unset, .unset, .unset] [])) tq → Steps p.tables e below (s₁.setTop (entryFrame m #[(.int p1), (.int p2), (.int p3), (.int p4)] maxLocals)) tq := by
    refine fun tq kq => pre4 tq ?_
    show Steps p.tables e below (s₁.setTop (mkF m 17 #[.val (.int p1), .val (.int p2), .val (.int p3), .val (.int p4), .val (.int v2), .unset, .unset, .unset, .unset, .unset, .unset, .unset] [(.int v3)])) _
    refine XS.istore X0.here hx rfl (hb hby at_17) rfl (l' := #[.val (.int p1), .val (.int p2), .val (.int p3), .val (.int p4), .val (.int v2), .val (.int v3), .unset, .unset, .unset, .unset, .unset, .unset]) rfl ?_
    exact kq
  obtain ⟨T6, h6, X6, e6, E6, A6, D6, -, st6⟩ := newO X0 hx hZ hown (hw _ (List.mem_of_getElem? (i := 1) rfl)) (hw _ (List.mem_of_getElem? (i := 2) rfl)) (hw _ (List.mem_of_getElem? (i := 3) rfl)) e0 (g := (mkF m 19 #[.val (.int p1), .val (.int p2), .val (.int p3), .val (.int p4), .val (.int v2), .val (.int v3), .unset, .unset, .unset, .unset, .unset, .unset] [])) rfl (hb hby at_19) (by decide) (by decide)
  obtain ⟨b6, g6⟩ : ∃ z, z = h0.size := ⟨_, rfl⟩
  rw [← g6] at A6 D6 st6
  have g_b6 : n0 ≤ b6 := Nat.le_trans Z0 (Nat.le_of_eq g6.symm)
  have sz_b6 : h0.size ≤ b6 := Nat.le_trans (Nat.le_refl h0.size) (Nat.le_of_eq g6.symm)
  have pre7 : ∀ tq, Steps p.tables e below (T6.setTop (mkF m 22 #[.val (.int p1), .val (.int p2), .val (.int p3), .val (.int p4), .val (.int v2), .val (.int v3), .unset, .unset, .unset, .unset, .unset, .unset] [(.ref b6)])) tq → Steps p.tables e below (s₁.setTop (entryFrame m #[(.int p1), (.int p2), (.int p3), (.int p4)] maxLocals)) tq := fun tq kq => pre5 tq (st6 _ kq)
  have K6 : Keep h0 h6 [] := Keep.ext (Keep.refl h0 []) E6
  have f8 : Fld Z h6 b6 "com/example/latchwork/latchwork/history/EdgeList" "tails" "Lcom/example/latchwork/latchwork/history/IntList;" .null := D6 (Or.inr (hw _ (List.mem_of_getElem? (i := 21) rfl))) (ty := (.object "com/example/latchwork/latchwork/history/IntList")) (by decide)
  have f9 : Fld Z h6 b6 "com/example/latchwork/latchwork/history/EdgeList" "heads" "Lcom/example/latchwork/latchwork/history/IntList;" .null := D6 (Or.inr (hw _ (List.mem_of_getElem? (i := 23) rfl))) (ty := (.object "com/example/latchwork/latchwork/history/IntList")) (by decide)
  have f10 : Fld Z h6 b6 "com/example/latchwork/latchwork/history/EdgeList" "vertices" "I" (.int (0 : Int32)) := D6 (Or.inl (hw _ (List.mem_of_getElem? (i := 25) rfl))) (ty := .int) (by decide)
  have pre11 : ∀ tq, Steps p.tables e below (T6.setTop (mkF m 25 #[.val (.int p1), .val (.int p2), .val (.int p3), .val (.int p4), .val (.int v2), .val (.int v3), .unset, .unset, .unset, .unset, .unset, .unset] [(.int v2), (.ref b6), (.ref b6)])) tq → Steps p.tables e below (s₁.setTop (entryFrame m #[(.int p1), (.int p2), (.int p3), (.int p4)] maxLocals)) tq := by
    refine fun tq kq => pre7 tq ?_
    show Steps p.tables e below (T6.setTop (mkF m 22 #[.val (.int p1), .val (.int p2), .val (.int p3), .val (.int p4), .val (.int v2), .val (.int v3), .unset, .unset, .unset, .unset, .unset, .unset] [(.ref b6)])) _
    refine XS.dup X6.here hx rfl (hb hby at_22) rfl rfl ?_
    show Steps p.tables e below (T6.setTop (mkF m 23 #[.val (.int p1), .val (.int p2), .val (.int p3), .val (.int p4), .val (.int v2), .val (.int v3), .unset, .unset, .unset, .unset, .unset, .unset] [(.ref b6), (.ref b6)])) _
    refine XS.iload X6.here hx rfl (hb hby at_23) rfl ?_
    exact kq
  have Z12 : n0 ≤ h6.size := (Nat.le_trans Z0 E6.1)
  obtain ⟨_, _, ⟨T12, L12, k12, n12⟩, -, X12, ⟨Lc12, hQ12, l12, y12, z12⟩, st12⟩ := X6.specialBack hx (y := (⟨"com/example/latchwork/latchwork/history/EdgeList", "<init>", "(I)V"⟩ : MethodName)) rfl hown (mvT hZ (hw _ (List.mem_of_getElem? (i := 4) rfl))) (mvT hZ (hw _ (List.mem_of_getElem? (i := 5) rfl))) (mvT hZ (hw _ (List.mem_of_getElem? (i := 6) rfl))) (by decide) (backOf (W := 1) (rm1 l Z a0 hw [] b6 v2  h6 n0 Z12 A6 f8 f9 f10 g_b6) hZ (hw _ (List.mem_of_getElem? (i := 6) rfl)) (hw _ (List.mem_of_getElem? (i := 3) rfl)) (by decide) (by decide)) (g := (mkF m 25 #[.val (.int p1), .val (.int p2), .val (.int p3), .val (.int p4), .val (.int v2), .val (.int v3), .unset, .unset, .unset, .unset, .unset, .unset] [(.int v2), (.ref b6), (.ref b6)])) rfl (by rw [hml]; rfl) (Steps.refl _) (a := b6) (argsL := [(.int v2)]) (rest := [(.ref b6)]) (lenOf pd0_0 rfl) rfl (by show 2 * 0 + _ ≤ _; exact Nat.le_of_eq rfl) (hb hby at_25) (fun _ _ => ⟨rfl, e6, (by decide : (0 + 1) + 4 ≤ _), (by decide : (0 + 3) + 12 ≤ _)⟩)
  dsimp only [Pt.U, Pt.locs, Pt.cells, Pt.slots] at X12 l12 y12 z12 st12 hQ12
  subst l12 y12 z12
  obtain ⟨u34, u35, u36, u37, u38, u39, rfl, Nq12, Kq12, f13, f14, f15, f16, f17, f18, f19, f20, f21, f22, f23, f24, f25, f26, f27, f28, f29, f30, f31, f32, f33, hq12⟩ := hQ12
  have N12 := Fr.app N0 Nq12
  have pre40 : ∀ tq, Steps p.tables e below (T12.setTop (mkF m 28 #[.val (.int p1), .val (.int p2), .val (.int p3), .val (.int p4), .val (.int v2), .val (.int v3), .unset, .unset, .unset, .unset, .unset, .unset] [(.ref b6)])) tq → Steps p.tables e below (s₁.setTop (entryFrame m #[(.int p1), (.int p2), (.int p3), (.int p4)] maxLocals)) tq := fun tq kq => pre11 tq (st12.trans kq)
  have K12 : Keep h0 T12.heap [] := Keep.trans K6 Kq12 (allS (Or.inr sz_b6) all0)
  have f41 := A6.keep Kq12
  have g_u34 : n0 ≤ u34 := Nat.le_trans Z12 f24
  have sz_u34 : h0.size ≤ u34 := Nat.le_trans (Nat.le_trans (Nat.le_refl h0.size) E6.1) f24
  have ne42 : b6 ≠ u34 := Nat.ne_of_lt (Nat.lt_of_lt_of_le A6.lt f24)
  have g_u35 : n0 ≤ u35 := Nat.le_trans Z12 f25
  have sz_u35 : h0.size ≤ u35 := Nat.le_trans (Nat.le_trans (Nat.le_refl h0.size) E6.1) f25
  have ne43 : b6 ≠ u35 := Nat.ne_of_lt (Nat.lt_of_lt_of_le A6.lt f25)
  have g_u36 : n0 ≤ u36 := Nat.le_trans Z12 f26
  have sz_u36 : h0.size ≤ u36 := Nat.le_trans (Nat.le_trans (Nat.le_refl h0.size) E6.1) f26
  have ne44 : b6 ≠ u36 := Nat.ne_of_lt (Nat.lt_of_lt_of_le A6.lt f26)
  have g_u38 : n0 ≤ u38 := Nat.le_trans Z12 f27
  have sz_u38 : h0.size ≤ u38 := Nat.le_trans (Nat.le_trans (Nat.le_refl h0.size) E6.1) f27
  have ne45 : b6 ≠ u38 := Nat.ne_of_lt (Nat.lt_of_lt_of_le A6.lt f27)
  have pre46 : ∀ tq, Steps p.tables e below (T12.setTop (mkF m 32 #[.val (.int p1), .val (.int p2), .val (.int p3), .val (.int p4), .val (.int v2), .val (.int v3), .val (.ref b6), .unset, .unset, .unset, .unset, .unset] [(.int v3)])) tq → Steps p.tables e below (s₁.setTop (entryFrame m #[(.int p1), (.int p2), (.int p3), (.int p4)] maxLocals)) tq := by
    refine fun tq kq => pre40 tq ?_
    show Steps p.tables e below (T12.setTop (mkF m 28 #[.val (.int p1), .val (.int p2), .val (.int p3), .val (.int p4), .val (.int v2), .val (.int v3), .unset, .unset, .unset, .unset, .unset, .unset] [(.ref b6)])) _
    refine XS.astore X12.here hx rfl (hb hby at_28) rfl rfl (l' := #[.val (.int p1), .val (.int p2), .val (.int p3), .val (.int p4), .val (.int v2), .val (.int v3), .val (.ref b6), .unset, .unset, .unset, .unset, .unset]) rfl ?_
    show Steps p.tables e below (T12.setTop (mkF m 30 #[.val (.int p1), .val (.int p2), .val (.int p3), .val (.int p4), .val (.int v2), .val (.int v3), .val (.ref b6), .unset, .unset, .unset, .unset, .unset] [])) _
    refine XS.iload X12.here hx rfl (hb hby at_30) rfl ?_
    exact kq
  by_cases hc32 : v3 = (0 : Int32)
  · skip
    have pre47 : ∀ tq, Steps p.tables e below (T12.setTop (mkF m 42 #[.val (.int p1), .val (.int p2), .val (.int p3), .val (.int p4), .val (.int v2), .val (.int v3), .val (.ref b6), .unset, .unset, .unset, .unset, .unset] [])) tq → Steps p.tables e below (s₁.setTop (entryFrame m #[(.int p1), (.int p2), (.int p3), (.int p4)] maxLocals)) tq := by
      refine fun tq kq => pre46 tq ?_
      show Steps p.tables e below (T12.setTop (mkF m 32 #[.val (.int p1), .val (.int p2), .val (.int p3), .val (.int p4), .val (.int v2), .val (.int v3), .val (.ref b6), .unset, .unset, .unset, .unset, .unset] [(.int v3)])) _
      refine XS.ifYes X12.here hx rfl (pc0 := 32) (pc' := 42) rfl (hb hby at_32) rfl ((if0 _ _).trans (teq hc32).1) (by decide) (by decide) ?_
      exact kq
    obtain ⟨v48, hj49, pre49⟩ : ∃ v48 : Int32, ((v3 = (0 : Int32) ∧ v48 = (0 : Int32)) ∨ (¬ (v3 = (0 : Int32)) ∧ v48 = (1 : Int32))) ∧ (∀ tq, Steps p.tables e below (T12.setTop (mkF m 52 #[.val (.int p1), .val (.int p2), .val (.int p3), .val (.int p4), .val (.int v2), .val (.int v3), .val (.ref b6), .unset, .unset, .unset, .unset, .unset] [(.int v48)])) tq → Steps p.tables e below (s₁.setTop (entryFrame m #[(.int p1), (.int p2), (.int p3), (.int p4)] maxLocals)) tq) := by
      by_cases hb0_44 : v3 = (0 : Int32)
      · skip
        refine ⟨(0 : Int32), Or.inl (⟨hb0_44, rfl⟩), fun tq kq => pre47 tq ?_⟩
        show Steps p.tables e below (T12.setTop (mkF m 42 #[.val (.int p1), .val (.int p2), .val (.int p3), .val (.int p4), .val (.int v2), .val (.int v3), .val (.ref b6), .unset, .unset, .unset, .unset, .unset] [])) _
        refine XS.iload X12.here hx rfl (hb hby at_42) rfl ?_
        show Steps p.tables e below (T12.setTop (mkF m 44 #[.val (.int p1), .val (.int p2), .val (.int p3), .val (.int p4), .val (.int v2), .val (.int v3), .val (.ref b6), .unset, .unset, .unset, .unset, .unset] [(.int v3)])) _
        refine XS.ifYes X12.here hx rfl (pc0 := 44) (pc' := 51) rfl (hb hby at_44) rfl ((if0 _ _).trans (teq hb0_44).1) (by decide) (by decide) ?_
        show Steps p.tables e below (T12.setTop (mkF m 51 #[.val (.int p1), .val (.int p2), .val (.int p3), .val (.int p4), .val (.int v2), .val (.int v3), .val (.ref b6), .unset, .unset, .unset, .unset, .unset] [])) _
        refine XS.iconst X12.here hx rfl (hb hby at_51) ?_
        exact kq
      · skip
        refine ⟨(1 : Int32), Or.inr (⟨hb0_44, rfl⟩), fun tq kq => pre47 tq ?_⟩
        show Steps p.tables e below (T12.setTop (mkF m 42 #[.val (.int p1), .val (.int p2), .val (.int p3), .val (.int p4), .val (.int v2), .val (.int v3), .val (.ref b6), .unset, .unset, .unset, .unset, .unset] [])) _
        refine XS.iload X12.here hx rfl (hb hby at_42) rfl ?_
        show Steps p.tables e below (T12.setTop (mkF m 44 #[.val (.int p1), .val (.int p2), .val (.int p3), .val (.int p4), .val (.int v2), .val (.int v3), .val (.ref b6), .unset, .unset, .unset, .unset, .unset] [(.int v3)])) _
        refine XS.ifNo X12.here hx rfl (hb hby at_44) rfl ((if0 _ _).trans (feq hb0_44).1) ?_
        show Steps p.tables e below (T12.setTop (mkF m 47 #[.val (.int p1), .val (.int p2), .val (.int p3), .val (.int p4), .val (.int v2), .val (.int v3), .val (.ref b6), .unset, .unset, .unset, .unset, .unset] [])) _
        refine XS.iconst X12.here hx rfl (hb hby at_47) ?_
        show Steps p.tables e below (T12.setTop (mkF m 48 #[.val (.int p1), .val (.int p2), .val (.int p3), .val (.int p4), .val (.int v2), .val (.int v3), .val (.ref b6), .unset, .unset, .unset, .unset, .unset] [(.int (1 : Int32))])) _
        refine XS.goto X12.here hx rfl (pc0 := 48) (pc' := 52) rfl (hb hby at_48) (by decide) (by decide) ?_
        exact kq
    have pre50 : ∀ tq, Steps p.tables e below (T12.setTop (mkF m 56 #[.val (.int p1), .val (.int p2), .val (.int p3), .val (.int p4), .val (.int v2), .val (.int v3), .val (.ref b6), .val (.int v48), .unset, .unset, .unset, .unset] [(.ref b6)])) tq → Steps p.tables e below (s₁.setTop (entryFrame m #[(.int p1), (.int p2), (.int p3), (.int p4)] maxLocals)) tq := by
      refine fun tq kq => pre49 tq ?_
      show Steps p.tables e below (T12.setTop (mkF m 52 #[.val (.int p1), .val (.int p2), .val (.int p3), .val (.int p4), .val (.int v2), .val (.int v3), .val (.ref b6), .unset, .unset, .unset, .unset, .unset] [(.int v48)])) _
      refine XS.istore X12.here hx rfl (hb hby at_52) rfl (l' := #[.val (.int p1), .val (.int p2), .val (.int p3), .val (.int p4), .val (.int v2), .val (.int v3), .val (.ref b6), .val (.int v48), .unset, .unset, .unset, .unset]) rfl ?_
      show Steps p.tables e below (T12.setTop (mkF m 54 #[.val (.int p1), .val (.int p2), .val (.int p3), .val (.int p4), .val (.int v2), .val (.int v3), .val (.ref b6), .val (.int v48), .unset, .unset, .unset, .unset] [])) _
      refine XS.aload X12.here hx rfl (hb hby at_54) rfl rfl ?_
      exact kq
    have Z51 : n0 ≤ T12.heap.size := (Nat.le_trans Z12 Kq12.1)
    obtain ⟨cq51, kq51, q51a, q51b, q51c⟩ := isOf hZ rfl f41
    obtain ⟨_, _, ⟨T51, L51, k51, n51⟩, -, X51, ⟨Lc51, hQ51, l51, y51, z51⟩, st51⟩ := X12.virtualBack hx (y := (⟨"com/example/latchwork/latchwork/history/EdgeList", "addVertex", "()I"⟩ : MethodName)) (z := (⟨"com/example/latchwork/latchwork/history/EdgeList", "addVertex", "()I"⟩ : MethodName)) hown (mvT hZ (hw _ (List.mem_of_getElem? (i := 38) rfl))) (mvT hZ (hw _ (List.mem_of_getElem? (i := 39) rfl))) (notFace_of_selects (args := #[]) (mvT hZ (hw _ (List.mem_of_getElem? (i := 41) rfl)))) (mvT hZ (hw _ (List.mem_of_getElem? (i := 41) rfl))) (mvT hZ (hw _ (List.mem_of_getElem? (i := 40) rfl))) (by decide) (backOf (W := 0) (rm6 l Z a0 hw [] b6 v2 u34 T12.heap n0 Z51 f41 f15 f13 g_b6) hZ (hw _ (List.mem_of_getElem? (i := 42) rfl)) (hw _ (List.mem_of_getElem? (i := 3) rfl)) (by decide) (by decide)) q51a q51c (g := (mkF m 56 #[.val (.int p1), .val (.int p2), .val (.int p3), .val (.int p4), .val (.int v2), .val (.int v3), .val (.ref b6), .val (.int v48), .unset, .unset, .unset, .unset] [(.ref b6)])) rfl (by rw [hml]; rfl) (Steps.refl _) (argsL := []) (rest := []) (lenOf pd0_1 rfl) rfl (by show 2 * 0 + _ ≤ _; exact Nat.le_of_eq rfl) (hb hby at_56) (fun _ _ => ⟨rfl, rfl, (by decide : ((0 + 1) + 4) + 0 ≤ _), (by decide : ((0 + 3) + 12) + 0 ≤ _)⟩)
    dsimp only [Pt.U, Pt.locs, Pt.cells, Pt.slots] at X51 l51 y51 z51 st51 hQ51
    subst l51 y51 z51
    obtain ⟨r52, rfl, Nq51, Kq51, f53, f54, hq51⟩ := hQ51
    have N51 := Fr.app N12 Nq51
    have pre55 : ∀ tq, Steps p.tables e below (T51.setTop (mkF m 59 #[.val (.int p1), .val (.int p2), .val (.int p3), .val (.int p4), .val (.int v2), .val (.int v3), .val (.ref b6), .val (.int v48), .unset, .unset, .unset, .unset] [(.int r52)])) tq → Steps p.tables e below (s₁.setTop (entryFrame m #[(.int p1), (.int p2), (.int p3), (.int p4)] maxLocals)) tq := fun tq kq => pre50 tq (st51.trans kq)
    have K51 : Keep h0 T51.heap [] := Keep.trans K12 Kq51 (allS (Or.inr sz_b6) all0)
    have f56 := f41.keep Kq51
    have f57 := f16.keep Kq51
    have f58 := f17.keep Kq51 (by simp only [List.mem_cons, List.not_mem_nil, or_false, not_or]; exact (Ne.symm ne42))
    have f59 := f18.keep Kq51 (by simp only [List.mem_cons, List.not_mem_nil, or_false, not_or]; exact (Ne.symm ne42))
    have f60 := f19.keep Kq51 (by simp only [List.mem_cons, List.not_mem_nil, or_false, not_or]; exact (Ne.symm ne44))
    have f61 := f20.keep Kq51
    have f62 := f21.keep Kq51 (by simp only [List.mem_cons, List.not_mem_nil, or_false, not_or]; exact (Ne.symm ne43))
    have f63 := f22.keep Kq51 (by simp only [List.mem_cons, List.not_mem_nil, or_false, not_or]; exact (Ne.symm ne43))
    have f64 := f23.keep Kq51 (by simp only [List.mem_cons, List.not_mem_nil, or_false, not_or]; exact (Ne.symm ne45))
    have hc65 : r52 = v2 := by exact hq51
    have pre65 : ∀ tq, Steps p.tables e below (T51.setTop (mkF m 68 #[.val (.int p1), .val (.int p2), .val (.int p3), .val (.int p4), .val (.int v2), .val (.int v3), .val (.ref b6), .val (.int v48), .val (.int r52), .unset, .unset, .unset] [])) tq → Steps p.tables e below (s₁.setTop (entryFrame m #[(.int p1), (.int p2), (.int p3), (.int p4)] maxLocals)) tq := by
      refine fun tq kq => pre55 tq ?_
      show Steps p.tables e below (T51.setTop (mkF m 59 #[.val (.int p1), .val (.int p2), .val (.int p3), .val (.int p4), .val (.int v2), .val (.int v3), .val (.ref b6), .val (.int v48), .unset, .unset, .unset, .unset] [(.int r52)])) _
      refine XS.istore X51.here hx rfl (hb hby at_59) rfl (l' := #[.val (.int p1), .val (.int p2), .val (.int p3), .val (.int p4), .val (.int v2), .val (.int v3), .val (.ref b6), .val (.int v48), .val (.int r52), .unset, .unset, .unset]) rfl ?_
      show Steps p.tables e below (T51.setTop (mkF m 61 #[.val (.int p1), .val (.int p2), .val (.int p3), .val (.int p4), .val (.int v2), .val (.int v3), .val (.ref b6), .val (.int v48), .val (.int r52), .unset, .unset, .unset] [])) _
      refine XS.iload X51.here hx rfl (hb hby at_61) rfl ?_
      show Steps p.tables e below (T51.setTop (mkF m 63 #[.val (.int p1), .val (.int p2), .val (.int p3), .val (.int p4), .val (.int v2), .val (.int v3), .val (.ref b6), .val (.int v48), .val (.int r52), .unset, .unset, .unset] [(.int r52)])) _
      refine XS.iload X51.here hx rfl (hb hby at_63) rfl ?_
      show Steps p.tables e below (T51.setTop (mkF m 65 #[.val (.int p1), .val (.int p2), .val (.int p3), .val (.int p4), .val (.int v2), .val (.int v3), .val (.ref b6), .val (.int v48), .val (.int r52), .unset, .unset, .unset] [(.int v2), (.int r52)])) _
      refine XS.icmpNo X51.here hx rfl (hb hby at_65) rfl (teq hc65).2 ?_
      exact kq
    have pre66 : ∀ tq, Steps p.tables e below (T51.setTop (mkF m 70 #[.val (.int p1), .val (.int p2), .val (.int p3), .val (.int p4), .val (.int v2), .val (.int v3), .val (.ref b6), .val (.int v48), .val (.int r52), .unset, .unset, .unset] [(.ref b6)])) tq → Steps p.tables e below (s₁.setTop (entryFrame m #[(.int p1), (.int p2), (.int p3), (.int p4)] maxLocals)) tq := by
      refine fun tq kq => pre65 tq ?_
      show Steps p.tables e below (T51.setTop (mkF m 68 #[.val (.int p1), .val (.int p2), .val (.int p3), .val (.int p4), .val (.int v2), .val (.int v3), .val (.ref b6), .val (.int v48), .val (.int r52), .unset, .unset, .unset] [])) _
      refine XS.aload X51.here hx rfl (hb hby at_68) rfl rfl ?_
      exact kq
    have Z67 : n0 ≤ T51.heap.size := (Nat.le_trans Z51 Kq51.1)
    obtain ⟨cq67, kq67, q67a, q67b, q67c⟩ := isOf hZ rfl f56
    obtain ⟨_, _, ⟨T67, L67, k67, n67⟩, -, X67, ⟨Lc67, hQ67, l67, y67, z67⟩, st67⟩ := X51.virtualBack hx (y := (⟨"com/example/latchwork/latchwork/history/EdgeList", "vertices", "()I"⟩ : MethodName)) (z := (⟨"com/example/latchwork/latchwork/history/EdgeList", "vertices", "()I"⟩ : MethodName)) hown (mvT hZ (hw _ (List.mem_of_getElem? (i := 43) rfl))) (mvT hZ (hw _ (List.mem_of_getElem? (i := 44) rfl))) (notFace_of_selects (args := #[]) (mvT hZ (hw _ (List.mem_of_getElem? (i := 46) rfl)))) (mvT hZ (hw _ (List.mem_of_getElem? (i := 46) rfl))) (mvT hZ (hw _ (List.mem_of_getElem? (i := 45) rfl))) (by decide) (backOf (W := 0) (rm7 l Z a0 hw [] b6 (v2 + (1 : Int32)) T51.heap n0 Z67 f53) hZ (hw _ (List.mem_of_getElem? (i := 47) rfl)) (hw _ (List.mem_of_getElem? (i := 3) rfl)) (by decide) (by decide)) q67a q67c (g := (mkF m 70 #[.val (.int p1), .val (.int p2), .val (.int p3), .val (.int p4), .val (.int v2), .val (.int v3), .val (.ref b6), .val (.int v48), .val (.int r52), .unset, .unset, .unset] [(.ref b6)])) rfl (by rw [hml]; rfl) (Steps.refl _) (argsL := []) (rest := []) (lenOf pd0_1 rfl) rfl (by show 2 * 0 + _ ≤ _; exact Nat.le_of_eq rfl) (hb hby at_70) (fun _ _ => ⟨rfl, rfl, (by decide : (((0 + 1) + 4) + 0) + 0 ≤ _), (by decide : (((0 + 3) + 12) + 0) + 0 ≤ _)⟩)
    dsimp only [Pt.U, Pt.locs, Pt.cells, Pt.slots] at X67 l67 y67 z67 st67 hQ67
    subst l67 y67 z67
    obtain ⟨r68, rfl, Nq67, ehq67, hq67⟩ := hQ67
    have N67 := Fr.app N51 Nq67
    have pre69 : ∀ tq, Steps p.tables e below (T67.setTop (mkF m 73 #[.val (.int p1), .val (.int p2), .val (.int p3), .val (.int p4), .val (.int v2), .val (.int v3), .val (.ref b6), .val (.int v48), .val (.int r52), .unset, .unset, .unset] [(.int r68)])) tq → Steps p.tables e below (s₁.setTop (entryFrame m #[(.int p1), (.int p2), (.int p3), (.int p4)] maxLocals)) tq := fun tq kq => pre66 tq (st67.trans kq)
    have hc77 : r68 = (v2 + (1 : Int32)) := by exact hq67
    have pre70 : ∀ tq, Steps p.tables e below (T67.setTop (mkF m 80 #[.val (.int p1), .val (.int p2), .val (.int p3), .val (.int p4), .val (.int v2), .val (.int v3), .val (.ref b6), .val (.int v48), .val (.int r52), .unset, .unset, .unset] [])) tq → Steps p.tables e below (s₁.setTop (entryFrame m #[(.int p1), (.int p2), (.int p3), (.int p4)] maxLocals)) tq := by
      refine fun tq kq => pre69 tq ?_
      show Steps p.tables e below (T67.setTop (mkF m 73 #[.val (.int p1), .val (.int p2), .val (.int p3), .val (.int p4), .val (.int v2), .val (.int v3), .val (.ref b6), .val (.int v48), .val (.int r52), .unset, .unset, .unset] [(.int r68)])) _
      refine XS.iload X67.here hx rfl (hb hby at_73) rfl ?_
      show Steps p.tables e below (T67.setTop (mkF m 75 #[.val (.int p1), .val (.int p2), .val (.int p3), .val (.int p4), .val (.int v2), .val (.int v3), .val (.ref b6), .val (.int v48), .val (.int r52), .unset, .unset, .unset] [(.int v2), (.int r68)])) _
      refine XS.iconst X67.here hx rfl (hb hby at_75) ?_
      show Steps p.tables e below (T67.setTop (mkF m 76 #[.val (.int p1), .val (.int p2), .val (.int p3), .val (.int p4), .val (.int v2), .val (.int v3), .val (.ref b6), .val (.int v48), .val (.int r52), .unset, .unset, .unset] [(.int (1 : Int32)), (.int v2), (.int r68)])) _
      refine XS.iadd X67.here hx rfl (hb hby at_76) rfl ?_
      show Steps p.tables e below (T67.setTop (mkF m 77 #[.val (.int p1), .val (.int p2), .val (.int p3), .val (.int p4), .val (.int v2), .val (.int v3), .val (.ref b6), .val (.int v48), .val (.int r52), .unset, .unset, .unset] [(.int (v2 + (1 : Int32))), (.int r68)])) _
      refine XS.icmpNo X67.here hx rfl (hb hby at_77) rfl (teq hc77).2 ?_
      exact kq
    have pre71 : ∀ tq, Steps p.tables e below (T67.setTop (mkF m 82 #[.val (.int p1), .val (.int p2), .val (.int p3), .val (.int p4), .val (.int v2), .val (.int v3), .val (.ref b6), .val (.int v48), .val (.int r52), .unset, .unset, .unset] [(.ref b6)])) tq → Steps p.tables e below (s₁.setTop (entryFrame m #[(.int p1), (.int p2), (.int p3), (.int p4)] maxLocals)) tq := by
      refine fun tq kq => pre70 tq ?_
      show Steps p.tables e below (T67.setTop (mkF m 80 #[.val (.int p1), .val (.int p2), .val (.int p3), .val (.int p4), .val (.int v2), .val (.int v3), .val (.ref b6), .val (.int v48), .val (.int r52), .unset, .unset, .unset] [])) _
      refine XS.aload X67.here hx rfl (hb hby at_80) rfl rfl ?_
      exact kq
    have Z72 : n0 ≤ T51.heap.size := (Nat.le_trans Z51 Kq51.1)
    obtain ⟨cq72, kq72, q72a, q72b, q72c⟩ := isOf hZ ehq67 f56
    obtain ⟨_, _, ⟨T72, L72, k72, n72⟩, -, X72, ⟨Lc72, hQ72, l72, y72, z72⟩, st72⟩ := X67.virtualBack hx (y := (⟨"com/example/latchwork/latchwork/history/EdgeList", "size", "()I"⟩ : MethodName)) (z := (⟨"com/example/latchwork/latchwork/history/EdgeList", "size", "()I"⟩ : MethodName)) hown (mvT hZ (hw _ (List.mem_of_getElem? (i := 48) rfl))) (mvT hZ (hw _ (List.mem_of_getElem? (i := 49) rfl))) (notFace_of_selects (args := #[]) (mvT hZ (hw _ (List.mem_of_getElem? (i := 51) rfl)))) (mvT hZ (hw _ (List.mem_of_getElem? (i := 51) rfl))) (mvT hZ (hw _ (List.mem_of_getElem? (i := 50) rfl))) (by decide) (backOf (W := 0) (rm8 l Z a0 hw [] b6 u34 (0 : Int32) T51.heap n0 Z72 f54 f57 f59) hZ (hw _ (List.mem_of_getElem? (i := 52) rfl)) (hw _ (List.mem_of_getElem? (i := 3) rfl)) (by decide) (by decide)) q72a q72c (g := (mkF m 82 #[.val (.int p1), .val (.int p2), .val (.int p3), .val (.int p4), .val (.int v2), .val (.int v3), .val (.ref b6), .val (.int v48), .val (.int r52), .unset, .unset, .unset] [(.ref b6)])) rfl (by rw [hml]; rfl) (Steps.refl _) (argsL := []) (rest := []) (lenOf pd0_1 rfl) rfl (by show 2 * 0 + _ ≤ _; exact Nat.le_of_eq rfl) (hb hby at_82) (fun _ _ => ⟨rfl, ehq67, (by decide : ((((0 + 1) + 4) + 0) + 0) + 0 ≤ _), (by decide : ((((0 + 3) + 12) + 0) + 0) + 0 ≤ _)⟩)
    dsimp only [Pt.U, Pt.locs, Pt.cells, Pt.slots] at X72 l72 y72 z72 st72 hQ72
    subst l72 y72 z72
    obtain ⟨r73, rfl, Nq72, ehq72, hq72⟩ := hQ72
    have N72 := Fr.app N67 Nq72
    have pre74 : ∀ tq, Steps p.tables e below (T72.setTop (mkF m 85 #[.val (.int p1), .val (.int p2), .val (.int p3), .val (.int p4), .val (.int v2), .val (.int v3), .val (.ref b6), .val (.int v48), .val (.int r52), .unset, .unset, .unset] [(.int r73)])) tq → Steps p.tables e below (s₁.setTop (entryFrame m #[(.int p1), (.int p2), (.int p3), (.int p4)] maxLocals)) tq := fun tq kq => pre71 tq (st72.trans kq)
    have hc87 : r73 = v48 := by rw [hq72]; rcases hj49 with q | q <;> first | exact q.2.symm | exact absurd q.1 hc32 | exact absurd hc32 q.1
    have pre75 : ∀ tq, Steps p.tables e below (T72.setTop (mkF m 90 #[.val (.int p1), .val (.int p2), .val (.int p3), .val (.int p4), .val (.int v2), .val (.int v3), .val (.ref b6), .val (.int v48), .val (.int r52), .unset, .unset, .unset] [])) tq → Steps p.tables e below (s₁.setTop (entryFrame m #[(.int p1), (.int p2), (.int p3), (.int p4)] maxLocals)) tq := by
      refine fun tq kq => pre74 tq ?_
      show Steps p.tables e below (T72.setTop (mkF m 85 #[.val (.int p1), .val (.int p2), .val (.int p3), .val (.int p4), .val (.int v2), .val (.int v3), .val (.ref b6), .val (.int v48), .val (.int r52), .unset, .unset, .unset] [(.int r73)])) _
      refine XS.iload X72.here hx rfl (hb hby at_85) rfl ?_
      show Steps p.tables e below (T72.setTop (mkF m 87 #[.val (.int p1), .val (.int p2), .val (.int p3), .val (.int p4), .val (.int v2), .val (.int v3), .val (.ref b6), .val (.int v48), .val (.int r52), .unset, .unset, .unset] [(.int v48), (.int r73)])) _
      refine XS.icmpNo X72.here hx rfl (hb hby at_87) rfl (teq hc87).2 ?_
      exact kq
    have pre76 : ∀ tq, Steps p.tables e below (T72.setTop (mkF m 99 #[.val (.int p1), .val (.int p2), .val (.int p3), .val (.int p4), .val (.int v2), .val (.int v3), .val (.ref b6), .val (.int v48), .val (.int r52), .val (.int (1 : Int32)), .unset, .unset] [(.ref b6)])) tq → Steps p.tables e below (s₁.setTop (entryFrame m #[(.int p1), (.int p2), (.int p3), (.int p4)] maxLocals)) tq := by
      refine fun tq kq => pre75 tq ?_
      show Steps p.tables e below (T72.setTop (mkF m 90 #[.val (.int p1), .val (.int p2), .val (.int p3), .val (.int p4), .val (.int v2), .val (.int v3), .val (.ref b6), .val (.int v48), .val (.int r52), .unset, .unset, .unset] [])) _
      refine XS.iconst X72.here hx rfl (hb hby at_90) ?_
      show Steps p.tables e below (T72.setTop (mkF m 91 #[.val (.int p1), .val (.int p2), .val (.int p3), .val (.int p4), .val (.int v2), .val (.int v3), .val (.ref b6), .val (.int v48), .val (.int r52), .unset, .unset, .unset] [(.int (1 : Int32))])) _
      refine XS.goto X72.here hx rfl (pc0 := 91) (pc' := 95) rfl (hb hby at_91) (by decide) (by decide) ?_
      show Steps p.tables e below (T72.setTop (mkF m 95 #[.val (.int p1), .val (.int p2), .val (.int p3), .val (.int p4), .val (.int v2), .val (.int v3), .val (.ref b6), .val (.int v48), .val (.int r52), .unset, .unset, .unset] [(.int (1 : Int32))])) _
      refine XS.istore X72.here hx rfl (hb hby at_95) rfl (l' := #[.val (.int p1), .val (.int p2), .val (.int p3), .val (.int p4), .val (.int v2), .val (.int v3), .val (.ref b6), .val (.int v48), .val (.int r52), .val (.int (1 : Int32)), .unset, .unset]) rfl ?_
      show Steps p.tables e below (T72.setTop (mkF m 97 #[.val (.int p1), .val (.int p2), .val (.int p3), .val (.int p4), .val (.int v2), .val (.int v3), .val (.ref b6), .val (.int v48), .val (.int r52), .val (.int (1 : Int32)), .unset, .unset] [])) _
      refine XS.aload X72.here hx rfl (hb hby at_97) rfl rfl ?_
      exact kq
    have Z77 : n0 ≤ T51.heap.size := (Nat.le_trans Z51 Kq51.1)
    obtain ⟨cq77, kq77, q77a, q77b, q77c⟩ := isOf hZ ehq72 f56
    obtain ⟨_, _, ⟨T77, L77, k77, n77⟩, -, X77, ⟨Lc77, hQ77, l77, y77, z77⟩, st77⟩ := X72.virtualBack hx (y := (⟨"com/example/latchwork/latchwork/history/EdgeList", "addVertex", "()I"⟩ : MethodName)) (z := (⟨"com/example/latchwork/latchwork/history/EdgeList", "addVertex", "()I"⟩ : MethodName)) hown (mvT hZ (hw _ (List.mem_of_getElem? (i := 38) rfl))) (mvT hZ (hw _ (List.mem_of_getElem? (i := 39) rfl))) (notFace_of_selects (args := #[]) (mvT hZ (hw _ (List.mem_of_getElem? (i := 41) rfl)))) (mvT hZ (hw _ (List.mem_of_getElem? (i := 41) rfl))) (mvT hZ (hw _ (List.mem_of_getElem? (i := 40) rfl))) (by decide) (backOf (W := 0) (rm6 l Z a0 hw [] b6 (v2 + (1 : Int32)) u34 T51.heap n0 Z77 f56 f53 f54 g_b6) hZ (hw _ (List.mem_of_getElem? (i := 42) rfl)) (hw _ (List.mem_of_getElem? (i := 3) rfl)) (by decide) (by decide)) q77a q77c (g := (mkF m 99 #[.val (.int p1), .val (.int p2), .val (.int p3), .val (.int p4), .val (.int v2), .val (.int v3), .val (.ref b6), .val (.int v48), .val (.int r52), .val (.int (1 : Int32)), .unset, .unset] [(.ref b6)])) rfl (by rw [hml]; rfl) (Steps.refl _) (argsL := []) (rest := []) (lenOf pd0_1 rfl) rfl (by show 2 * 0 + _ ≤ _; exact Nat.le_of_eq rfl) (hb hby at_99) (fun _ _ => ⟨rfl, ehq72, (by decide : (((((0 + 1) + 4) + 0) + 0) + 0) + 0 ≤ _), (by decide : (((((0 + 3) + 12) + 0) + 0) + 0) + 0 ≤ _)⟩)
    dsimp only [Pt.U, Pt.locs, Pt.cells, Pt.slots] at X77 l77 y77 z77 st77 hQ77
    subst l77 y77 z77
    obtain ⟨r78, rfl, Nq77, Kq77, f79, f80, hq77⟩ := hQ77
    have N77 := Fr.app N72 Nq77
    have pre81 : ∀ tq, Steps p.tables e below (T77.setTop (mkF m 102 #[.val (.int p1), .val (.int p2), .val (.int p3), .val (.int p4), .val (.int v2), .val (.int v3), .val (.ref b6), .val (.int v48), .val (.int r52), .val (.int (1 : Int32)), .unset, .unset] [(.int r78)])) tq → Steps p.tables e below (s₁.setTop (entryFrame m #[(.int p1), (.int p2), (.int p3), (.int p4)] maxLocals)) tq := fun tq kq => pre76 tq (st77.trans kq)
    have K77 : Keep h0 T77.heap [] := Keep.trans K51 Kq77 (allS (Or.inr sz_b6) all0)
    have f82 := f56.keep Kq77
    have f83 := f57.keep Kq77
    have f84 := f58.keep Kq77 (by simp only [List.mem_cons, List.not_mem_nil, or_false, not_or]; exact (Ne.symm ne42))
    have f85 := f59.keep Kq77 (by simp only [List.mem_cons, List.not_mem_nil, or_false, not_or]; exact (Ne.symm ne42))
    have f86 := f60.keep Kq77 (by simp only [List.mem_cons, List.not_mem_nil, or_false, not_or]; exact (Ne.symm ne44))
    have f87 := f61.keep Kq77
    have f88 := f62.keep Kq77 (by simp only [List.mem_cons, List.not_mem_nil, or_false, not_or]; exact (Ne.symm ne43))
    have f89 := f63.keep Kq77 (by simp only [List.mem_cons, List.not_mem_nil, or_false, not_or]; exact (Ne.symm ne43))
    have f90 := f64.keep Kq77 (by simp only [List.mem_cons, List.not_mem_nil, or_false, not_or]; exact (Ne.symm ne45))
    have hc110 : r78 = (v2 + (1 : Int32)) := by exact hq77
    have pre91 : ∀ tq, Steps p.tables e below (T77.setTop (mkF m 113 #[.val (.int p1), .val (.int p2), .val (.int p3), .val (.int p4), .val (.int v2), .val (.int v3), .val (.ref b6), .val (.int v48), .val (.int r52), .val (.int (1 : Int32)), .val (.int r78), .unset] [])) tq → Steps p.tables e below (s₁.setTop (entryFrame m #[(.int p1), (.int p2), (.int p3), (.int p4)] maxLocals)) tq := by
      refine fun tq kq => pre81 tq ?_
      show Steps p.tables e below (T77.setTop (mkF m 102 #[.val (.int p1), .val (.int p2), .val (.int p3), .val (.int p4), .val (.int v2), .val (.int v3), .val (.ref b6), .val (.int v48), .val (.int r52), .val (.int (1 : Int32)), .unset, .unset] [(.int r78)])) _
      refine XS.istore X77.here hx rfl (hb hby at_102) rfl (l' := #[.val (.int p1), .val (.int p2), .val (.int p3), .val (.int p4), .val (.int v2), .val (.int v3), .val (.ref b6), .val (.int v48), .val (.int r52), .val (.int (1 : Int32)), .val (.int r78), .unset]) rfl ?_
      show Steps p.tables e below (T77.setTop (mkF m 104 #[.val (.int p1), .val (.int p2), .val (.int p3), .val (.int p4), .val (.int v2), .val (.int v3), .val (.ref b6), .val (.int v48), .val (.int r52), .val (.int (1 : Int32)), .val (.int r78), .unset] [])) _
      refine XS.iload X77.here hx rfl (hb hby at_104) rfl ?_
      show Steps p.tables e below (T77.setTop (mkF m 106 #[.val (.int p1), .val (.int p2), .val (.int p3), .val (.int p4), .val (.int v2), .val (.int v3), .val (.ref b6), .val (.int v48), .val (.int r52), .val (.int (1 : Int32)), .val (.int r78), .unset] [(.int r78)])) _
      refine XS.iload X77.here hx rfl (hb hby at_106) rfl ?_
      show Steps p.tables e below (T77.setTop (mkF m 108 #[.val (.int p1), .val (.int p2), .val (.int p3), .val (.int p4), .val (.int v2), .val (.int v3), .val (.ref b6), .val (.int v48), .val (.int r52), .val (.int (1 : Int32)), .val (.int r78), .unset] [(.int v2), (.int r78)])) _
      refine XS.iconst X77.here hx rfl (hb hby at_108) ?_
      show Steps p.tables e below (T77.setTop (mkF m 109 #[.val (.int p1), .val (.int p2), .val (.int p3), .val (.int p4), .val (.int v2), .val (.int v3), .val (.ref b6), .val (.int v48), .val (.int r52), .val (.int (1 : Int32)), .val (.int r78), .unset] [(.int (1 : Int32)), (.int v2), (.int r78)])) _
      refine XS.iadd X77.here hx rfl (hb hby at_109) rfl ?_
      show Steps p.tables e below (T77.setTop (mkF m 110 #[.val (.int p1), .val (.int p2), .val (.int p3), .val (.int p4), .val (.int v2), .val (.int v3), .val (.ref b6), .val (.int v48), .val (.int r52), .val (.int (1 : Int32)), .val (.int r78), .unset] [(.int (v2 + (1 : Int32))), (.int r78)])) _
      refine XS.icmpNo X77.here hx rfl (hb hby at_110) rfl (teq hc110).2 ?_
      exact kq
    have pre92 : ∀ tq, Steps p.tables e below (T77.setTop (mkF m 115 #[.val (.int p1), .val (.int p2), .val (.int p3), .val (.int p4), .val (.int v2), .val (.int v3), .val (.ref b6), .val (.int v48), .val (.int r52), .val (.int (1 : Int32)), .val (.int r78), .unset] [(.ref b6)])) tq → Steps p.tables e below (s₁.setTop (entryFrame m #[(.int p1), (.int p2), (.int p3), (.int p4)] maxLocals)) tq := by
      refine fun tq kq => pre91 tq ?_
      show Steps p.tables e below (T77.setTop (mkF m 113 #[.val (.int p1), .val (.int p2), .val (.int p3), .val (.int p4), .val (.int v2), .val (.int v3), .val (.ref b6), .val (.int v48), .val (.int r52), .val (.int (1 : Int32)), .val (.int r78), .unset] [])) _
      refine XS.aload X77.here hx rfl (hb hby at_113) rfl rfl ?_
      exact kq
    have Z93 : n0 ≤ T77.heap.size := (Nat.le_trans Z77 Kq77.1)
    obtain ⟨cq93, kq93, q93a, q93b, q93c⟩ := isOf hZ rfl f82
    obtain ⟨_, _, ⟨T93, L93, k93, n93⟩, -, X93, ⟨Lc93, hQ93, l93, y93, z93⟩, st93⟩ := X77.virtualBack hx (y := (⟨"com/example/latchwork/latchwork/history/EdgeList", "vertices", "()I"⟩ : MethodName)) (z := (⟨"com/example/latchwork/latchwork/history/EdgeList", "vertices", "()I"⟩ : MethodName)) hown (mvT hZ (hw _ (List.mem_of_getElem? (i := 43) rfl))) (mvT hZ (hw _ (List.mem_of_getElem? (i := 44) rfl))) (notFace_of_selects (args := #[]) (mvT hZ (hw _ (List.mem_of_getElem? (i := 46) rfl)))) (mvT hZ (hw _ (List.mem_of_getElem? (i := 46) rfl))) (mvT hZ (hw _ (List.mem_of_getElem? (i := 45) rfl))) (by decide) (backOf (W := 0) (rm7 l Z a0 hw [] b6 ((v2 + (1 : Int32)) + (1 : Int32)) T77.heap n0 Z93 f79) hZ (hw _ (List.mem_of_getElem? (i := 47) rfl)) (hw _ (List.mem_of_getElem? (i := 3) rfl)) (by decide) (by decide)) q93a q93c (g := (mkF m 115 #[.val (.int p1), .val (.int p2), .val (.int p3), .val (.int p4), .val (.int v2), .val (.int v3), .val (.ref b6), .val (.int v48), .val (.int r52), .val (.int (1 : Int32)), .val (.int r78), .unset] [(.ref b6)])) rfl (by rw [hml]; rfl) (Steps.refl _) (argsL := []) (rest := []) (lenOf pd0_1 rfl) rfl (by show 2 * 0 + _ ≤ _; exact Nat.le_of_eq rfl) (hb hby at_115) (fun _ _ => ⟨rfl, rfl, (by decide : ((((((0 + 1) + 4) + 0) + 0) + 0) + 0) + 0 ≤ _), (by decide : ((((((0 + 3) + 12) + 0) + 0) + 0) + 0) + 0 ≤ _)⟩)
    dsimp only [Pt.U, Pt.locs, Pt.cells, Pt.slots] at X93 l93 y93 z93 st93 hQ93
    subst l93 y93 z93
    obtain ⟨r94, rfl, Nq93, ehq93, hq93⟩ := hQ93
    have N93 := Fr.app N77 Nq93
    have pre95 : ∀ tq, Steps p.tables e below (T93.setTop (mkF m 118 #[.val (.int p1), .val (.int p2), .val (.int p3), .val (.int p4), .val (.int v2), .val (.int v3), .val (.ref b6), .val (.int v48), .val (.int r52), .val (.int (1 : Int32)), .val (.int r78), .unset] [(.int r94)])) tq → Steps p.tables e below (s₁.setTop (entryFrame m #[(.int p1), (.int p2), (.int p3), (.int p4)] maxLocals)) tq := fun tq kq => pre92 tq (st93.trans kq)
    have hc122 : r94 = (v2 + (2 : Int32)) := by exact hq93.trans ((Int32.add_assoc _ _ _).trans (congrArg (v2 + ·) (by decide)))
    have pre96 : ∀ tq, Steps p.tables e below (T93.setTop (mkF m 125 #[.val (.int p1), .val (.int p2), .val (.int p3), .val (.int p4), .val (.int v2), .val (.int v3), .val (.ref b6), .val (.int v48), .val (.int r52), .val (.int (1 : Int32)), .val (.int r78), .unset] [])) tq → Steps p.tables e below (s₁.setTop (entryFrame m #[(.int p1), (.int p2), (.int p3), (.int p4)] maxLocals)) tq := by
      refine fun tq kq => pre95 tq ?_
      show Steps p.tables e below (T93.setTop (mkF m 118 #[.val (.int p1), .val (.int p2), .val (.int p3), .val (.int p4), .val (.int v2), .val (.int v3), .val (.ref b6), .val (.int v48), .val (.int r52), .val (.int (1 : Int32)), .val (.int r78), .unset] [(.int r94)])) _
      refine XS.iload X93.here hx rfl (hb hby at_118) rfl ?_
      show Steps p.tables e below (T93.setTop (mkF m 120 #[.val (.int p1), .val (.int p2), .val (.int p3), .val (.int p4), .val (.int v2), .val (.int v3), .val (.ref b6), .val (.int v48), .val (.int r52), .val (.int (1 : Int32)), .val (.int r78), .unset] [(.int v2), (.int r94)])) _
      refine XS.iconst X93.here hx rfl (hb hby at_120) ?_
      show Steps p.tables e below (T93.setTop (mkF m 121 #[.val (.int p1), .val (.int p2), .val (.int p3), .val (.int p4), .val (.int v2), .val (.int v3), .val (.ref b6), .val (.int v48), .val (.int r52), .val (.int (1 : Int32)), .val (.int r78), .unset] [(.int (2 : Int32)), (.int v2), (.int r94)])) _
      refine XS.iadd X93.here hx rfl (hb hby at_121) rfl ?_
      show Steps p.tables e below (T93.setTop (mkF m 122 #[.val (.int p1), .val (.int p2), .val (.int p3), .val (.int p4), .val (.int v2), .val (.int v3), .val (.ref b6), .val (.int v48), .val (.int r52), .val (.int (1 : Int32)), .val (.int r78), .unset] [(.int (v2 + (2 : Int32))), (.int r94)])) _
      refine XS.icmpNo X93.here hx rfl (hb hby at_122) rfl (teq hc122).2 ?_
      exact kq
    have pre97 : ∀ tq, Steps p.tables e below (T93.setTop (mkF m 127 #[.val (.int p1), .val (.int p2), .val (.int p3), .val (.int p4), .val (.int v2), .val (.int v3), .val (.ref b6), .val (.int v48), .val (.int r52), .val (.int (1 : Int32)), .val (.int r78), .unset] [(.ref b6)])) tq → Steps p.tables e below (s₁.setTop (entryFrame m #[(.int p1), (.int p2), (.int p3), (.int p4)] maxLocals)) tq := by
      refine fun tq kq => pre96 tq ?_
      show Steps p.tables e below (T93.setTop (mkF m 125 #[.val (.int p1), .val (.int p2), .val (.int p3), .val (.int p4), .val (.int v2), .val (.int v3), .val (.ref b6), .val (.int v48), .val (.int r52), .val (.int (1 : Int32)), .val (.int r78), .unset] [])) _
      refine XS.aload X93.here hx rfl (hb hby at_125) rfl rfl ?_
      exact kq
    have Z98 : n0 ≤ T77.heap.size := (Nat.le_trans Z77 Kq77.1)
    obtain ⟨cq98, kq98, q98a, q98b, q98c⟩ := isOf hZ ehq93 f82
    obtain ⟨_, _, ⟨T98, L98, k98, n98⟩, -, X98, ⟨Lc98, hQ98, l98, y98, z98⟩, st98⟩ := X93.virtualBack hx (y := (⟨"com/example/latchwork/latchwork/history/EdgeList", "size", "()I"⟩ : MethodName)) (z := (⟨"com/example/latchwork/latchwork/history/EdgeList", "size", "()I"⟩ : MethodName)) hown (mvT hZ (hw _ (List.mem_of_getElem? (i := 48) rfl))) (mvT hZ (hw _ (List.mem_of_getElem? (i := 49) rfl))) (notFace_of_selects (args := #[]) (mvT hZ (hw _ (List.mem_of_getElem? (i := 51) rfl)))) (mvT hZ (hw _ (List.mem_of_getElem? (i := 51) rfl))) (mvT hZ (hw _ (List.mem_of_getElem? (i := 50) rfl))) (by decide) (backOf (W := 0) (rm8 l Z a0 hw [] b6 u34 (0 : Int32) T77.heap n0 Z98 f80 f83 f85) hZ (hw _ (List.mem_of_getElem? (i := 52) rfl)) (hw _ (List.mem_of_getElem? (i := 3) rfl)) (by decide) (by decide)) q98a q98c (g := (mkF m 127 #[.val (.int p1), .val (.int p2), .val (.int p3), .val (.int p4), .val (.int v2), .val (.int v3), .val (.ref b6), .val (.int v48), .val (.int r52), .val (.int (1 : Int32)), .val (.int r78), .unset] [(.ref b6)])) rfl (by rw [hml]; rfl) (Steps.refl _) (argsL := []) (rest := []) (lenOf pd0_1 rfl) rfl (by show 2 * 0 + _ ≤ _; exact Nat.le_of_eq rfl) (hb hby at_127) (fun _ _ => ⟨rfl, ehq93, (by decide : (((((((0 + 1) + 4) + 0) + 0) + 0) + 0) + 0) + 0 ≤ _), (by decide : (((((((0 + 3) + 12) + 0) + 0) + 0) + 0) + 0) + 0 ≤ _)⟩)
    dsimp only [Pt.U, Pt.locs, Pt.cells, Pt.slots] at X98 l98 y98 z98 st98 hQ98
    subst l98 y98 z98
    obtain ⟨r99, rfl, Nq98, ehq98, hq98⟩ := hQ98
    have N98 := Fr.app N93 Nq98
    have pre100 : ∀ tq, Steps p.tables e below (T98.setTop (mkF m 130 #[.val (.int p1), .val (.int p2), .val (.int p3), .val (.int p4), .val (.int v2), .val (.int v3), .val (.ref b6), .val (.int v48), .val (.int r52), .val (.int (1 : Int32)), .val (.int r78), .unset] [(.int r99)])) tq → Steps p.tables e below (s₁.setTop (entryFrame m #[(.int p1), (.int p2), (.int p3), (.int p4)] maxLocals)) tq := fun tq kq => pre97 tq (st98.trans kq)
    have hc132 : r99 = v48 := by rw [hq98]; rcases hj49 with q | q <;> first | exact q.2.symm | exact absurd q.1 hc32 | exact absurd hc32 q.1
    have pre101 : ∀ tq, Steps p.tables e below (T98.setTop (mkF m 135 #[.val (.int p1), .val (.int p2), .val (.int p3), .val (.int p4), .val (.int v2), .val (.int v3), .val (.ref b6), .val (.int v48), .val (.int r52), .val (.int (1 : Int32)), .val (.int r78), .unset] [])) tq → Steps p.tables e below (s₁.setTop (entryFrame m #[(.int p1), (.int p2), (.int p3), (.int p4)] maxLocals)) tq := by
      refine fun tq kq => pre100 tq ?_
      show Steps p.tables e below (T98.setTop (mkF m 130 #[.val (.int p1), .val (.int p2), .val (.int p3), .val (.int p4), .val (.int v2), .val (.int v3), .val (.ref b6), .val (.int v48), .val (.int r52), .val (.int (1 : Int32)), .val (.int r78), .unset] [(.int r99)])) _
      refine XS.iload X98.here hx rfl (hb hby at_130) rfl ?_
      show Steps p.tables e below (T98.setTop (mkF m 132 #[.val (.int p1), .val (.int p2), .val (.int p3), .val (.int p4), .val (.int v2), .val (.int v3), .val (.ref b6), .val (.int v48), .val (.int r52), .val (.int (1 : Int32)), .val (.int r78), .unset] [(.int v48), (.int r99)])) _
      refine XS.icmpNo X98.here hx rfl (hb hby at_132) rfl (teq hc132).2 ?_
      exact kq
    have pre102 : ∀ tq, Steps p.tables e below (T98.setTop (mkF m 147 #[.val (.int p1), .val (.int p2), .val (.int p3), .val (.int p4), .val (.int v2), .val (.int v3), .val (.ref b6), .val (.int v48), .val (.int r52), .val (.int (1 : Int32)), .val (.int r78), .val (.int (1 : Int32))] [])) tq → Steps p.tables e below (s₁.setTop (entryFrame m #[(.int p1), (.int p2), (.int p3), (.int p4)] maxLocals)) tq := by
      refine fun tq kq => pre101 tq ?_
      show Steps p.tables e below (T98.setTop (mkF m 135 #[.val (.int p1), .val (.int p2), .val (.int p3), .val (.int p4), .val (.int v2), .val (.int v3), .val (.ref b6), .val (.int v48), .val (.int r52), .val (.int (1 : Int32)), .val (.int r78), .unset] [])) _
      refine XS.iconst X98.here hx rfl (hb hby at_135) ?_
      show Steps p.tables e below (T98.setTop (mkF m 136 #[.val (.int p1), .val (.int p2), .val (.int p3), .val (.int p4), .val (.int v2), .val (.int v3), .val (.ref b6), .val (.int v48), .val (.int r52), .val (.int (1 : Int32)), .val (.int r78), .unset] [(.int (1 : Int32))])) _
      refine XS.goto X98.here hx rfl (pc0 := 136) (pc' := 140) rfl (hb hby at_136) (by decide) (by decide) ?_
      show Steps p.tables e below (T98.setTop (mkF m 140 #[.val (.int p1), .val (.int p2), .val (.int p3), .val (.int p4), .val (.int v2), .val (.int v3), .val (.ref b6), .val (.int v48), .val (.int r52), .val (.int (1 : Int32)), .val (.int r78), .unset] [(.int (1 : Int32))])) _
      refine XS.istore X98.here hx rfl (hb hby at_140) rfl (l' := #[.val (.int p1), .val (.int p2), .val (.int p3), .val (.int p4), .val (.int v2), .val (.int v3), .val (.ref b6), .val (.int v48), .val (.int r52), .val (.int (1 : Int32)), .val (.int r78), .val (.int (1 : Int32))]) rfl ?_
      show Steps p.tables e below (T98.setTop (mkF m 142 #[.val (.int p1), .val (.int p2), .val (.int p3), .val (.int p4), .val (.int v2), .val (.int v3), .val (.ref b6), .val (.int v48), .val (.int r52), .val (.int (1 : Int32)), .val (.int r78), .val (.int (1 : Int32))] [])) _
      refine XS.iload X98.here hx rfl (hb hby at_142) rfl ?_
      show Steps p.tables e below (T98.setTop (mkF m 144 #[.val (.int p1), .val (.int p2), .val (.int p3), .val (.int p4), .val (.int v2), .val (.int v3), .val (.ref b6), .val (.int v48), .val (.int r52), .val (.int (1 : Int32)), .val (.int r78), .val (.int (1 : Int32))] [(.int (1 : Int32))])) _
      refine XS.ifNo X98.here hx rfl (hb hby at_144) rfl ((if0 _ _).trans (feq (by decide : ¬ ((1 : Int32) = (0 : Int32)))).1) ?_
      exact kq
    have pre103 : ∀ tq, Steps p.tables e below (T98.setTop (mkF m 152 #[.val (.int p1), .val (.int p2), .val (.int p3), .val (.int p4), .val (.int v2), .val (.int v3), .val (.ref b6), .val (.int v48), .val (.int r52), .val (.int (1 : Int32)), .val (.int r78), .val (.int (1 : Int32))] [])) tq → Steps p.tables e below (s₁.setTop (entryFrame m #[(.int p1), (.int p2), (.int p3), (.int p4)] maxLocals)) tq := by
      refine fun tq kq => pre102 tq ?_
      show Steps p.tables e below (T98.setTop (mkF m 147 #[.val (.int p1), .val (.int p2), .val (.int p3), .val (.int p4), .val (.int v2), .val (.int v3), .val (.ref b6), .val (.int v48), .val (.int r52), .val (.int (1 : Int32)), .val (.int r78), .val (.int (1 : Int32))] [])) _
      refine XS.iload X98.here hx rfl (hb hby at_147) rfl ?_
      show Steps p.tables e below (T98.setTop (mkF m 149 #[.val (.int p1), .val (.int p2), .val (.int p3), .val (.int p4), .val (.int v2), .val (.int v3), .val (.ref b6), .val (.int v48), .val (.int r52), .val (.int (1 : Int32)), .val (.int r78), .val (.int (1 : Int32))] [(.int (1 : Int32))])) _
      refine XS.ifNo X98.here hx rfl (hb hby at_149) rfl ((if0 _ _).trans (feq (by decide : ¬ ((1 : Int32) = (0 : Int32)))).1) ?_
      exact kq
    obtain ⟨fs, hr, hrun, hended, hW, hsame⟩ := X98.leave (v := some (.int (1 : Int32))) (fun h => by rw [Bd.returns] at h; cases h)
    refine ⟨_, _, pre103 _ ?_, hrun, hended, _, _, rfl, ?_, ⟨_, rfl⟩, hW, hsame.mono (by decide) (by decide)⟩
    · skip
      show Steps p.tables e below (T98.setTop (mkF m 152 #[.val (.int p1), .val (.int p2), .val (.int p3), .val (.int p4), .val (.int v2), .val (.int v3), .val (.ref b6), .val (.int v48), .val (.int r52), .val (.int (1 : Int32)), .val (.int r78), .val (.int (1 : Int32))] [])) _
      refine XS.iconst X98.here hx rfl (hb hby at_152) ?_
      show Steps p.tables e below (T98.setTop (mkF m 153 #[.val (.int p1), .val (.int p2), .val (.int p3), .val (.int p4), .val (.int v2), .val (.int v3), .val (.ref b6), .val (.int v48), .val (.int r52), .val (.int (1 : Int32)), .val (.int r78), .val (.int (1 : Int32))] [(.int (1 : Int32))])) _
      refine XS.goto X98.here hx rfl (pc0 := 153) (pc' := 157) rfl (hb hby at_153) (by decide) (by decide) ?_
      show Steps p.tables e below (T98.setTop (mkF m 157 #[.val (.int p1), .val (.int p2), .val (.int p3), .val (.int p4), .val (.int v2), .val (.int v3), .val (.ref b6), .val (.int v48), .val (.int r52), .val (.int (1 : Int32)), .val (.int r78), .val (.int (1 : Int32))] [(.int (1 : Int32))])) _
      exact retN X98 hx (t := .boolean) Bd.returns (by simp) (hb hby at_157) hr
    · show Q0 Z p1 p2 p3 p4 h0 n0 _ T98.heap _
      rw [ehq98]
      exact ⟨rfl, N98⟩
  · skip
    have pre104 : ∀ tq, Steps p.tables e below (T12.setTop (mkF m 35 #[.val (.int p1), .val (.int p2), .val (.int p3), .val (.int p4), .val (.int v2), .val (.int v3), .val (.ref b6), .unset, .unset, .unset, .unset, .unset] [])) tq → Steps p.tables e below (s₁.setTop (entryFrame m #[(.int p1), (.int p2), (.int p3), (.int p4)] maxLocals)) tq := by
      refine fun tq kq => pre46 tq ?_
      show Steps p.tables e below (T12.setTop (mkF m 32 #[.val (.int p1), .val (.int p2), .val (.int p3), .val (.int p4), .val (.int v2), .val (.int v3), .val (.ref b6), .unset, .unset, .unset, .unset, .unset] [(.int v3)])) _
      refine XS.ifNo X12.here hx rfl (hb hby at_32) rfl ((if0 _ _).trans (feq hc32).1) ?_
      exact kq
    have pre105 : ∀ tq, Steps p.tables e below (T12.setTop (mkF m 39 #[.val (.int p1), .val (.int p2), .val (.int p3), .val (.int p4), .val (.int v2), .val (.int v3), .val (.ref b6), .unset, .unset, .unset, .unset, .unset] [(.int p4), (.int p3), (.ref b6)])) tq → Steps p.tables e below (s₁.setTop (entryFrame m #[(.int p1), (.int p2), (.int p3), (.int p4)] maxLocals)) tq := by
      refine fun tq kq => pre104 tq ?_
      show Steps p.tables e below (T12.setTop (mkF m 35 #[.val (.int p1), .val (.int p2), .val (.int p3), .val (.int p4), .val (.int v2), .val (.int v3), .val (.ref b6), .unset, .unset, .unset, .unset, .unset] [])) _
      refine XS.aload X12.here hx rfl (hb hby at_35) rfl rfl ?_
      show Steps p.tables e below (T12.setTop (mkF m 37 #[.val (.int p1), .val (.int p2), .val (.int p3), .val (.int p4), .val (.int v2), .val (.int v3), .val (.ref b6), .unset, .unset, .unset, .unset, .unset] [(.ref b6)])) _
      refine XS.iloadN X12.here hx rfl (hb hby at_37) rfl ?_
      show Steps p.tables e below (T12.setTop (mkF m 38 #[.val (.int p1), .val (.int p2), .val (.int p3), .val (.int p4), .val (.int v2), .val (.int v3), .val (.ref b6), .unset, .unset, .unset, .unset, .unset] [(.int p3), (.ref b6)])) _
      refine XS.iloadN X12.here hx rfl (hb hby at_38) rfl ?_
      exact kq
    have Z106 : n0 ≤ T12.heap.size := (Nat.le_trans Z12 Kq12.1)
    obtain ⟨cq106, kq106, q106a, q106b, q106c⟩ := isOf hZ rfl f41
    obtain ⟨_, _, ⟨T106, L106, k106, n106⟩, -, X106, ⟨Lc106, hQ106, l106, y106, z106⟩, st106⟩ := X12.virtualBack hx (y := (⟨"com/example/latchwork/latchwork/history/EdgeList", "add", "(II)V"⟩ : MethodName)) (z := (⟨"com/example/latchwork/latchwork/history/EdgeList", "add", "(II)V"⟩ : MethodName)) hown (mvT hZ (hw _ (List.mem_of_getElem? (i := 26) rfl))) (mvT hZ (hw _ (List.mem_of_getElem? (i := 27) rfl))) (notFace_of_selects (args := #[]) (mvT hZ (hw _ (List.mem_of_getElem? (i := 29) rfl)))) (mvT hZ (hw _ (List.mem_of_getElem? (i := 29) rfl))) (mvT hZ (hw _ (List.mem_of_getElem? (i := 28) rfl))) (by decide) (backOf (W := 0) (rm4 l Z a0 hw [] b6 p3 p4 u34 u35 u36 u37 u38 u39 T12.heap n0 Z106 f13 f14 f16 f17 f18 f19 f20 f21 f22 f23 g_u34 g_u36 g_u35 g_u38 ne42 ne44 ne43 ne45 f28 f29 f30 f31 f32 f33) hZ (hw _ (List.mem_of_getElem? (i := 30) rfl)) (hw _ (List.mem_of_getElem? (i := 3) rfl)) (by decide) (by decide)) q106a q106c (g := (mkF m 39 #[.val (.int p1), .val (.int p2), .val (.int p3), .val (.int p4), .val (.int v2), .val (.int v3), .val (.ref b6), .unset, .unset, .unset, .unset, .unset] [(.int p4), (.int p3), (.ref b6)])) rfl (by rw [hml]; rfl) (Steps.refl _) (argsL := [(.int p3), (.int p4)]) (rest := []) (lenOf pd0_2 rfl) rfl (by show 2 * 0 + _ ≤ _; exact Nat.le_of_eq rfl) (hb hby at_39) (fun _ _ => ⟨rfl, rfl, (by decide : ((0 + 1) + 4) + 0 ≤ _), (by decide : ((0 + 3) + 12) + 0 ≤ _)⟩)
    dsimp only [Pt.U, Pt.locs, Pt.cells, Pt.slots] at X106 l106 y106 z106 st106 hQ106
    subst l106 y106 z106
    obtain ⟨rfl, Nq106, Kq106, f107, hq106⟩ := hQ106
    have N106 := Fr.app N12 Nq106
    have pre108 : ∀ tq, Steps p.tables e below (T106.setTop (mkF m 42 #[.val (.int p1), .val (.int p2), .val (.int p3), .val (.int p4), .val (.int v2), .val (.int v3), .val (.ref b6), .unset, .unset, .unset, .unset, .unset] [])) tq → Steps p.tables e below (s₁.setTop (entryFrame m #[(.int p1), (.int p2), (.int p3), (.int p4)] maxLocals)) tq := fun tq kq => pre105 tq (st106.trans kq)
    have K106 : Keep h0 T106.heap [] := Keep.trans K12 Kq106 (allS (Or.inr sz_u34) (allS (Or.inr sz_u36) (allS (Or.inr sz_u35) (allS (Or.inr sz_u38) all0))))
    have f109 := f41.keep Kq106
    have f110 := f13.keep Kq106 (by simp only [List.mem_cons, List.not_mem_nil, or_false, not_or]; exact ⟨ne42, ne44, ne43, ne45⟩)
    have f111 := f14.keep Kq106 (by simp only [List.mem_cons, List.not_mem_nil, or_false, not_or]; exact ⟨ne42, ne44, ne43, ne45⟩)
    have f112 := f15.keep Kq106 (by simp only [List.mem_cons, List.not_mem_nil, or_false, not_or]; exact ⟨ne42, ne44, ne43, ne45⟩)
    have f113 := f16.keep Kq106
    have f114 := f20.keep Kq106
    obtain ⟨v115, hj116, pre116⟩ : ∃ v115 : Int32, ((v3 = (0 : Int32) ∧ v115 = (0 : Int32)) ∨ (¬ (v3 = (0 : Int32)) ∧ v115 = (1 : Int32))) ∧ (∀ tq, Steps p.tables e below (T106.setTop (mkF m 52 #[.val (.int p1), .val (.int p2), .val (.int p3), .val (.int p4), .val (.int v2), .val (.int v3), .val (.ref b6), .unset, .unset, .unset, .unset, .unset] [(.int v115)])) tq → Steps p.tables e below (s₁.setTop (entryFrame m #[(.int p1), (.int p2), (.int p3), (.int p4)] maxLocals)) tq) := by
      by_cases hb0_44 : v3 = (0 : Int32)
      · skip
        refine ⟨(0 : Int32), Or.inl (⟨hb0_44, rfl⟩), fun tq kq => pre108 tq ?_⟩
        show Steps p.tables e below (T106.setTop (mkF m 42 #[.val (.int p1), .val (.int p2), .val (.int p3), .val (.int p4), .val (.int v2), .val (.int v3), .val (.ref b6), .unset, .unset, .unset, .unset, .unset] [])) _
        refine XS.iload X106.here hx rfl (hb hby at_42) rfl ?_
        show Steps p.tables e below (T106.setTop (mkF m 44 #[.val (.int p1), .val (.int p2), .val (.int p3), .val (.int p4), .val (.int v2), .val (.int v3), .val (.ref b6), .unset, .unset, .unset, .unset, .unset] [(.int v3)])) _
        refine XS.ifYes X106.here hx rfl (pc0 := 44) (pc' := 51) rfl (hb hby at_44) rfl ((if0 _ _).trans (teq hb0_44).1) (by decide) (by decide) ?_
        show Steps p.tables e below (T106.setTop (mkF m 51 #[.val (.int p1), .val (.int p2), .val (.int p3), .val (.int p4), .val (.int v2), .val (.int v3), .val (.ref b6), .unset, .unset, .unset, .unset, .unset] [])) _
        refine XS.iconst X106.here hx rfl (hb hby at_51) ?_
        exact kq
      · skip
        refine ⟨(1 : Int32), Or.inr (⟨hb0_44, rfl⟩), fun tq kq => pre108 tq ?_⟩
        show Steps p.tables e below (T106.setTop (mkF m 42 #[.val (.int p1), .val (.int p2), .val (.int p3), .val (.int p4), .val (.int v2), .val (.int v3), .val (.ref b6), .unset, .unset, .unset, .unset, .unset] [])) _
        refine XS.iload X106.here hx rfl (hb hby at_42) rfl ?_
        show Steps p.tables e below (T106.setTop (mkF m 44 #[.val (.int p1), .val (.int p2), .val (.int p3), .val (.int p4), .val (.int v2), .val (.int v3), .val (.ref b6), .unset, .unset, .unset, .unset, .unset] [(.int v3)])) _
        refine XS.ifNo X106.here hx rfl (hb hby at_44) rfl ((if0 _ _).trans (feq hb0_44).1) ?_
        show Steps p.tables e below (T106.setTop (mkF m 47 #[.val (.int p1), .val (.int p2), .val (.int p3), .val (.int p4), .val (.int v2), .val (.int v3), .val (.ref b6), .unset, .unset, .unset, .unset, .unset] [])) _
        refine XS.iconst X106.here hx rfl (hb hby at_47) ?_
        show Steps p.tables e below (T106.setTop (mkF m 48 #[.val (.int p1), .val (.int p2), .val (.int p3), .val (.int p4), .val (.int v2), .val (.int v3), .val (.ref b6), .unset, .unset, .unset, .unset, .unset] [(.int (1 : Int32))])) _
        refine XS.goto X106.here hx rfl (pc0 := 48) (pc' := 52) rfl (hb hby at_48) (by decide) (by decide) ?_
        exact kq
    have pre117 : ∀ tq, Steps p.tables e below (T106.setTop (mkF m 56 #[.val (.int p1), .val (.int p2), .val (.int p3), .val (.int p4), .val (.int v2), .val (.int v3), .val (.ref b6), .val (.int v115), .unset, .unset, .unset, .unset] [(.ref b6)])) tq → Steps p.tables e below (s₁.setTop (entryFrame m #[(.int p1), (.int p2), (.int p3), (.int p4)] maxLocals)) tq := by
      refine fun tq kq => pre116 tq ?_
      show Steps p.tables e below (T106.setTop (mkF m 52 #[.val (.int p1), .val (.int p2), .val (.int p3), .val (.int p4), .val (.int v2), .val (.int v3), .val (.ref b6), .unset, .unset, .unset, .unset, .unset] [(.int v115)])) _
      refine XS.istore X106.here hx rfl (hb hby at_52) rfl (l' := #[.val (.int p1), .val (.int p2), .val (.int p3), .val (.int p4), .val (.int v2), .val (.int v3), .val (.ref b6), .val (.int v115), .unset, .unset, .unset, .unset]) rfl ?_
      show Steps p.tables e below (T106.setTop (mkF m 54 #[.val (.int p1), .val (.int p2), .val (.int p3), .val (.int p4), .val (.int v2), .val (.int v3), .val (.ref b6), .val (.int v115), .unset, .unset, .unset, .unset] [])) _
      refine XS.aload X106.here hx rfl (hb hby at_54) rfl rfl ?_
      exact kq
    have Z118 : n0 ≤ T106.heap.size := (Nat.le_trans Z106 Kq106.1)
    obtain ⟨cq118, kq118, q118a, q118b, q118c⟩ := isOf hZ rfl f109
    obtain ⟨_, _, ⟨T118, L118, k118, n118⟩, -, X118, ⟨Lc118, hQ118, l118, y118, z118⟩, st118⟩ := X106.virtualBack hx (y := (⟨"com/example/latchwork/latchwork/history/EdgeList", "addVertex", "()I"⟩ : MethodName)) (z := (⟨"com/example/latchwork/latchwork/history/EdgeList", "addVertex", "()I"⟩ : MethodName)) hown (mvT hZ (hw _ (List.mem_of_getElem? (i := 38) rfl))) (mvT hZ (hw _ (List.mem_of_getElem? (i := 39) rfl))) (notFace_of_selects (args := #[]) (mvT hZ (hw _ (List.mem_of_getElem? (i := 41) rfl)))) (mvT hZ (hw _ (List.mem_of_getElem? (i := 41) rfl))) (mvT hZ (hw _ (List.mem_of_getElem? (i := 40) rfl))) (by decide) (backOf (W := 0) (rm6 l Z a0 hw [] b6 v2 u34 T106.heap n0 Z118 f109 f112 f110 g_b6) hZ (hw _ (List.mem_of_getElem? (i := 42) rfl)) (hw _ (List.mem_of_getElem? (i := 3) rfl)) (by decide) (by decide)) q118a q118c (g := (mkF m 56 #[.val (.int p1), .val (.int p2), .val (.int p3), .val (.int p4), .val (.int v2), .val (.int v3), .val (.ref b6), .val (.int v115), .unset, .unset, .unset, .unset] [(.ref b6)])) rfl (by rw [hml]; rfl) (Steps.refl _) (argsL := []) (rest := []) (lenOf pd0_1 rfl) rfl (by show 2 * 0 + _ ≤ _; exact Nat.le_of_eq rfl) (hb hby at_56) (fun _ _ => ⟨rfl, rfl, (by decide : (((0 + 1) + 4) + 0) + 0 ≤ _), (by decide : (((0 + 3) + 12) + 0) + 0 ≤ _)⟩)
    dsimp only [Pt.U, Pt.locs, Pt.cells, Pt.slots] at X118 l118 y118 z118 st118 hQ118
    subst l118 y118 z118
    obtain ⟨r119, rfl, Nq118, Kq118, f120, f121, hq118⟩ := hQ118
    have N118 := Fr.app N106 Nq118
    have pre122 : ∀ tq, Steps p.tables e below (T118.setTop (mkF m 59 #[.val (.int p1), .val (.int p2), .val (.int p3), .val (.int p4), .val (.int v2), .val (.int v3), .val (.ref b6), .val (.int v115), .unset, .unset, .unset, .unset] [(.int r119)])) tq → Steps p.tables e below (s₁.setTop (entryFrame m #[(.int p1), (.int p2), (.int p3), (.int p4)] maxLocals)) tq := fun tq kq => pre117 tq (st118.trans kq)
    have K118 : Keep h0 T118.heap [] := Keep.trans K106 Kq118 (allS (Or.inr sz_b6) all0)
    have f123 := f109.keep Kq118
    have f124 := f113.keep Kq118
    have f125 := f114.keep Kq118
    have f126 := f107.keep Kq118 (by simp only [List.mem_cons, List.not_mem_nil, or_false, not_or]; exact (Ne.symm ne42))
    have hc65 : r119 = v2 := by exact hq118
    have pre127 : ∀ tq, Steps p.tables e below (T118.setTop (mkF m 68 #[.val (.int p1), .val (.int p2), .val (.int p3), .val (.int p4), .val (.int v2), .val (.int v3), .val (.ref b6), .val (.int v115), .val (.int r119), .unset, .unset, .unset] [])) tq → Steps p.tables e below (s₁.setTop (entryFrame m #[(.int p1), (.int p2), (.int p3), (.int p4)] maxLocals)) tq := by
      refine fun tq kq => pre122 tq ?_
      show Steps p.tables e below (T118.setTop (mkF m 59 #[.val (.int p1), .val (.int p2), .val (.int p3), .val (.int p4), .val (.int v2), .val (.int v3), .val (.ref b6), .val (.int v115), .unset, .unset, .unset, .unset] [(.int r119)])) _
      refine XS.istore X118.here hx rfl (hb hby at_59) rfl (l' := #[.val (.int p1), .val (.int p2), .val (.int p3), .val (.int p4), .val (.int v2), .val (.int v3), .val (.ref b6), .val (.int v115), .val (.int r119), .unset, .unset, .unset]) rfl ?_
      show Steps p.tables e below (T118.setTop (mkF m 61 #[.val (.int p1), .val (.int p2), .val (.int p3), .val (.int p4), .val (.int v2), .val (.int v3), .val (.ref b6), .val (.int v115), .val (.int r119), .unset, .unset, .unset] [])) _
      refine XS.iload X118.here hx rfl (hb hby at_61) rfl ?_
      show Steps p.tables e below (T118.setTop (mkF m 63 #[.val (.int p1), .val (.int p2), .val (.int p3), .val (.int p4), .val (.int v2), .val (.int v3), .val (.ref b6), .val (.int v115), .val (.int r119), .unset, .unset, .unset] [(.int r119)])) _
      refine XS.iload X118.here hx rfl (hb hby at_63) rfl ?_
      show Steps p.tables e below (T118.setTop (mkF m 65 #[.val (.int p1), .val (.int p2), .val (.int p3), .val (.int p4), .val (.int v2), .val (.int v3), .val (.ref b6), .val (.int v115), .val (.int r119), .unset, .unset, .unset] [(.int v2), (.int r119)])) _
      refine XS.icmpNo X118.here hx rfl (hb hby at_65) rfl (teq hc65).2 ?_
      exact kq
    have pre128 : ∀ tq, Steps p.tables e below (T118.setTop (mkF m 70 #[.val (.int p1), .val (.int p2), .val (.int p3), .val (.int p4), .val (.int v2), .val (.int v3), .val (.ref b6), .val (.int v115), .val (.int r119), .unset, .unset, .unset] [(.ref b6)])) tq → Steps p.tables e below (s₁.setTop (entryFrame m #[(.int p1), (.int p2), (.int p3), (.int p4)] maxLocals)) tq := by
      refine fun tq kq => pre127 tq ?_
      show Steps p.tables e below (T118.setTop (mkF m 68 #[.val (.int p1), .val (.int p2), .val (.int p3), .val (.int p4), .val (.int v2), .val (.int v3), .val (.ref b6), .val (.int v115), .val (.int r119), .unset, .unset, .unset] [])) _
      refine XS.aload X118.here hx rfl (hb hby at_68) rfl rfl ?_
      exact kq
    have Z129 : n0 ≤ T118.heap.size := (Nat.le_trans Z118 Kq118.1)
    obtain ⟨cq129, kq129, q129a, q129b, q129c⟩ := isOf hZ rfl f123
    obtain ⟨_, _, ⟨T129, L129, k129, n129⟩, -, X129, ⟨Lc129, hQ129, l129, y129, z129⟩, st129⟩ := X118.virtualBack hx (y := (⟨"com/example/latchwork/latchwork/history/EdgeList", "vertices", "()I"⟩ : MethodName)) (z := (⟨"com/example/latchwork/latchwork/history/EdgeList", "vertices", "()I"⟩ : MethodName)) hown (mvT hZ (hw _ (List.mem_of_getElem? (i := 43) rfl))) (mvT hZ (hw _ (List.mem_of_getElem? (i := 44) rfl))) (notFace_of_selects (args := #[]) (mvT hZ (hw _ (List.mem_of_getElem? (i := 46) rfl)))) (mvT hZ (hw _ (List.mem_of_getElem? (i := 46) rfl))) (mvT hZ (hw _ (List.mem_of_getElem? (i := 45) rfl))) (by decide) (backOf (W := 0) (rm7 l Z a0 hw [] b6 (v2 + (1 : Int32)) T118.heap n0 Z129 f120) hZ (hw _ (List.mem_of_getElem? (i := 47) rfl)) (hw _ (List.mem_of_getElem? (i := 3) rfl)) (by decide) (by decide)) q129a q129c (g := (mkF m 70 #[.val (.int p1), .val (.int p2), .val (.int p3), .val (.int p4), .val (.int v2), .val (.int v3), .val (.ref b6), .val (.int v115), .val (.int r119), .unset, .unset, .unset] [(.ref b6)])) rfl (by rw [hml]; rfl) (Steps.refl _) (argsL := []) (rest := []) (lenOf pd0_1 rfl) rfl (by show 2 * 0 + _ ≤ _; exact Nat.le_of_eq rfl) (hb hby at_70) (fun _ _ => ⟨rfl, rfl, (by decide : ((((0 + 1) + 4) + 0) + 0) + 0 ≤ _), (by decide : ((((0 + 3) + 12) + 0) + 0) + 0 ≤ _)⟩)
    dsimp only [Pt.U, Pt.locs, Pt.cells, Pt.slots] at X129 l129 y129 z129 st129 hQ129
    subst l129 y129 z129
    obtain ⟨r130, rfl, Nq129, ehq129, hq129⟩ := hQ129
    have N129 := Fr.app N118 Nq129
    have pre131 : ∀ tq, Steps p.tables e below (T129.setTop (mkF m 73 #[.val (.int p1), .val (.int p2), .val (.int p3), .val (.int p4), .val (.int v2), .val (.int v3), .val (.ref b6), .val (.int v115), .val (.int r119), .unset, .unset, .unset] [(.int r130)])) tq → Steps p.tables e below (s₁.setTop (entryFrame m #[(.int p1), (.int p2), (.int p3), (.int p4)] maxLocals)) tq := fun tq kq => pre128 tq (st129.trans kq)
    have hc77 : r130 = (v2 + (1 : Int32)) := by exact hq129
    have pre132 : ∀ tq, Steps p.tables e below (T129.setTop (mkF m 80 #[.val (.int p1), .val (.int p2), .val (.int p3), .val (.int p4), .val (.int v2), .val (.int v3), .val (.ref b6), .val (.int v115), .val (.int r119), .unset, .unset, .unset] [])) tq → Steps p.tables e below (s₁.setTop (entryFrame m #[(.int p1), (.int p2), (.int p3), (.int p4)] maxLocals)) tq := by
      refine fun tq kq => pre131 tq ?_
      show Steps p.tables e below (T129.setTop (mkF m 73 #[.val (.int p1), .val (.int p2), .val (.int p3), .val (.int p4), .val (.int v2), .val (.int v3), .val (.ref b6), .val (.int v115), .val (.int r119), .unset, .unset, .unset] [(.int r130)])) _
      refine XS.iload X129.here hx rfl (hb hby at_73) rfl ?_
      show Steps p.tables e below (T129.setTop (mkF m 75 #[.val (.int p1), .val (.int p2), .val (.int p3), .val (.int p4), .val (.int v2), .val (.int v3), .val (.ref b6), .val (.int v115), .val (.int r119), .unset, .unset, .unset] [(.int v2), (.int r130)])) _
      refine XS.iconst X129.here hx rfl (hb hby at_75) ?_
      show Steps p.tables e below (T129.setTop (mkF m 76 #[.val (.int p1), .val (.int p2), .val (.int p3), .val (.int p4), .val (.int v2), .val (.int v3), .val (.ref b6), .val (.int v115), .val (.int r119), .unset, .unset, .unset] [(.int (1 : Int32)), (.int v2), (.int r130)])) _
      refine XS.iadd X129.here hx rfl (hb hby at_76) rfl ?_
      show Steps p.tables e below (T129.setTop (mkF m 77 #[.val (.int p1), .val (.int p2), .val (.int p3), .val (.int p4), .val (.int v2), .val (.int v3), .val (.ref b6), .val (.int v115), .val (.int r119), .unset, .unset, .unset] [(.int (v2 + (1 : Int32))), (.int r130)])) _
      refine XS.icmpNo X129.here hx rfl (hb hby at_77) rfl (teq hc77).2 ?_
      exact kq
    have pre133 : ∀ tq, Steps p.tables e below (T129.setTop (mkF m 82 #[.val (.int p1), .val (.int p2), .val (.int p3), .val (.int p4), .val (.int v2), .val (.int v3), .val (.ref b6), .val (.int v115), .val (.int r119), .unset, .unset, .unset] [(.ref b6)])) tq → Steps p.tables e below (s₁.setTop (entryFrame m #[(.int p1), (.int p2), (.int p3), (.int p4)] maxLocals)) tq := by
      refine fun tq kq => pre132 tq ?_
      show Steps p.tables e below (T129.setTop (mkF m 80 #[.val (.int p1), .val (.int p2), .val (.int p3), .val (.int p4), .val (.int v2), .val (.int v3), .val (.ref b6), .val (.int v115), .val (.int r119), .unset, .unset, .unset] [])) _
      refine XS.aload X129.here hx rfl (hb hby at_80) rfl rfl ?_
      exact kq
    have Z134 : n0 ≤ T118.heap.size := (Nat.le_trans Z118 Kq118.1)
    obtain ⟨cq134, kq134, q134a, q134b, q134c⟩ := isOf hZ ehq129 f123
    obtain ⟨_, _, ⟨T134, L134, k134, n134⟩, -, X134, ⟨Lc134, hQ134, l134, y134, z134⟩, st134⟩ := X129.virtualBack hx (y := (⟨"com/example/latchwork/latchwork/history/EdgeList", "size", "()I"⟩ : MethodName)) (z := (⟨"com/example/latchwork/latchwork/history/EdgeList", "size", "()I"⟩ : MethodName)) hown (mvT hZ (hw _ (List.mem_of_getElem? (i := 48) rfl))) (mvT hZ (hw _ (List.mem_of_getElem? (i := 49) rfl))) (notFace_of_selects (args := #[]) (mvT hZ (hw _ (List.mem_of_getElem? (i := 51) rfl)))) (mvT hZ (hw _ (List.mem_of_getElem? (i := 51) rfl))) (mvT hZ (hw _ (List.mem_of_getElem? (i := 50) rfl))) (by decide) (backOf (W := 0) (rm8 l Z a0 hw [] b6 u34 (1 : Int32) T118.heap n0 Z134 f121 f124 f126) hZ (hw _ (List.mem_of_getElem? (i := 52) rfl)) (hw _ (List.mem_of_getElem? (i := 3) rfl)) (by decide) (by decide)) q134a q134c (g := (mkF m 82 #[.val (.int p1), .val (.int p2), .val (.int p3), .val (.int p4), .val (.int v2), .val (.int v3), .val (.ref b6), .val (.int v115), .val (.int r119), .unset, .unset, .unset] [(.ref b6)])) rfl (by rw [hml]; rfl) (Steps.refl _) (argsL := []) (rest := []) (lenOf pd0_1 rfl) rfl (by show 2 * 0 + _ ≤ _; exact Nat.le_of_eq rfl) (hb hby at_82) (fun _ _ => ⟨rfl, ehq129, (by decide : (((((0 + 1) + 4) + 0) + 0) + 0) + 0 ≤ _), (by decide : (((((0 + 3) + 12) + 0) + 0) + 0) + 0 ≤ _)⟩)
    dsimp only [Pt.U, Pt.locs, Pt.cells, Pt.slots] at X134 l134 y134 z134 st134 hQ134
    subst l134 y134 z134
    obtain ⟨r135, rfl, Nq134, ehq134, hq134⟩ := hQ134
    have N134 := Fr.app N129 Nq134
    have pre136 : ∀ tq, Steps p.tables e below (T134.setTop (mkF m 85 #[.val (.int p1), .val (.int p2), .val (.int p3), .val (.int p4), .val (.int v2), .val (.int v3), .val (.ref b6), .val (.int v115), .val (.int r119), .unset, .unset, .unset] [(.int r135)])) tq → Steps p.tables e below (s₁.setTop (entryFrame m #[(.int p1), (.int p2), (.int p3), (.int p4)] maxLocals)) tq := fun tq kq => pre133 tq (st134.trans kq)
    have hc87 : r135 = v115 := by rw [hq134]; rcases hj116 with q | q <;> first | exact q.2.symm | exact absurd q.1 hc32 | exact absurd hc32 q.1
    have pre137 : ∀ tq, Steps p.tables e below (T134.setTop (mkF m 90 #[.val (.int p1), .val (.int p2), .val (.int p3), .val (.int p4), .val (.int v2), .val (.int v3), .val (.ref b6), .val (.int v115), .val (.int r119), .unset, .unset, .unset] [])) tq → Steps p.tables e below (s₁.setTop (entryFrame m #[(.int p1), (.int p2), (.int p3), (.int p4)] maxLocals)) tq := by
      refine fun tq kq => pre136 tq ?_
      show Steps p.tables e below (T134.setTop (mkF m 85 #[.val (.int p1), .val (.int p2), .val (.int p3), .val (.int p4), .val (.int v2), .val (.int v3), .val (.ref b6), .val (.int v115), .val (.int r119), .unset, .unset, .unset] [(.int r135)])) _
      refine XS.iload X134.here hx rfl (hb hby at_85) rfl ?_
      show Steps p.tables e below (T134.setTop (mkF m 87 #[.val (.int p1), .val (.int p2), .val (.int p3), .val (.int p4), .val (.int v2), .val (.int v3), .val (.ref b6), .val (.int v115), .val (.int r119), .unset, .unset, .unset] [(.int v115), (.int r135)])) _
      refine XS.icmpNo X134.here hx rfl (hb hby at_87) rfl (teq hc87).2 ?_
      exact kq
    have pre138 : ∀ tq, Steps p.tables e below (T134.setTop (mkF m 99 #[.val (.int p1), .val (.int p2), .val (.int p3), .val (.int p4), .val (.int v2), .val (.int v3), .val (.ref b6), .val (.int v115), .val (.int r119), .val (.int (1 : Int32)), .unset, .unset] [(.ref b6)])) tq → Steps p.tables e below (s₁.setTop (entryFrame m #[(.int p1), (.int p2), (.int p3), (.int p4)] maxLocals)) tq := by
      refine fun tq kq => pre137 tq ?_
      show Steps p.tables e below (T134.setTop (mkF m 90 #[.val (.int p1), .val (.int p2), .val (.int p3), .val (.int p4), .val (.int v2), .val (.int v3), .val (.ref b6), .val (.int v115), .val (.int r119), .unset, .unset, .unset] [])) _
      refine XS.iconst X134.here hx rfl (hb hby at_90) ?_
      show Steps p.tables e below (T134.setTop (mkF m 91 #[.val (.int p1), .val (.int p2), .val (.int p3), .val (.int p4), .val (.int v2), .val (.int v3), .val (.ref b6), .val (.int v115), .val (.int r119), .unset, .unset, .unset] [(.int (1 : Int32))])) _
      refine XS.goto X134.here hx rfl (pc0 := 91) (pc' := 95) rfl (hb hby at_91) (by decide) (by decide) ?_
      show Steps p.tables e below (T134.setTop (mkF m 95 #[.val (.int p1), .val (.int p2), .val (.int p3), .val (.int p4), .val (.int v2), .val (.int v3), .val (.ref b6), .val (.int v115), .val (.int r119), .unset, .unset, .unset] [(.int (1 : Int32))])) _
      refine XS.istore X134.here hx rfl (hb hby at_95) rfl (l' := #[.val (.int p1), .val (.int p2), .val (.int p3), .val (.int p4), .val (.int v2), .val (.int v3), .val (.ref b6), .val (.int v115), .val (.int r119), .val (.int (1 : Int32)), .unset, .unset]) rfl ?_
      show Steps p.tables e below (T134.setTop (mkF m 97 #[.val (.int p1), .val (.int p2), .val (.int p3), .val (.int p4), .val (.int v2), .val (.int v3), .val (.ref b6), .val (.int v115), .val (.int r119), .val (.int (1 : Int32)), .unset, .unset] [])) _
      refine XS.aload X134.here hx rfl (hb hby at_97) rfl rfl ?_
      exact kq
    have Z139 : n0 ≤ T118.heap.size := (Nat.le_trans Z118 Kq118.1)
    obtain ⟨cq139, kq139, q139a, q139b, q139c⟩ := isOf hZ ehq134 f123
    obtain ⟨_, _, ⟨T139, L139, k139, n139⟩, -, X139, ⟨Lc139, hQ139, l139, y139, z139⟩, st139⟩ := X134.virtualBack hx (y := (⟨"com/example/latchwork/latchwork/history/EdgeList", "addVertex", "()I"⟩ : MethodName)) (z := (⟨"com/example/latchwork/latchwork/history/EdgeList", "addVertex", "()I"⟩ : MethodName)) hown (mvT hZ (hw _ (List.mem_of_getElem? (i := 38) rfl))) (mvT hZ (hw _ (List.mem_of_getElem? (i := 39) rfl))) (notFace_of_selects (args := #[]) (mvT hZ (hw _ (List.mem_of_getElem? (i := 41) rfl)))) (mvT hZ (hw _ (List.mem_of_getElem? (i := 41) rfl))) (mvT hZ (hw _ (List.mem_of_getElem? (i := 40) rfl))) (by decide) (backOf (W := 0) (rm6 l Z a0 hw [] b6 (v2 + (1 : Int32)) u34 T118.heap n0 Z139 f123 f120 f121 g_b6) hZ (hw _ (List.mem_of_getElem? (i := 42) rfl)) (hw _ (List.mem_of_getElem? (i := 3) rfl)) (by decide) (by decide)) q139a q139c (g := (mkF m 99 #[.val (.int p1), .val (.int p2), .val (.int p3), .val (.int p4), .val (.int v2), .val (.int v3), .val (.ref b6), .val (.int v115), .val (.int r119), .val (.int (1 : Int32)), .unset, .unset] [(.ref b6)])) rfl (by rw [hml]; rfl) (Steps.refl _) (argsL := []) (rest := []) (lenOf pd0_1 rfl) rfl (by show 2 * 0 + _ ≤ _; exact Nat.le_of_eq rfl) (hb hby at_99) (fun _ _ => ⟨rfl, ehq134, (by decide : ((((((0 + 1) + 4) + 0) + 0) + 0) + 0) + 0 ≤ _), (by decide : ((((((0 + 3) + 12) + 0) + 0) + 0) + 0) + 0 ≤ _)⟩)
    dsimp only [Pt.U, Pt.locs, Pt.cells, Pt.slots] at X139 l139 y139 z139 st139 hQ139
    subst l139 y139 z139
    obtain ⟨r140, rfl, Nq139, Kq139, f141, f142, hq139⟩ := hQ139
    have N139 := Fr.app N134 Nq139
    have pre143 : ∀ tq, Steps p.tables e below (T139.setTop (mkF m 102 #[.val (.int p1), .val (.int p2), .val (.int p3), .val (.int p4), .val (.int v2), .val (.int v3), .val (.ref b6), .val (.int v115), .val (.int r119), .val (.int (1 : Int32)), .unset, .unset] [(.int r140)])) tq → Steps p.tables e below (s₁.setTop (entryFrame m #[(.int p1), (.int p2), (.int p3), (.int p4)] maxLocals)) tq := fun tq kq => pre138 tq (st139.trans kq)
    have K139 : Keep h0 T139.heap [] := Keep.trans K118 Kq139 (allS (Or.inr sz_b6) all0)
    have f144 := f123.keep Kq139
    have f145 := f124.keep Kq139
    have f146 := f125.keep Kq139
    have f147 := f126.keep Kq139 (by simp only [List.mem_cons, List.not_mem_nil, or_false, not_or]; exact (Ne.symm ne42))
    have hc110 : r140 = (v2 + (1 : Int32)) := by exact hq139
    have pre148 : ∀ tq, Steps p.tables e below (T139.setTop (mkF m 113 #[.val (.int p1), .val (.int p2), .val (.int p3), .val (.int p4), .val (.int v2), .val (.int v3), .val (.ref b6), .val (.int v115), .val (.int r119), .val (.int (1 : Int32)), .val (.int r140), .unset] [])) tq → Steps p.tables e below (s₁.setTop (entryFrame m #[(.int p1), (.int p2), (.int p3), (.int p4)] maxLocals)) tq := by
      refine fun tq kq => pre143 tq ?_
      show Steps p.tables e below (T139.setTop (mkF m 102 #[.val (.int p1), .val (.int p2), .val (.int p3), .val (.int p4), .val (.int v2), .val (.int v3), .val (.ref b6), .val (.int v115), .val (.int r119), .val (.int (1 : Int32)), .unset, .unset] [(.int r140)])) _
      refine XS.istore X139.here hx rfl (hb hby at_102) rfl (l' := #[.val (.int p1), .val (.int p2), .val (.int p3), .val (.int p4), .val (.int v2), .val (.int v3), .val (.ref b6), .val (.int v115), .val (.int r119), .val (.int (1 : Int32)), .val (.int r140), .unset]) rfl ?_
      show Steps p.tables e below (T139.setTop (mkF m 104 #[.val (.int p1), .val (.int p2), .val (.int p3), .val (.int p4), .val (.int v2), .val (.int v3), .val (.ref b6), .val (.int v115), .val (.int r119), .val (.int (1 : Int32)), .val (.int r140), .unset] [])) _
      refine XS.iload X139.here hx rfl (hb hby at_104) rfl ?_
      show Steps p.tables e below (T139.setTop (mkF m 106 #[.val (.int p1), .val (.int p2), .val (.int p3), .val (.int p4), .val (.int v2), .val (.int v3), .val (.ref b6), .val (.int v115), .val (.int r119), .val (.int (1 : Int32)), .val (.int r140), .unset] [(.int r140)])) _
      refine XS.iload X139.here hx rfl (hb hby at_106) rfl ?_
      show Steps p.tables e below (T139.setTop (mkF m 108 #[.val (.int p1), .val (.int p2), .val (.int p3), .val (.int p4), .val (.int v2), .val (.int v3), .val (.ref b6), .val (.int v115), .val (.int r119), .val (.int (1 : Int32)), .val (.int r140), .unset] [(.int v2), (.int r140)])) _
      refine XS.iconst X139.here hx rfl (hb hby at_108) ?_
      show Steps p.tables e below (T139.setTop (mkF m 109 #[.val (.int p1), .val (.int p2), .val (.int p3), .val (.int p4), .val (.int v2), .val (.int v3), .val (.ref b6), .val (.int v115), .val (.int r119), .val (.int (1 : Int32)), .val (.int r140), .unset] [(.int (1 : Int32)), (.int v2), (.int r140)])) _
      refine XS.iadd X139.here hx rfl (hb hby at_109) rfl ?_
      show Steps p.tables e below (T139.setTop (mkF m 110 #[.val (.int p1), .val (.int p2), .val (.int p3), .val (.int p4), .val (.int v2), .val (.int v3), .val (.ref b6), .val (.int v115), .val (.int r119), .val (.int (1 : Int32)), .val (.int r140), .unset] [(.int (v2 + (1 : Int32))), (.int r140)])) _
      refine XS.icmpNo X139.here hx rfl (hb hby at_110) rfl (teq hc110).2 ?_
      exact kq
    have pre149 : ∀ tq, Steps p.tables e below (T139.setTop (mkF m 115 #[.val (.int p1), .val (.int p2), .val (.int p3), .val (.int p4), .val (.int v2), .val (.int v3), .val (.ref b6), .val (.int v115), .val (.int r119), .val (.int (1 : Int32)), .val (.int r140), .unset] [(.ref b6)])) tq → Steps p.tables e below (s₁.setTop (entryFrame m #[(.int p1), (.int p2), (.int p3), (.int p4)] maxLocals)) tq := by
      refine fun tq kq => pre148 tq ?_
      show Steps p.tables e below (T139.setTop (mkF m 113 #[.val (.int p1), .val (.int p2), .val (.int p3), .val (.int p4), .val (.int v2), .val (.int v3), .val (.ref b6), .val (.int v115), .val (.int r119), .val (.int (1 : Int32)), .val (.int r140), .unset] [])) _
      refine XS.aload X139.here hx rfl (hb hby at_113) rfl rfl ?_
      exact kq
    have Z150 : n0 ≤ T139.heap.size := (Nat.le_trans Z139 Kq139.1)
    obtain ⟨cq150, kq150, q150a, q150b, q150c⟩ := isOf hZ rfl f144
    obtain ⟨_, _, ⟨T150, L150, k150, n150⟩, -, X150, ⟨Lc150, hQ150, l150, y150, z150⟩, st150⟩ := X139.virtualBack hx (y := (⟨"com/example/latchwork/latchwork/history/EdgeList", "vertices", "()I"⟩ : MethodName)) (z := (⟨"com/example/latchwork/latchwork/history/EdgeList", "vertices", "()I"⟩ : MethodName)) hown (mvT hZ (hw _ (List.mem_of_getElem? (i := 43) rfl))) (mvT hZ (hw _ (List.mem_of_getElem? (i := 44) rfl))) (notFace_of_selects (args := #[]) (mvT hZ (hw _ (List.mem_of_getElem? (i := 46) rfl)))) (mvT hZ (hw _ (List.mem_of_getElem? (i := 46) rfl))) (mvT hZ (hw _ (List.mem_of_getElem? (i := 45) rfl))) (by decide) (backOf (W := 0) (rm7 l Z a0 hw [] b6 ((v2 + (1 : Int32)) + (1 : Int32)) T139.heap n0 Z150 f141) hZ (hw _ (List.mem_of_getElem? (i := 47) rfl)) (hw _ (List.mem_of_getElem? (i := 3) rfl)) (by decide) (by decide)) q150a q150c (g := (mkF m 115 #[.val (.int p1), .val (.int p2), .val (.int p3), .val (.int p4), .val (.int v2), .val (.int v3), .val (.ref b6), .val (.int v115), .val (.int r119), .val (.int (1 : Int32)), .val (.int r140), .unset] [(.ref b6)])) rfl (by rw [hml]; rfl) (Steps.refl _) (argsL := []) (rest := []) (lenOf pd0_1 rfl) rfl (by show 2 * 0 + _ ≤ _; exact Nat.le_of_eq rfl) (hb hby at_115) (fun _ _ => ⟨rfl, rfl, (by decide : (((((((0 + 1) + 4) + 0) + 0) + 0) + 0) + 0) + 0 ≤ _), (by decide : (((((((0 + 3) + 12) + 0) + 0) + 0) + 0) + 0) + 0 ≤ _)⟩)
    dsimp only [Pt.U, Pt.locs, Pt.cells, Pt.slots] at X150 l150 y150 z150 st150 hQ150
    subst l150 y150 z150
    obtain ⟨r151, rfl, Nq150, ehq150, hq150⟩ := hQ150
    have N150 := Fr.app N139 Nq150
    have pre152 : ∀ tq, Steps p.tables e below (T150.setTop (mkF m 118 #[.val (.int p1), .val (.int p2), .val (.int p3), .val (.int p4), .val (.int v2), .val (.int v3), .val (.ref b6), .val (.int v115), .val (.int r119), .val (.int (1 : Int32)), .val (.int r140), .unset] [(.int r151)])) tq → Steps p.tables e below (s₁.setTop (entryFrame m #[(.int p1), (.int p2), (.int p3), (.int p4)] maxLocals)) tq := fun tq kq => pre149 tq (st150.trans kq)
    have hc122 : r151 = (v2 + (2 : Int32)) := by exact hq150.trans ((Int32.add_assoc _ _ _).trans (congrArg (v2 + ·) (by decide)))
    have pre153 : ∀ tq, Steps p.tables e below (T150.setTop (mkF m 125 #[.val (.int p1), .val (.int p2), .val (.int p3), .val (.int p4), .val (.int v2), .val (.int v3), .val (.ref b6), .val (.int v115), .val (.int r119), .val (.int (1 : Int32)), .val (.int r140), .unset] [])) tq → Steps p.tables e below (s₁.setTop (entryFrame m #[(.int p1), (.int p2), (.int p3), (.int p4)] maxLocals)) tq := by
      refine fun tq kq => pre152 tq ?_
      show Steps p.tables e below (T150.setTop (mkF m 118 #[.val (.int p1), .val (.int p2), .val (.int p3), .val (.int p4), .val (.int v2), .val (.int v3), .val (.ref b6), .val (.int v115), .val (.int r119), .val (.int (1 : Int32)), .val (.int r140), .unset] [(.int r151)])) _
      refine XS.iload X150.here hx rfl (hb hby at_118) rfl ?_
      show Steps p.tables e below (T150.setTop (mkF m 120 #[.val (.int p1), .val (.int p2), .val (.int p3), .val (.int p4), .val (.int v2), .val (.int v3), .val (.ref b6), .val (.int v115), .val (.int r119), .val (.int (1 : Int32)), .val (.int r140), .unset] [(.int v2), (.int r151)])) _
      refine XS.iconst X150.here hx rfl (hb hby at_120) ?_
      show Steps p.tables e below (T150.setTop (mkF m 121 #[.val (.int p1), .val (.int p2), .val (.int p3), .val (.int p4), .val (.int v2), .val (.int v3), .val (.ref b6), .val (.int v115), .val (.int r119), .val (.int (1 : Int32)), .val (.int r140), .unset] [(.int (2 : Int32)), (.int v2), (.int r151)])) _
      refine XS.iadd X150.here hx rfl (hb hby at_121) rfl ?_
      show Steps p.tables e below (T150.setTop (mkF m 122 #[.val (.int p1), .val (.int p2), .val (.int p3), .val (.int p4), .val (.int v2), .val (.int v3), .val (.ref b6), .val (.int v115), .val (.int r119), .val (.int (1 : Int32)), .val (.int r140), .unset] [(.int (v2 + (2 : Int32))), (.int r151)])) _
      refine XS.icmpNo X150.here hx rfl (hb hby at_122) rfl (teq hc122).2 ?_
      exact kq
    have pre154 : ∀ tq, Steps p.tables e below (T150.setTop (mkF m 127 #[.val (.int p1), .val (.int p2), .val (.int p3), .val (.int p4), .val (.int v2), .val (.int v3), .val (.ref b6), .val (.int v115), .val (.int r119), .val (.int (1 : Int32)), .val (.int r140), .unset] [(.ref b6)])) tq → Steps p.tables e below (s₁.setTop (entryFrame m #[(.int p1), (.int p2), (.int p3), (.int p4)] maxLocals)) tq := by
      refine fun tq kq => pre153 tq ?_
      show Steps p.tables e below (T150.setTop (mkF m 125 #[.val (.int p1), .val (.int p2), .val (.int p3), .val (.int p4), .val (.int v2), .val (.int v3), .val (.ref b6), .val (.int v115), .val (.int r119), .val (.int (1 : Int32)), .val (.int r140), .unset] [])) _
      refine XS.aload X150.here hx rfl (hb hby at_125) rfl rfl ?_
      exact kq
    have Z155 : n0 ≤ T139.heap.size := (Nat.le_trans Z139 Kq139.1)
    obtain ⟨cq155, kq155, q155a, q155b, q155c⟩ := isOf hZ ehq150 f144
    obtain ⟨_, _, ⟨T155, L155, k155, n155⟩, -, X155, ⟨Lc155, hQ155, l155, y155, z155⟩, st155⟩ := X150.virtualBack hx (y := (⟨"com/example/latchwork/latchwork/history/EdgeList", "size", "()I"⟩ : MethodName)) (z := (⟨"com/example/latchwork/latchwork/history/EdgeList", "size", "()I"⟩ : MethodName)) hown (mvT hZ (hw _ (List.mem_of_getElem? (i := 48) rfl))) (mvT hZ (hw _ (List.mem_of_getElem? (i := 49) rfl))) (notFace_of_selects (args := #[]) (mvT hZ (hw _ (List.mem_of_getElem? (i := 51) rfl)))) (mvT hZ (hw _ (List.mem_of_getElem? (i := 51) rfl))) (mvT hZ (hw _ (List.mem_of_getElem? (i := 50) rfl))) (by decide) (backOf (W := 0) (rm8 l Z a0 hw [] b6 u34 (1 : Int32) T139.heap n0 Z155 f142 f145 f147) hZ (hw _ (List.mem_of_getElem? (i := 52) rfl)) (hw _ (List.mem_of_getElem? (i := 3) rfl)) (by decide) (by decide)) q155a q155c (g := (mkF m 127 #[.val (.int p1), .val (.int p2), .val (.int p3), .val (.int p4), .val (.int v2), .val (.int v3), .val (.ref b6), .val (.int v115), .val (.int r119), .val (.int (1 : Int32)), .val (.int r140), .unset] [(.ref b6)])) rfl (by rw [hml]; rfl) (Steps.refl _) (argsL := []) (rest := []) (lenOf pd0_1 rfl) rfl (by show 2 * 0 + _ ≤ _; exact Nat.le_of_eq rfl) (hb hby at_127) (fun _ _ => ⟨rfl, ehq150, (by decide : ((((((((0 + 1) + 4) + 0) + 0) + 0) + 0) + 0) + 0) + 0 ≤ _), (by decide : ((((((((0 + 3) + 12) + 0) + 0) + 0) + 0) + 0) + 0) + 0 ≤ _)⟩)
    dsimp only [Pt.U, Pt.locs, Pt.cells, Pt.slots] at X155 l155 y155 z155 st155 hQ155
    subst l155 y155 z155
    obtain ⟨r156, rfl, Nq155, ehq155, hq155⟩ := hQ155
    have N155 := Fr.app N150 Nq155
    have pre157 : ∀ tq, Steps p.tables e below (T155.setTop (mkF m 130 #[.val (.int p1), .val (.int p2), .val (.int p3), .val (.int p4), .val (.int v2), .val (.int v3), .val (.ref b6), .val (.int v115), .val (.int r119), .val (.int (1 : Int32)), .val (.int r140), .unset] [(.int r156)])) tq → Steps p.tables e below (s₁.setTop (entryFrame m #[(.int p1), (.int p2), (.int p3), (.int p4)] maxLocals)) tq := fun tq kq => pre154 tq (st155.trans kq)
    have hc132 : r156 = v115 := by rw [hq155]; rcases hj116 with q | q <;> first | exact q.2.symm | exact absurd q.1 hc32 | exact absurd hc32 q.1
    have pre158 : ∀ tq, Steps p.tables e below (T155.setTop (mkF m 135 #[.val (.int p1), .val (.int p2), .val (.int p3), .val (.int p4), .val (.int v2), .val (.int v3), .val (.ref b6), .val (.int v115), .val (.int r119), .val (.int (1 : Int32)), .val (.int r140), .unset] [])) tq → Steps p.tables e below (s₁.setTop (entryFrame m #[(.int p1), (.int p2), (.int p3), (.int p4)] maxLocals)) tq := by
      refine fun tq kq => pre157 tq ?_
      show Steps p.tables e below (T155.setTop (mkF m 130 #[.val (.int p1), .val (.int p2), .val (.int p3), .val (.int p4), .val (.int v2), .val (.int v3), .val (.ref b6), .val (.int v115), .val (.int r119), .val (.int (1 : Int32)), .val (.int r140), .unset] [(.int r156)])) _
      refine XS.iload X155.here hx rfl (hb hby at_130) rfl ?_
      show Steps p.tables e below (T155.setTop (mkF m 132 #[.val (.int p1), .val (.int p2), .val (.int p3), .val (.int p4), .val (.int v2), .val (.int v3), .val (.ref b6), .val (.int v115), .val (.int r119), .val (.int (1 : Int32)), .val (.int r140), .unset] [(.int v115), (.int r156)])) _
      refine XS.icmpNo X155.here hx rfl (hb hby at_132) rfl (teq hc132).2 ?_
      exact kq
    have pre159 : ∀ tq, Steps p.tables e below (T155.setTop (mkF m 147 #[.val (.int p1), .val (.int p2), .val (.int p3), .val (.int p4), .val (.int v2), .val (.int v3), .val (.ref b6), .val (.int v115), .val (.int r119), .val (.int (1 : Int32)), .val (.int r140), .val (.int (1 : Int32))] [])) tq → Steps p.tables e below (s₁.setTop (entryFrame m #[(.int p1), (.int p2), (.int p3), (.int p4)] maxLocals)) tq := by
      refine fun tq kq => pre158 tq ?_
      show Steps p.tables e below (T155.setTop (mkF m 135 #[.val (.int p1), .val (.int p2), .val (.int p3), .val (.int p4), .val (.int v2), .val (.int v3), .val (.ref b6), .val (.int v115), .val (.int r119), .val (.int (1 : Int32)), .val (.int r140), .unset] [])) _
      refine XS.iconst X155.here hx rfl (hb hby at_135) ?_
      show Steps p.tables e below (T155.setTop (mkF m 136 #[.val (.int p1), .val (.int p2), .val (.int p3), .val (.int p4), .val (.int v2), .val (.int v3), .val (.ref b6), .val (.int v115), .val (.int r119), .val (.int (1 : Int32)), .val (.int r140), .unset] [(.int (1 : Int32))])) _
      refine XS.goto X155.here hx rfl (pc0 := 136) (pc' := 140) rfl (hb hby at_136) (by decide) (by decide) ?_
      show Steps p.tables e below (T155.setTop (mkF m 140 #[.val (.int p1), .val (.int p2), .val (.int p3), .val (.int p4), .val (.int v2), .val (.int v3), .val (.ref b6), .val (.int v115), .val (.int r119), .val (.int (1 : Int32)), .val (.int r140), .unset] [(.int (1 : Int32))])) _
      refine XS.istore X155.here hx rfl (hb hby at_140) rfl (l' := #[.val (.int p1), .val (.int p2), .val (.int p3), .val (.int p4), .val (.int v2), .val (.int v3), .val (.ref b6), .val (.int v115), .val (.int r119), .val (.int (1 : Int32)), .val (.int r140), .val (.int (1 : Int32))]) rfl ?_
      show Steps p.tables e below (T155.setTop (mkF m 142 #[.val (.int p1), .val (.int p2), .val (.int p3), .val (.int p4), .val (.int v2), .val (.int v3), .val (.ref b6), .val (.int v115), .val (.int r119), .val (.int (1 : Int32)), .val (.int r140), .val (.int (1 : Int32))] [])) _
      refine XS.iload X155.here hx rfl (hb hby at_142) rfl ?_
      show Steps p.tables e below (T155.setTop (mkF m 144 #[.val (.int p1), .val (.int p2), .val (.int p3), .val (.int p4), .val (.int v2), .val (.int v3), .val (.ref b6), .val (.int v115), .val (.int r119), .val (.int (1 : Int32)), .val (.int r140), .val (.int (1 : Int32))] [(.int (1 : Int32))])) _
      refine XS.ifNo X155.here hx rfl (hb hby at_144) rfl ((if0 _ _).trans (feq (by decide : ¬ ((1 : Int32) = (0 : Int32)))).1) ?_
      exact kq
    have pre160 : ∀ tq, Steps p.tables e below (T155.setTop (mkF m 152 #[.val (.int p1), .val (.int p2), .val (.int p3), .val (.int p4), .val (.int v2), .val (.int v3), .val (.ref b6), .val (.int v115), .val (.int r119), .val (.int (1 : Int32)), .val (.int r140), .val (.int (1 : Int32))] [])) tq → Steps p.tables e below (s₁.setTop (entryFrame m #[(.int p1), (.int p2), (.int p3), (.int p4)] maxLocals)) tq := by
      refine fun tq kq => pre159 tq ?_
      show Steps p.tables e below (T155.setTop (mkF m 147 #[.val (.int p1), .val (.int p2), .val (.int p3), .val (.int p4), .val (.int v2), .val (.int v3), .val (.ref b6), .val (.int v115), .val (.int r119), .val (.int (1 : Int32)), .val (.int r140), .val (.int (1 : Int32))] [])) _
      refine XS.iload X155.here hx rfl (hb hby at_147) rfl ?_
      show Steps p.tables e below (T155.setTop (mkF m 149 #[.val (.int p1), .val (.int p2), .val (.int p3), .val (.int p4), .val (.int v2), .val (.int v3), .val (.ref b6), .val (.int v115), .val (.int r119), .val (.int (1 : Int32)), .val (.int r140), .val (.int (1 : Int32))] [(.int (1 : Int32))])) _
      refine XS.ifNo X155.here hx rfl (hb hby at_149) rfl ((if0 _ _).trans (feq (by decide : ¬ ((1 : Int32) = (0 : Int32)))).1) ?_
      exact kq
    obtain ⟨fs, hr, hrun, hended, hW, hsame⟩ := X155.leave (v := some (.int (1 : Int32))) (fun h => by rw [Bd.returns] at h; cases h)
    refine ⟨_, _, pre160 _ ?_, hrun, hended, _, _, rfl, ?_, ⟨_, rfl⟩, hW, hsame.mono (by decide) (by decide)⟩
    · skip
      show Steps p.tables e below (T155.setTop (mkF m 152 #[.val (.int p1), .val (.int p2), .val (.int p3), .val (.int p4), .val (.int v2), .val (.int v3), .val (.ref b6), .val (.int v115), .val (.int r119), .val (.int (1 : Int32)), .val (.int r140), .val (.int (1 : Int32))] [])) _
      refine XS.iconst X155.here hx rfl (hb hby at_152) ?_
      show Steps p.tables e below (T155.setTop (mkF m 153 #[.val (.int p1), .val (.int p2), .val (.int p3), .val (.int p4), .val (.int v2), .val (.int v3), .val (.ref b6), .val (.int v115), .val (.int r119), .val (.int (1 : Int32)), .val (.int r140), .val (.int (1 : Int32))] [(.int (1 : Int32))])) _
      refine XS.goto X155.here hx rfl (pc0 := 153) (pc' := 157) rfl (hb hby at_153) (by decide) (by decide) ?_
      show Steps p.tables e below (T155.setTop (mkF m 157 #[.val (.int p1), .val (.int p2), .val (.int p3), .val (.int p4), .val (.int v2), .val (.int v3), .val (.ref b6), .val (.int v115), .val (.int r119), .val (.int (1 : Int32)), .val (.int r140), .val (.int (1 : Int32))] [(.int (1 : Int32))])) _
      exact retN X155 hx (t := .boolean) Bd.returns (by simp) (hb hby at_157) hr
    · show Q0 Z p1 p2 p3 p4 h0 n0 _ T155.heap _
      rw [ehq155]
      exact ⟨rfl, N155⟩
set_option maxRecDepth 65536 in
set_option maxHeartbeats 40000000 in
theorem comes_1 {Post : Tables → Env → Array Value → State → Outcome → State → Prop} (hpost : ∀ tb e args s v u, (limb_1_1.after args s (.returned v) u = true ∧ limb_1_2.after args s (.returned v) u = true ∧ True) → FrameEnd s (.returned v) u (Jvm.fieldLocs frame_1_writes args s ++ Jvm.arrayLocs frame_1_arrays args s ++ Jvm.staticLocs frame_1_statics s) 24 128 → Post tb e args s (.returned v) u) :
    ArmFor flags0 classFile x code maxLocals ret World_1 tables_1 room_1 Calls_1 rest_1 Pre_1 Post := by
  intro l hfl _ _ p e ha hc hk s m args below hf hA hF happ hP
  obtain ⟨hcalls, hrest, hpre⟩ := hP
  obtain ⟨-, -, -, hnamed, -, -, -, hat⟩ := (Spec.applies_iff hf).mp happ
  obtain ⟨hg, hn⟩ := and_e (Cond.before_iff.mp (show (Jvm.Cond.and given_1 narrow_1).before args s = true from hpre))
  obtain ⟨k0, g0⟩ := and_e hg
  obtain ⟨k1, g1⟩ := and_e g0
  obtain ⟨k2, g2⟩ := and_e g1
  obtain ⟨k3, g3⟩ := and_e g2
  obtain ⟨w0, w1, w2, w3, rfl⟩ : ∃ w0 w1 w2 w3 : Value, args = #[w0, w1, w2, w3] := by
    have hs : args.size = 4 := by simpa [Cond.value, given_1] using k0
    obtain ⟨L⟩ := args
    match L, hs with
    | [w0, w1, w2, w3], _ => exact ⟨w0, w1, w2, w3, rfl⟩
  have hw := fun d (hd : d ∈ tables_1) => atoms_spec (ws := Jvm.Cond.code x code maxLocals ret :: tables_1) hat d (List.mem_cons_of_mem _ hd)
  have hfit : Fit s := fun {y c} hc i hi => by
    obtain ⟨ha, rfl⟩ := Array.getElem?_eq_some_iff.mp hc
    have q := List.all_eq_true.mp ((Array.all_eq_true_iff_forall_mem.mp hF) _ (Array.getElem_mem ha)) i (List.mem_range.mpr hi)
    simpa [Array.getElem?_eq_getElem hi] using q
  obtain ⟨i0, ei0⟩ := is_v k1
  obtain rfl : w0 = (.int i0) := Option.some.inj ei0
  obtain ⟨i1, ei1⟩ := is_v k2
  obtain rfl : w1 = (.int i1) := Option.some.inj ei1
  obtain ⟨i2, ei2⟩ := is_v k3
  obtain rfl : w2 = (.int i2) := Option.some.inj ei2
  obtain ⟨i3, ei3⟩ := is_v g3
  obtain rfl : w3 = (.int i3) := Option.some.inj ei3
  obtain ⟨n, o, h1, h2, h3, _, L, rfl, ⟨rfl, N⟩, hq⟩ := rm0 l s _ hw tables_1 i0 i1 i2 i3  s.heap s.heap.size (Nat.le_refl _)  p e ha hc hk s m _ below hf ((Spec.applies_iff_loose hf).mp happ).1 ⟨rfl, State.Warmed39.refl s, rfl⟩ trivial
  refine ⟨n, _, h1, h2, h3, hpost _ _ _ _ _ _ ⟨Cond.after_iff.mpr rfl, Cond.after_iff.mpr (eq_i res_at (Term.int_eval (1)) rfl), trivial⟩ ⟨hq.1, hq.2.1, (hq.2.2.sift fun y hy => Or.inr (N y hy)).mono (by decide) (by decide)⟩⟩
theorem main_1_1 : Claimed_1_1 := comes_1 fun _ _ _ _ _ _ h hF => ⟨h.1, hF⟩
theorem main_1_2 : Claimed_1_2 := comes_1 fun _ _ _ _ _ _ h hF => ⟨h.2.1, hF⟩
end Jvm.Pilot.@@N@@
namespace Jvm.Pilot.@@N@@
open Jvm Jvm.ClassFile Sem Op Lib Jvm.Free Jvm.Stand Jvm.Pilot.@@N@@.Jvm.D
/-! MADE BY PROGRAM (witnessworld.py) out of the Statement's table words and the real class files: 10 classes; the members and pool entries that the words name. The judged class is class 1, her method 1. -/
namespace start1
open Jvm.ClassFile
def u (s : String) : CpInfo := .utf8 (stringToUtf16 s)
/-- a pool by its gaps: so many unusable entries, then the entry; so many at the end -/
def gap : Nat → List CpInfo → List CpInfo
  | 0, r => r
  | n + 1, r => .unusable :: gap n r
def poolList (es : List (Nat × CpInfo)) (last : Nat) : List CpInfo := es.foldr (fun e r => gap e.1 (e.2 :: r)) (gap last [])
def pool (es : List (Nat × CpInfo)) (last : Nat) : Array CpInfo := ⟨poolList es last⟩
def fileOf (pool : Array CpInfo) (this : Nat) (attrs : Array Attribute := #[]) (ms : Array MethodInfo := #[]) (fl : Nat := 33) (sup : Nat := 0) (ifs : Array Nat := #[]) (fds : Array FieldInfo := #[]) : ClassFile where
  minorVersion := 0
  majorVersion := 65
  constantPool := pool
  accessFlags := fl
  thisClass := this
  superClass := sup
  interfaces := ifs
  fields := fds
  methods := ms
  attributes := attrs
def plain (name : String) (sup : Option ClassId) : Class where
  name := name
  kind := .ordinary
  loader := none
  accessFlags := 33
  super := sup
  interfaces := #[]
  cf := none
  fields := #[]
  methods := #[]
  instanceTypes := #[]
  staticTypes := #[]
  resolved := #[]
  callSites := []
  init := .initialized
  statics := none
  mirror := none

def pool0 : Array CpInfo := pool [(5, u "<init>"), (0, u "()V"), (1, .class_ 10), (1, u "java/lang/Object")] 113

def k0c0 : Code := { maxStack := 0, maxLocals := 1, code := object_method_1_code, exceptionTable := #[], attributes := #[] }
def k0m0 : Method := { name := "<init>", desc := "()V", sig := { parameters := [], returnType := none }, accessFlags := 1, code := some k0c0 }
/-- java/lang/Object -/
def k0 : Class := { plain "java/lang/Object" none with
  accessFlags := 33
  interfaces := #[]
  cf := some (fileOf pool0 8 #[] #[{ accessFlags := 1, nameIndex := 5, descriptorIndex := 6, attributes := #[] }] 33 0 #[] #[])
  fields := #[]
  methods := #[k0m0]
  instanceTypes := #[]
  staticTypes := #[]
  resolved := Array.replicate 124 none
  statics := none }

def pool1 : Array CpInfo := pool [(2, .class_ 4), (1, u "java/lang/Object"), (0, u "<init>"), (0, u "()V"), (0, .integer 2147483647), (0, .class_ 9), (0, u "com/example/latchwork/latchwork/history/EdgeList"), (0, .methodref 8 11), (0, .nameAndType 5 12), (0, u "(I)V"), (0, .methodref 8 14), (0, .nameAndType 15 16), (0, u "add"), (0, u "(II)V"), (0, .methodref 8 18), (0, .nameAndType 19 20), (0, u "addVertex"), (0, u "()I"), (0, .methodref 8 22), (0, .nameAndType 23 20), (0, u "vertices"), (0, .methodref 8 25), (0, .nameAndType 26 20), (0, u "size"), (0, .class_ 28), (0, u "com/example/latchwork/latchwork/history/EdgeListAddVertexPinLaw"), (2, u "law"), (0, u "(IIII)Z")] 3

def k1m0 : Method := { name := "<init>", desc := "()V", sig := { parameters := [], returnType := none }, accessFlags := 1, code := none }
def k1c1 : Code := { maxStack := 3, maxLocals := 12, code := code, exceptionTable := #[], attributes := #[] }
def k1m1 : Method := { name := "law", desc := "(IIII)Z", sig := { parameters := [.int, .int, .int, .int], returnType := some .boolean }, accessFlags := 9, code := some k1c1 }
/-- com/example/latchwork/latchwork/history/EdgeListAddVertexPinLaw -/
def k1 : Class := { plain "com/example/latchwork/latchwork/history/EdgeListAddVertexPinLaw" (some 0) with
  accessFlags := 49
  interfaces := #[]
  cf := some (fileOf pool1 27 #[] #[{ accessFlags := 1, nameIndex := 5, descriptorIndex := 6, attributes := #[] }, { accessFlags := 9, nameIndex := 31, descriptorIndex := 32, attributes := #[] }] 49 2 #[] #[])
  fields := #[]
  methods := #[k1m0, k1m1]
  instanceTypes := #[]
  staticTypes := #[]
  resolved := Array.replicate 36 none
  statics := none }

def pool2 : Array CpInfo := pool [(1, .methodref 2 3), (0, .class_ 4), (0, .nameAndType 5 6), (0, u "java/lang/Object"), (0, u "<init>"), (0, u "()V"), (0, .class_ 8), (0, u "com/example/latchwork/latchwork/history/IntList"), (0, .methodref 7 3), (0, .fieldref 11 12), (0, .class_ 13), (0, .nameAndType 14 15), (0, u "com/example/latchwork/latchwork/history/EdgeList"), (0, u "tails"), (0, u "Lcom/example/latchwork/latchwork/history/IntList;"), (0, .fieldref 11 17), (0, .nameAndType 18 15), (0, u "heads"), (0, .fieldref 11 20), (0, .nameAndType 21 22), (0, u "vertices"), (0, u "I"), (0, .methodref 7 24), (0, .nameAndType 25 26), (0, u "add"), (0, u "(I)V"), (0, .methodref 7 28), (0, .nameAndType 29 30), (0, u "size"), (0, u "()I"), (8, .class_ 40), (0, u "com/example/latchwork/latchwork/history/EdgeList$Adjacency"), (5, u "addVertex"), (0, u "(II)V")] 11

def k2c0 : Code := { maxStack := 3, maxLocals := 2, code := prog_22_method_1_code, exceptionTable := #[], attributes := #[] }
def k2m0 : Method := { name := "<init>", desc := "(I)V", sig := { parameters := [.int], returnType := none }, accessFlags := 0, code := some k2c0 }
def k2c1 : Code := { maxStack := 4, maxLocals := 1, code := prog_22_method_2_code, exceptionTable := #[], attributes := #[] }
def k2m1 : Method := { name := "addVertex", desc := "()I", sig := { parameters := [], returnType := some .int }, accessFlags := 0, code := some k2c1 }
def k2c2 : Code := { maxStack := 2, maxLocals := 3, code := prog_22_method_3_code, exceptionTable := #[], attributes := #[] }
def k2m2 : Method := { name := "add", desc := "(II)V", sig := { parameters := [.int, .int], returnType := none }, accessFlags := 0, code := some k2c2 }
def k2c3 : Code := { maxStack := 1, maxLocals := 1, code := prog_22_method_4_code, exceptionTable := #[], attributes := #[] }
def k2m3 : Method := { name := "vertices", desc := "()I", sig := { parameters := [], returnType := some .int }, accessFlags := 0, code := some k2c3 }
def k2c4 : Code := { maxStack := 1, maxLocals := 1, code := prog_22_method_5_code, exceptionTable := #[], attributes := #[] }
def k2m4 : Method := { name := "size", desc := "()I", sig := { parameters := [], returnType := some .int }, accessFlags := 0, code := some k2c4 }
/-- com/example/latchwork/latchwork/history/EdgeList -/
def k2 : Class := { plain "com/example/latchwork/latchwork/history/EdgeList" (some 0) with
  accessFlags := 48
  interfaces := #[]
  cf := some (fileOf pool2 11 #[.nestMembers #[39]] #[{ accessFlags := 0, nameIndex := 5, descriptorIndex := 26, attributes := #[] }, { accessFlags := 0, nameIndex := 46, descriptorIndex := 30, attributes := #[] }, { accessFlags := 0, nameIndex := 25, descriptorIndex := 47, attributes := #[] }, { accessFlags := 0, nameIndex := 21, descriptorIndex := 30, attributes := #[] }, { accessFlags := 0, nameIndex := 29, descriptorIndex := 30, attributes := #[] }] 48 2 #[] #[{ accessFlags := 18, nameIndex := 14, descriptorIndex := 15, attributes := #[] }, { accessFlags := 18, nameIndex := 18, descriptorIndex := 15, attributes := #[] }, { accessFlags := 2, nameIndex := 21, descriptorIndex := 22, attributes := #[] }])
  fields := #[{ name := "tails", type := (.object "com/example/latchwork/latchwork/history/IntList"), accessFlags := 18, slot := 0, constantValue := 0 }, { name := "heads", type := (.object "com/example/latchwork/latchwork/history/IntList"), accessFlags := 18, slot := 1, constantValue := 0 }, { name := "vertices", type := .int, accessFlags := 2, slot := 2, constantValue := 0 }]
  methods := #[k2m0, k2m1, k2m2, k2m3, k2m4]
  instanceTypes := #[(.object "com/example/latchwork/latchwork/history/IntList"), (.object "com/example/latchwork/latchwork/history/IntList"), .int]
  staticTypes := #[]
  resolved := Array.replicate 59 none
  statics := none }

def pool3 : Array CpInfo := pool [(1, .methodref 2 3), (0, .class_ 4), (0, .nameAndType 5 6), (0, u "java/lang/Object"), (0, u "<init>"), (0, u "()V"), (0, .fieldref 8 9), (0, .class_ 10), (0, .nameAndType 11 12), (0, u "com/example/latchwork/latchwork/history/IntList"), (0, u "values"), (0, u "[I"), (0, .fieldref 8 14), (0, .nameAndType 15 16), (0, u "size"), (0, u "I"), (10, u "(I)V"), (2, u "add"), (4, u "()I")] 2

def k3c0 : Code := { maxStack := 2, maxLocals := 1, code := prog_27_method_1_code, exceptionTable := #[], attributes := #[] }
def k3m0 : Method := { name := "<init>", desc := "()V", sig := { parameters := [], returnType := none }, accessFlags := 0, code := some k3c0 }
def k3c1 : Code := { maxStack := 4, maxLocals := 2, code := prog_27_method_2_code, exceptionTable := #[], attributes := #[] }
def k3m1 : Method := { name := "add", desc := "(I)V", sig := { parameters := [.int], returnType := none }, accessFlags := 0, code := some k3c1 }
def k3c2 : Code := { maxStack := 1, maxLocals := 1, code := prog_27_method_5_code, exceptionTable := #[], attributes := #[] }
def k3m2 : Method := { name := "size", desc := "()I", sig := { parameters := [], returnType := some .int }, accessFlags := 0, code := some k3c2 }
/-- com/example/latchwork/latchwork/history/IntList -/
def k3 : Class := { plain "com/example/latchwork/latchwork/history/IntList" (some 0) with
  accessFlags := 48
  interfaces := #[]
  cf := some (fileOf pool3 8 #[] #[{ accessFlags := 0, nameIndex := 5, descriptorIndex := 6, attributes := #[] }, { accessFlags := 0, nameIndex := 30, descriptorIndex := 27, attributes := #[] }, { accessFlags := 0, nameIndex := 15, descriptorIndex := 35, attributes := #[] }] 48 2 #[] #[{ accessFlags := 2, nameIndex := 11, descriptorIndex := 12, attributes := #[] }, { accessFlags := 2, nameIndex := 15, descriptorIndex := 16, attributes := #[] }])
  fields := #[{ name := "values", type := (.array .int), accessFlags := 2, slot := 0, constantValue := 0 }, { name := "size", type := .int, accessFlags := 2, slot := 1, constantValue := 0 }]
  methods := #[k3m0, k3m1, k3m2]
  instanceTypes := #[(.array .int), .int]
  staticTypes := #[]
  resolved := Array.replicate 38 none
  statics := none }

def pool4 : Array CpInfo := pool [(1, u "java/lang/Cloneable"), (0, .class_ 1), (0, u "java/lang/Object"), (0, .class_ 3)] 3

/-- java/lang/Cloneable -/
def k4 : Class := { plain "java/lang/Cloneable" (some 0) with
  accessFlags := 1537
  interfaces := #[]
  cf := some (fileOf pool4 2 #[] #[] 1537 4 #[] #[])
  fields := #[]
  methods := #[]
  instanceTypes := #[]
  staticTypes := #[]
  resolved := Array.replicate 8 none
  statics := none }

def pool5 : Array CpInfo := pool [(1, u "java/io/Serializable"), (0, .class_ 1), (0, u "java/lang/Object"), (0, .class_ 3)] 3

/-- java/io/Serializable -/
def k5 : Class := { plain "java/io/Serializable" (some 0) with
  accessFlags := 1537
  interfaces := #[]
  cf := some (fileOf pool5 2 #[] #[] 1537 4 #[] #[])
  fields := #[]
  methods := #[]
  instanceTypes := #[]
  staticTypes := #[]
  resolved := Array.replicate 8 none
  statics := none }

/-- the primitive byte -/
def k6 : Class := { plain "byte" none with kind := .primitive 'B', accessFlags := 0x411 }
/-- [B -/
def k7 : Class := { plain "[B" (some 0) with kind := .array 6 .byte, interfaces := #[4, 5], accessFlags := 1041 }

/-- the primitive int -/
def k8 : Class := { plain "int" none with kind := .primitive 'I', accessFlags := 0x411 }
/-- [I -/
def k9 : Class := { plain "[I" (some 0) with kind := .array 8 .int, interfaces := #[4, 5], accessFlags := 1041 }

def heap : Heap := #[]
def classes : Array Class := #[k0, k1, k2, k3, k4, k5, k6, k7, k8, k9]
def interned : List (Array UInt16 × Addr) := []
def slotsUsed : Nat := 0
def theMethod : MethodId := ⟨1, 1⟩
def args0 : Array Value := #[.int 5, .int 1, .int 2, .int 3]
def aboutOver (below : List Frame) : State where
  vm := { classes := classes, interned := interned.toArray }
  heap := heap
  slotsUsed := slotsUsed
  threads := #[{ frames := .invoking theMethod args0 :: below }]
def below0 : List Frame := [.native { method := ⟨0, 0⟩, args := #[] }]
def about1 : State := aboutOver below0
def p0 : Program := .bare "" "" ""
def e0 : Env := launch0.env 0 0 0
theorem w_frames : about1.frames = Frame.invoking theMethod args0 :: below0 := rfl
set_option maxRecDepth 65536 in
theorem w_args : argsFit about1.vm theMethod args0 = true := by decide +kernel
set_option maxRecDepth 65536 in
theorem w_heap : heapFits about1 = true := by decide +kernel
set_option maxRecDepth 65536 in
theorem w_runnable : about1.curStatus? = some .runnable := by decide +kernel
set_option maxRecDepth 65536 in
theorem w_alone : about1.alone = true := by decide +kernel
set_option maxRecDepth 65536 in
theorem w_named : about1.methodNamed? x = some theMethod := by decide +kernel
set_option maxRecDepth 65536 in
theorem w_hears : about1.hears theMethod below0 = true := by decide +kernel
set_option maxRecDepth 65536 in
theorem w_ripe : about1.ripe theMethod args0 below0 = true := by decide +kernel
theorem w_running : about1.status = .running := rfl
set_option maxRecDepth 65536 in
theorem w_room : about1.hasRoom e0.platform room_1 = true :=
  launch0.hasRoom_least _ room_1 (by decide +kernel) (by decide +kernel) (by decide +kernel) (by decide +kernel) (by decide +kernel) (by decide +kernel)
theorem allAtoms_all (ts : List Jvm.Cond) (a : Array Jvm.Value) (st : Jvm.State) : (allAtoms ts).before a st = ts.all (fun c => c.before a st) := by
  induction ts with
  | nil => rfl
  | cons c t ih =>
    show (Jvm.Cond.and c (allAtoms t)).before a st = _
    rw [Jvm.Cond.before_and, ih, List.all_cons]
def words1 : List Jvm.Cond := Jvm.Cond.code x code maxLocals ret :: tables_1
/-- a 'code' word, met by the world's own term for the bytes: nothing is compared byte by byte -/
theorem code_word {y : MethodName} {bytes : ByteArray} {mx : Nat} {rt : Option FieldType} {a : Array Value} {s : State} {m : MethodId} {meth : Method} {c : Code} (h1 : s.methodNamed? y = some m) (h2 : s.vm.method? m = some meth) (h3 : meth.code = some c) (h4 : c.code = bytes)
    (h5 : (c.maxLocals == mx && c.exceptionTable.isEmpty && decide (c.maxStack ≤ mostOperands) && decide (meth.sig.returnType = rt) && !meth.locks && decide (parseMethodDescriptor y.desc = some meth.sig)) = true) : (Jvm.Cond.code y bytes mx rt).before a s = true := by
  simp only [Bool.and_eq_true, beq_iff_eq, Bool.not_eq_true', decide_eq_true_eq] at h5
  obtain ⟨⟨⟨⟨⟨g1, g2⟩, g3⟩, g4⟩, g5⟩, g6⟩ := h5
  simp [Cond.before, Cond.holds, Cond.value, h1, h2, h3, h4, g1, g2, g3, g4, g5, g6]
def isCode : Jvm.Cond → Bool
  | .code _ _ _ _ => true
  | _ => false
theorem all_split {L : List Jvm.Cond} {P : Jvm.Cond → Bool} (h1 : L.all (fun c => isCode c || P c) = true) (h2 : ∀ c ∈ L.filter isCode, P c = true) : L.all P = true := by
  refine List.all_eq_true.mpr fun c hc => ?_
  have h := List.all_eq_true.mp h1 c hc
  rcases Bool.eq_false_or_eq_true (isCode c) with hi | hi
  · exact h2 c (List.mem_filter.mpr ⟨hc, hi⟩)
  · simpa [hi] using h
set_option maxRecDepth 65536 in
theorem w_c0 : (Jvm.Cond.code x code maxLocals ret).before args0 about1 = true := code_word (m := ⟨1, 1⟩) (meth := k1m1) (c := k1c1) (by decide +kernel) rfl rfl rfl (by decide +kernel)
set_option maxRecDepth 65536 in
theorem w_c1 : (Jvm.Cond.code ({ cls := "com/example/latchwork/latchwork/history/EdgeList", name := "<init>", desc := "(I)V" } : Jvm.MethodName) prog_22_method_1_code (2 : Nat) (Option.none : Option Jvm.ClassFile.FieldType)).before args0 about1 = true := code_word (m := ⟨2, 0⟩) (meth := k2m0) (c := k2c0) (by decide +kernel) rfl rfl rfl (by decide +kernel)
set_option maxRecDepth 65536 in
theorem w_c2 : (Jvm.Cond.code ({ cls := "java/lang/Object", name := "<init>", desc := "()V" } : Jvm.MethodName) object_method_1_code (1 : Nat) (Option.none : Option Jvm.ClassFile.FieldType)).before args0 about1 = true := code_word (m := ⟨0, 0⟩) (meth := k0m0) (c := k0c0) (by decide +kernel) rfl rfl rfl (by decide +kernel)
set_option maxRecDepth 65536 in
theorem w_c3 : (Jvm.Cond.code ({ cls := "com/example/latchwork/latchwork/history/IntList", name := "<init>", desc := "()V" } : Jvm.MethodName) prog_27_method_1_code (1 : Nat) (Option.none : Option Jvm.ClassFile.FieldType)).before args0 about1 = true := code_word (m := ⟨3, 0⟩) (meth := k3m0) (c := k3c0) (by decide +kernel) rfl rfl rfl (by decide +kernel)
set_option maxRecDepth 65536 in
theorem w_c4 : (Jvm.Cond.code ({ cls := "com/example/latchwork/latchwork/history/EdgeList", name := "add", desc := "(II)V" } : Jvm.MethodName) prog_22_method_3_code (3 : Nat) (Option.none : Option Jvm.ClassFile.FieldType)).before args0 about1 = true := code_word (m := ⟨2, 2⟩) (meth := k2m2) (c := k2c2) (by decide +kernel) rfl rfl rfl (by decide +kernel)
set_option maxRecDepth 65536 in
theorem w_c5 : (Jvm.Cond.code ({ cls := "com/example/latchwork/latchwork/history/IntList", name := "add", desc := "(I)V" } : Jvm.MethodName) prog_27_method_2_code (2 : Nat) (Option.none : Option Jvm.ClassFile.FieldType)).before args0 about1 = true := code_word (m := ⟨3, 1⟩) (meth := k3m1) (c := k3c1) (by decide +kernel) rfl rfl rfl (by decide +kernel)
set_option maxRecDepth 65536 in
theorem w_c6 : (Jvm.Cond.code ({ cls := "com/example/latchwork/latchwork/history/EdgeList", name := "addVertex", desc := "()I" } : Jvm.MethodName) prog_22_method_2_code (1 : Nat) (Option.some Jvm.ClassFile.FieldType.int)).before args0 about1 = true := code_word (m := ⟨2, 1⟩) (meth := k2m1) (c := k2c1) (by decide +kernel) rfl rfl rfl (by decide +kernel)
set_option maxRecDepth 65536 in
theorem w_c7 : (Jvm.Cond.code ({ cls := "com/example/latchwork/latchwork/history/EdgeList", name := "vertices", desc := "()I" } : Jvm.MethodName) prog_22_method_4_code (1 : Nat) (Option.some Jvm.ClassFile.FieldType.int)).before args0 about1 = true := code_word (m := ⟨2, 3⟩) (meth := k2m3) (c := k2c3) (by decide +kernel) rfl rfl rfl (by decide +kernel)
set_option maxRecDepth 65536 in
theorem w_c8 : (Jvm.Cond.code ({ cls := "com/example/latchwork/latchwork/history/EdgeList", name := "size", desc := "()I" } : Jvm.MethodName) prog_22_method_5_code (1 : Nat) (Option.some Jvm.ClassFile.FieldType.int)).before args0 about1 = true := code_word (m := ⟨2, 4⟩) (meth := k2m4) (c := k2c4) (by decide +kernel) rfl rfl rfl (by decide +kernel)
set_option maxRecDepth 65536 in
theorem w_c9 : (Jvm.Cond.code ({ cls := "com/example/latchwork/latchwork/history/IntList", name := "size", desc := "()I" } : Jvm.MethodName) prog_27_method_5_code (1 : Nat) (Option.some Jvm.ClassFile.FieldType.int)).before args0 about1 = true := code_word (m := ⟨3, 2⟩) (meth := k3m2) (c := k3c2) (by decide +kernel) rfl rfl rfl (by decide +kernel)
def codes1 : List Jvm.Cond := [Jvm.Cond.code x code maxLocals ret, Jvm.Cond.code ({ cls := "com/example/latchwork/latchwork/history/EdgeList", name := "<init>", desc := "(I)V" } : Jvm.MethodName) prog_22_method_1_code (2 : Nat) (Option.none : Option Jvm.ClassFile.FieldType), Jvm.Cond.code ({ cls := "java/lang/Object", name := "<init>", desc := "()V" } : Jvm.MethodName) object_method_1_code (1 : Nat) (Option.none : Option Jvm.ClassFile.FieldType), Jvm.Cond.code ({ cls := "com/example/latchwork/latchwork/history/IntList", name := "<init>", desc := "()V" } : Jvm.MethodName) prog_27_method_1_code (1 : Nat) (Option.none : Option Jvm.ClassFile.FieldType), Jvm.Cond.code ({ cls := "com/example/latchwork/latchwork/history/EdgeList", name := "add", desc := "(II)V" } : Jvm.MethodName) prog_22_method_3_code (3 : Nat) (Option.none : Option Jvm.ClassFile.FieldType), Jvm.Cond.code ({ cls := "com/example/latchwork/latchwork/history/IntList", name := "add", desc := "(I)V" } : Jvm.MethodName) prog_27_method_2_code (2 : Nat) (Option.none : Option Jvm.ClassFile.FieldType), Jvm.Cond.code ({ cls := "com/example/latchwork/latchwork/history/EdgeList", name := "addVertex", desc := "()I" } : Jvm.MethodName) prog_22_method_2_code (1 : Nat) (Option.some Jvm.ClassFile.FieldType.int), Jvm.Cond.code ({ cls := "com/example/latchwork/latchwork/history/EdgeList", name := "vertices", desc := "()I" } : Jvm.MethodName) prog_22_method_4_code (1 : Nat) (Option.some Jvm.ClassFile.FieldType.int), Jvm.Cond.code ({ cls := "com/example/latchwork/latchwork/history/EdgeList", name := "size", desc := "()I" } : Jvm.MethodName) prog_22_method_5_code (1 : Nat) (Option.some Jvm.ClassFile.FieldType.int), Jvm.Cond.code ({ cls := "com/example/latchwork/latchwork/history/IntList", name := "size", desc := "()I" } : Jvm.MethodName) prog_27_method_5_code (1 : Nat) (Option.some Jvm.ClassFile.FieldType.int)]
set_option maxRecDepth 65536 in
theorem codes_eq : words1.filter isCode = codes1 := rfl
theorem w_codes : ∀ c ∈ words1.filter isCode, c.before args0 about1 = true := by
  rw [codes_eq]
  intro c hc
  simp only [codes1, List.mem_cons, List.not_mem_nil, or_false] at hc
  rcases hc with rfl | rfl | rfl | rfl | rfl | rfl | rfl | rfl | rfl | rfl
  · exact w_c0
  · exact w_c1
  · exact w_c2
  · exact w_c3
  · exact w_c4
  · exact w_c5
  · exact w_c6
  · exact w_c7
  · exact w_c8
  · exact w_c9
set_option maxRecDepth 65536 in
theorem w_t1 : (words1.take 24).all (fun c => isCode c || c.before args0 about1) = true := by decide +kernel
set_option maxRecDepth 65536 in
theorem w_t2 : ((words1.drop 24).take 24).all (fun c => isCode c || c.before args0 about1) = true := by decide +kernel
set_option maxRecDepth 65536 in
theorem w_t3 : ((words1.drop 24).drop 24).all (fun c => isCode c || c.before args0 about1) = true := by decide +kernel
theorem w_tables : (allAtoms (Jvm.Cond.code x code maxLocals ret :: tables_1)).before args0 about1 = true := by
  rw [allAtoms_all]
  show words1.all (fun c => c.before args0 about1) = true
  refine all_split ?_ w_codes
  rw [← List.take_append_drop 24 words1, List.all_append, w_t1, ← List.take_append_drop 24 (words1.drop 24), List.all_append, w_t2, w_t3]
  rfl
set_option maxRecDepth 65536 in
theorem w_case : (Jvm.Cond.and given_1 narrow_1).before args0 about1 = true := by decide +kernel
theorem w_applies : (headSpec (Jvm.Cond.code x code maxLocals ret :: tables_1) room_1).applies x e0.platform about1 = true :=
  (Spec.applies_iff w_frames).mpr ⟨w_running, w_runnable, w_alone, w_named, w_hears, w_ripe, w_room, w_tables⟩
theorem atStart : AtStart classFile x code maxLocals ret World_1 tables_1 room_1 Calls_1 rest_1 Pre_1 launch0 p0 e0 about1 theMethod args0 below0 :=
  ⟨lists_1, trivial, launch0.admits_env _ _ _, launch0.least_env, fairChoices_fair.cas, fairChoices_fair.clock, w_frames, w_args, w_heap, w_applies, trivial, trivial, w_case⟩
end start1
theorem witness_1 : WitnessClaimed_1 := ⟨start1.p0, start1.e0, start1.about1, start1.theMethod, start1.args0, start1.below0, start1.atStart⟩
end Jvm.Pilot.@@N@@
